/- The contract of 'impl.Join'. -/
import Derived.Test.YtmoaeeiggkaicaaJoE
import Derived.Deep.RegionHeld3
namespace Go.Proofs.Ytmoaeeiggkaicaa
open Go.RowKit Stamp
set_option linter.unusedVariables false

theorem Done_calls (w : World) (B j : Nat) (acc : List UInt8) (k : Nat) (h : JC w B j acc k) (hal : acc.length ≤ 33554432) (hk : k ≤ 33554432) : Calls Try.prog 15 #[.pointer (some ⟨j, 0, none⟩)] w (DonePost acc w) := by
  obtain ⟨ss, bb, h1, h2, h3, h4⟩ := h
  by_cases hn : ss = [] ∧ ∃ x, bb = [x] ∧ x.off = 0
  · obtain ⟨rfl, x, rfl, h0⟩ := hn
    exact Done_fast w B j acc x h1 h0 h2
  · exact Done_slow w B j acc ss bb h1 hn h2 hal (by omega) (by omega)

set_option maxRecDepth 100000 in
set_option maxHeartbeats 1000000 in
theorem Join_calls (A : Option Addr) (c : Nat) (l : List (Int × ByteArray)) (w : World) (hh : Holds w w.heap.size A (stCells l)) (hw : weight l ≤ 16777300) (hk1 : ∀ x ∈ l, x.2.size ≤ 16777216) :
    Calls Try.prog 10 #[.slice A l.length c] w fun e w' => e = .returned (.tuple #[.int .i64 ((joinAll l).length : Int), .int .u8 ((lastB (joinAll l)).toNat : Int), .string ⟨(joinAll l).toArray⟩]) ∧ Below w.heap.size w w' := by
  have HJ := Lib.hid (joined_calls A c l w hh hw hk1)
  have hlen : (joinAll l).length ≤ 16777300 := Nat.le_trans (joinAll_len l) hw
  have hll : l.length ≤ 16777300 := Nat.le_trans (weight_len l) hw
  obtain ⟨acc, Hacc⟩ : ∃ acc, acc = joinAll l := ⟨_, rfl⟩
  rw [← Hacc] at HJ hlen ⊢
  clear hh hw hk1 Hacc
  go_enter Try.func10, Try.ntmps10
  go_wp2_with fail
  refine (HJ.out).mono ?_
  rintro e w1 ⟨j, rfl, hJ, hb⟩
  have hbs := hb.size
  have hJ0 := hJ
  obtain ⟨ss, bb, h1, _, _, _⟩ := hJ0
  have H1 := Lib.hid h1
  have HJ1 := Lib.hid hJ
  clear h1 hJ HJ
  go_wp2_with fail
  refine (Length_calls w1 w.heap.size j acc ss bb H1.out).mono ?_
  rintro e w2 ⟨rfl, rfl⟩
  go_wp2_with fail
  refine (Last_calls w2 w.heap.size j acc ss bb H1.out).mono ?_
  rintro e w2 ⟨rfl, rfl⟩
  have HJ2 : Hid (JC w2.drew w.heap.size j acc l.length) := Lib.hid (by
    obtain ⟨ss, bb, q1, q2, q3, q4⟩ := HJ1.out
    exact ⟨ss, bb, q1.below ((Below.refl _ _).drew), q2, q3, q4⟩)
  go_wp2
  go_region_with (first | (go_at_call 15; refine (Done_calls w2.drew w.heap.size j acc l.length HJ2.out (by omega) (by omega)).mono ?_; rintro e w3 ⟨A3, c3, rfl, k33, k34⟩; have hcv := run_bytes_text (P := Try.prog) w3 36 9 5 Try.underlying36 Try.underlying5 Try.underlying9 w3.heap.size A3 acc.length c3 acc rfl k33))
  all_goals
    have hb3 : Below w.heap.size w w3 := hb.drew.trans (k34.mono hbs)
    go_wp2
    go_ret3
    exact ⟨rfl, hb3⟩
end Go.Proofs.Ytmoaeeiggkaicaa
