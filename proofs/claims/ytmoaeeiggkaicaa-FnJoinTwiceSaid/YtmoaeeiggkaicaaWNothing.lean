/- The walk of 'laws.FnJoinNothing'. -/
import Derived.Test.YtmoaeeiggkaicaaJoI
namespace Go.Proofs.Ytmoaeeiggkaicaa
open Go.RowKit Stamp
set_option linter.unusedVariables false

theorem great_false {l : List (Int × ByteArray)} (h : greatB l = false) : weight l ≤ 16777300 ∧ ∀ x ∈ l, x.2.size ≤ 16777216 := by
  unfold greatB at h
  have h2 : ¬ 16777216 < weight l := by simpa using h
  exact ⟨by omega, fun x hx => by have := weight_mem hx; omega⟩
theorem one_a (w : World) (c : Array UInt8) : Holds (w.alloc (.cells #[.int .i64 0, .string ⟨c⟩] 29)) (w.alloc (.cells #[.int .i64 0, .string ⟨c⟩] 29)).heap.size (some ⟨w.heap.size, 0, none⟩) (stCells [(0, ⟨c⟩)]) :=
  ((Blk.new w 29 #[.int .i64 0, .string ⟨c⟩]).holds).more (by simp)

set_option maxRecDepth 100000 in
set_option maxHeartbeats 4000000 in
theorem Nothing_walk (A : Option Addr) (len cap : Nat) (l : List (Int × ByteArray)) (hl : l.length = len) (hc : len ≤ cap) (hm : cap ≤ maxLen) (W : World) (hh : Holds W W.heap.size A (stCells l)) :
    Calls Try.prog 5 #[.slice A len cap] W fun e W' => e = .returned (.bool true) ∧ Below W.heap.size W W' := by
  subst hl
  have hm2 : l.length ≤ 9223372036854775807 := by have : maxLen ≤ 9223372036854775807 := by decide
                                                  omega
  have HH := Lib.hid hh
  clear hh
  go_enter Try.func5, Try.ntmps5
  go_wp2_with fail
  refine (fits2_calls A cap l W HH.out hm2).mono ?_
  rintro e w1 ⟨b1, rfl, hl, hb⟩
  have hbs := hb.size
  cases b1 with
  | false =>
    go_wp2
    go_ret
    exact ⟨rfl, hb⟩
  | true =>
    have hl2 : l.length ≤ 2147483647 := hl rfl
    go_wp2_with fail
    refine (great_calls A cap l w1 ((HH.out.below hb).more hbs) hl2).mono ?_
    rintro e w2 ⟨rfl, hb2⟩
    have hb3 := hb.trans (hb2.mono hbs)
    have hb3s := hb3.size
    clear hb hb2
    cases hg : greatB l with
    | true =>
      go_wp2
      go_ret
      exact ⟨rfl, hb3⟩
    | false =>
      obtain ⟨hw, hk1⟩ := great_false hg
      have HW := Lib.hid hw
      have HK := Lib.hid hk1
      clear hw hk1 hg
      go_wp2_with fail
      refine (ljoined_calls A cap l w2 ((HH.out.below hb3).more hb3s) HW.out).mono ?_
      rintro e w3 ⟨kb, rfl, hb4⟩
      have hb5 := hb3.trans (hb4.mono hb3s)
      have hb5s := hb5.size
      clear hb3 hb4 hb3s
      go_wp2_with fail
      refine (Join_calls A cap l w3 ((HH.out.below hb5).more hb5s) HW.out HK.out).mono ?_
      rintro e w4 ⟨rfl, hb6⟩
      have hb7 := hb5.trans (hb6.mono hb5s)
      have hb7s := hb7.size
      clear hb5 hb6 hb5s
      go_wp2_with fail
      refine (Join_calls _ 1 [(0, ⟨#[97]⟩)] _ (one_a w4 #[97]) (by decide) (by decide)).mono ?_
      rintro e w5 ⟨rfl, hb8⟩
      have hb9 := (hb7.alloc hb7s (.cells #[.int .i64 0, .string ⟨#[97]⟩] 29)).trans (hb8.mono (by simp; omega))
      go_wp2
      go_ret
      exact ⟨rfl, hb9⟩
end Go.Proofs.Ytmoaeeiggkaicaa
