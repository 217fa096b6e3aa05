/- The contracts of 'zzFits3', 'zzFits2', 'great'. -/
import Derived.Test.YtmoaeeiggkaicaaJoF
namespace Go.Proofs.Ytmoaeeiggkaicaa
open Go.RowKit Stamp
set_option linter.unusedVariables false

theorem fits3_yes (kd : Int) (t : ByteArray) (ht : t.size ≤ 2147483647) (w : World) : Calls Try.prog 11 #[.agg #[.int .i64 kd, .string t]] w fun e w' => e = .returned (.bool true) ∧ Below w.heap.size w w' := by
  have h1 : ¬ (2147483647 : Int) < (t.size : Int) := by omega
  go_enter Try.func11, Try.ntmps11
  go_wp2
  go_ret
  exact ⟨rfl, (Below.refl _ _).alloc (Nat.le_refl _) _⟩
theorem fits3_no (kd : Int) (t : ByteArray) (ht : ¬ t.size ≤ 2147483647) (w : World) : Calls Try.prog 11 #[.agg #[.int .i64 kd, .string t]] w fun e w' => e = .returned (.bool false) ∧ Below w.heap.size w w' := by
  have h1 : (2147483647 : Int) < (t.size : Int) := by omega
  go_enter Try.func11, Try.ntmps11
  go_wp2
  go_ret
  exact ⟨rfl, (Below.refl _ _).alloc (Nat.le_refl _) _⟩

def greatB (l : List (Int × ByteArray)) : Bool := decide (16777216 < weight l)
set_option maxRecDepth 100000 in
set_option maxHeartbeats 1000000 in
theorem great_calls (A : Option Addr) (c : Nat) (l : List (Int × ByteArray)) (w : World) (hh : Holds w w.heap.size A (stCells l)) (hl : l.length ≤ 2147483647) :
    Calls Try.prog 8 #[.slice A l.length c] w fun e w' => e = .returned (.bool (greatB l)) ∧ Below w.heap.size w w' := by
  go_enter Try.func8, Try.ntmps8
  go_wp2
  go_loopw [3, 8] (fun v i wr => ∃ k n : Nat, k ≤ l.length ∧ i = .int .i64 k ∧ v = .int .i64 n ∧ n ≤ 16777216 ∧ Hid (n = weight (l.take k)) ∧ Below w.heap.size w wr) (fun _ i _ => l.length - (intOf i).toNat)
  case atStart => exact ⟨0, 0, Nat.zero_le _, rfl, rfl, by omega, Lib.hid rfl, Below.refl _ _⟩
  case round =>
    obtain ⟨k, n, hk, rfl, rfl, hn, HN, hb⟩ := hrel
    have hbs := hb.size
    by_cases hlt : k < l.length
    · have hlt' : (k : Int) < (l.length : Int) := by omega
      obtain ⟨⟨kd, t⟩, hx⟩ : ∃ x, l[k]? = some x := ⟨_, List.getElem?_eq_getElem hlt⟩
      obtain ⟨b, off, rfl, hbl, g1, g2⟩ := Holds.st hh hx
      have f1 : wr.cell? ⟨b, off + k * 2, none⟩ = some (.int .i64 kd) := (hb.cell (p := ⟨b, off + k * 2, none⟩) hbl).trans g1
      have f2 : wr.cell? ⟨b, off + k * 2 + 1, none⟩ = some (.string t) := (hb.cell (p := ⟨b, off + (k * 2 + 1), none⟩) hbl).trans g2
      have HT := Lib.hid (show weight (l.take (k + 1)) = weight (l.take k) + (t.size + 1) by rw [take_ext hx, weight_snoc])
      have HL := Lib.hid (weight_take l (k + 1))
      have hb2 := hb.alloc hbs (.cells #[.int .i64 kd, .string t] 29)
      clear hx g1 g2
      by_cases h1 : t.size ≤ 16777216
      · have t1 : ¬ (16777216 : Int) < (t.size : Int) := by omega
        by_cases h2 : n + (t.size + 1) ≤ 16777216
        · have t2 : ¬ (16777216 : Int) < (n : Int) + ((t.size : Int) + 1) := by omega
          go_wp2
          go_roundw
          case rel => exact ⟨k + 1, n + (t.size + 1), by omega, by go_num, by go_num, h2, Lib.hid (by rw [HT.out, HN.out]), hb2⟩
          case measure => simp [intOf]; omega
        · have t2 : (16777216 : Int) < (n : Int) + ((t.size : Int) + 1) := by omega
          have HG := Lib.hid (show greatB l = true by unfold greatB; have a := HL.out; rw [HT.out, ← HN.out] at a; simp; omega)
          go_wp2
          go_ret
          exact ⟨ret_bool HG.out.symm, hb2⟩
      · have t1 : (16777216 : Int) < (t.size : Int) := by omega
        have HG := Lib.hid (show greatB l = true by unfold greatB; have a := HL.out; rw [HT.out, ← HN.out] at a; simp; omega)
        go_wp2
        go_ret
        exact ⟨ret_bool HG.out.symm, hb2⟩
    · have HG := Lib.hid (show greatB l = false by
        unfold greatB
        have e : l.take k = l := List.take_of_length_le (by omega)
        have a := HN.out
        rw [e] at a
        simp; omega)
      go_wp2
      go_ret
      exact ⟨ret_bool HG.out.symm, hb⟩

def SomeB (l : List (Int × ByteArray)) (w : World) (e : Ending) (w' : World) : Prop := ∃ b : Bool, e = .returned (.bool b) ∧ (b = true → l.length ≤ 2147483647) ∧ Below w.heap.size w w'
set_option maxRecDepth 100000 in
set_option maxHeartbeats 1000000 in
theorem fits2_calls (A : Option Addr) (c : Nat) (l : List (Int × ByteArray)) (w : World) (hh : Holds w w.heap.size A (stCells l)) (hm : l.length ≤ 9223372036854775807) :
    Calls Try.prog 7 #[.slice A l.length c] w (SomeB l w) := by
  by_cases h0 : 2147483647 < l.length
  · have h1 : (2147483647 : Int) < (l.length : Int) := by omega
    go_enter Try.func7, Try.ntmps7
    go_wp2
    go_ret
    exact ⟨false, rfl, by simp, Below.refl _ _⟩
  · have h1 : ¬ (2147483647 : Int) < (l.length : Int) := by omega
    have hl : l.length ≤ 2147483647 := by omega
    have HL := Lib.hid hl
    go_enter Try.func7, Try.ntmps7
    go_wp2
    go_loopw [10] (fun i wr => ∃ k : Nat, k ≤ l.length ∧ i = .int .i64 k ∧ Below w.heap.size w wr) (fun i _ => l.length - (intOf i).toNat)
    case atStart => exact ⟨0, Nat.zero_le _, rfl, Below.refl _ _⟩
    case round =>
      obtain ⟨k, hk, rfl, hb⟩ := hrel
      have hbs := hb.size
      by_cases hlt : k < l.length
      · have hlt' : (k : Int) < (l.length : Int) := by omega
        obtain ⟨⟨kd, t⟩, hx⟩ : ∃ x, l[k]? = some x := ⟨_, List.getElem?_eq_getElem hlt⟩
        obtain ⟨b, off, rfl, hbl, g1, g2⟩ := Holds.st hh hx
        have f1 : wr.cell? ⟨b, off + k * 2, none⟩ = some (.int .i64 kd) := (hb.cell (p := ⟨b, off + k * 2, none⟩) hbl).trans g1
        have f2 : wr.cell? ⟨b, off + k * 2 + 1, none⟩ = some (.string t) := (hb.cell (p := ⟨b, off + (k * 2 + 1), none⟩) hbl).trans g2
        have hb2 := hb.alloc hbs (.cells #[.int .i64 kd, .string t] 29)
        have hb2s := hb2.size
        clear hx g1 g2
        by_cases ht : t.size ≤ 2147483647
        · go_wp2_with fail
          refine (fits3_yes kd t ht _).mono ?_
          rintro e w1 ⟨rfl, h3⟩
          have hb3 := hb2.trans (h3.mono hb2s)
          go_wp2
          go_roundw
          case rel => exact ⟨k + 1, by omega, by go_num, hb3⟩
          case measure => simp [intOf]; omega
        · go_wp2_with fail
          refine (fits3_no kd t ht _).mono ?_
          rintro e w1 ⟨rfl, h3⟩
          have hb3 := hb2.trans (h3.mono hb2s)
          go_wp2
          go_ret
          exact ⟨false, rfl, by simp, hb3⟩
      · go_wp2
        go_ret
        exact ⟨true, rfl, fun _ => HL.out, hb⟩
end Go.Proofs.Ytmoaeeiggkaicaa
