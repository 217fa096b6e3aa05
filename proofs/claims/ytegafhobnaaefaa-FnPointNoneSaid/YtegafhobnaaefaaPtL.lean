/- The walks of 'laws.FnPoint' and 'laws.FnPointNone'. -/
import Derived.Test.YtegafhobnaaefaaDw
namespace Go.Proofs.Ytegafhobnaaefaa
open Go.RowKit Stamp
set_option linter.unusedVariables false

theorem Pt11_some (s : ByteArray) (w : World) (hs : s.size ≤ maxLen) (p n : Nat) (h : point s.data.toList = some (p, n)) :
    Calls Try.prog 11 #[.string s] w fun e w' => e = .returned (.tuple #[.int .i64 (p : Int), .int .i64 (n : Int)]) ∧ w' = w := by
  have hp := (point_some _ _ _ h).1
  have H := Lib.hid h
  clear h
  go_enter Try.func11, Try.ntmps11
  go_wp2_with fail
  refine (Dw_calls s w hs).mono ?_
  rintro e w' ⟨rfl, ⟨p', n', h1, rfl⟩ | ⟨h1, k, hk, rfl⟩⟩
  · obtain ⟨rfl, rfl⟩ : p' = p ∧ n' = n := by have := H.out; rw [h1] at this; injection this with this; injection this with a b; exact ⟨a, b⟩
    clear h1
    go_wp2
    go_ret2
    exact ⟨rfl, rfl⟩
  · have := H.out; rw [h1] at this; cases this

def BadPost (w : World) (e : Ending) (w' : World) : Prop := w' = w ∧ ∃ k : Nat, k ≤ 1 ∧ e = .returned (.tuple #[.int .i64 65533, .int .i64 (k : Int)])
theorem Pt11_none (s : ByteArray) (w : World) (hs : s.size ≤ maxLen) (h : point s.data.toList = none) : Calls Try.prog 11 #[.string s] w (BadPost w) := by
  have H := Lib.hid h
  clear h
  go_enter Try.func11, Try.ntmps11
  go_wp2_with fail
  refine (Dw_calls s w hs).mono ?_
  rintro e w' ⟨rfl, ⟨p', n', h1, rfl⟩ | ⟨h1, k, hk, rfl⟩⟩
  · have := H.out; rw [h1] at this; cases this
  · clear h1
    go_wp2
    go_ret2
    exact ⟨rfl, k, hk, rfl⟩

theorem a_pt : point (⟨#[97]⟩ : ByteArray).data.toList = some (97, 1) := by rfl

set_option maxHeartbeats 400000 in
theorem point_walk (s : ByteArray) (hs : s.size ≤ maxLen) (w : World) :
    Calls Try.prog 4 #[.string s] w fun e w' => e = .returned (.bool true) ∧ Below w.heap.size w w' := by
  by_cases h1 : 2147483647 < s.size
  · unfold maxLen at hs
    have h1' : (2147483647 : Int) < (s.size : Int) := by omega
    go_enter Try.func4, Try.ntmps4
    go_wp2
    go_ret
    exact ⟨rfl, Below.refl _ _⟩
  · have h1' : ¬ (2147483647 : Int) < (s.size : Int) := by omega
    cases hp : point s.data.toList with
    | none =>
      have hv := Lib.hid (ptV_none hp)
      have HP := Lib.hid hp
      clear hp
      go_enter Try.func4, Try.ntmps4
      go_wp2_with fail
      refine (Point_calls s w hs).mono ?_
      rintro e w' ⟨rfl, rfl⟩
      rw [hv.out]
      go_wp2_with fail
      refine (Pt11_none s _ hs HP.out).mono ?_
      rintro e w' ⟨rfl, k, hk, rfl⟩
      go_wp2_with fail
      refine (Pt11_some ⟨#[97]⟩ _ (by decide) 97 1 a_pt).mono ?_
      rintro e w' ⟨rfl, rfl⟩
      go_wp2
      go_ret
      exact ⟨rfl, Below.refl _ _⟩
    | some x =>
      obtain ⟨p, n⟩ := x
      have hv := Lib.hid (ptV_some hp)
      have HP := Lib.hid hp
      have hn := (enc_len p).1
      rw [← (point_some _ _ _ hp).2.1] at hn
      have hz : ((n : Int) == 0) = false := by rw [beq_eq_false_iff_ne]; omega
      clear hp
      go_enter Try.func4, Try.ntmps4
      go_wp2_with fail
      refine (Point_calls s w hs).mono ?_
      rintro e w' ⟨rfl, rfl⟩
      rw [hv.out]
      go_wp2_with fail
      refine (Pt11_some s _ hs p n HP.out).mono ?_
      rintro e w' ⟨rfl, rfl⟩
      go_wp2_with fail
      refine (Pt11_some ⟨#[97]⟩ _ (by decide) 97 1 a_pt).mono ?_
      rintro e w' ⟨rfl, rfl⟩
      go_wp2
      go_ret
      exact ⟨rfl, Below.refl _ _⟩

set_option maxHeartbeats 400000 in
theorem pointNone_walk (s : ByteArray) (hs : s.size ≤ maxLen) (w : World) :
    Calls Try.prog 5 #[.string s] w fun e w' => e = .returned (.bool true) ∧ Below w.heap.size w w' := by
  by_cases h1 : 2147483647 < s.size
  · unfold maxLen at hs
    have h1' : (2147483647 : Int) < (s.size : Int) := by omega
    go_enter Try.func5, Try.ntmps5
    go_wp2
    go_ret
    exact ⟨rfl, Below.refl _ _⟩
  · have h1' : ¬ (2147483647 : Int) < (s.size : Int) := by omega
    cases hp : point s.data.toList with
    | none =>
      have hv := Lib.hid (ptV_none hp)
      have HP := Lib.hid hp
      clear hp
      go_enter Try.func5, Try.ntmps5
      go_wp2_with fail
      refine (Point_calls s w hs).mono ?_
      rintro e w' ⟨rfl, rfl⟩
      rw [hv.out]
      go_wp2_with fail
      refine (Pt11_none s _ hs HP.out).mono ?_
      rintro e w' ⟨rfl, k, hk, rfl⟩
      have hk1 : (k : Int) ≤ 1 := by omega
      go_wp2_with fail
      refine (Pt11_some ⟨#[97]⟩ _ (by decide) 97 1 a_pt).mono ?_
      rintro e w' ⟨rfl, rfl⟩
      go_wp2
      go_ret
      exact ⟨rfl, Below.refl _ _⟩
    | some x =>
      obtain ⟨p, n⟩ := x
      have hv := Lib.hid (ptV_some hp)
      have HP := Lib.hid hp
      have hn := (enc_len p).1
      rw [← (point_some _ _ _ hp).2.1] at hn
      have hz : (0 : Int) < (n : Int) := by omega
      clear hp
      go_enter Try.func5, Try.ntmps5
      go_wp2_with fail
      refine (Point_calls s w hs).mono ?_
      rintro e w' ⟨rfl, rfl⟩
      rw [hv.out]
      go_wp2_with fail
      refine (Pt11_some s _ hs p n HP.out).mono ?_
      rintro e w' ⟨rfl, rfl⟩
      go_wp2_with fail
      refine (Pt11_some ⟨#[97]⟩ _ (by decide) 97 1 a_pt).mono ?_
      rintro e w' ⟨rfl, rfl⟩
      go_wp2
      go_ret
      exact ⟨rfl, Below.refl _ _⟩
end Go.Proofs.Ytegafhobnaaefaa
