/- The contracts of 'spec.isEdge', 'spec.Wild'. -/
import Derived.Test.YtbpghbkaaiembaaChecked
import Derived.WalkKit
import Derived.Outline
import Derived.Test.YtbpghbkaaiembaaMem
import Derived.Test.YtbpghbkaaiembaaGlP
import Derived.Lib.IndexBytes
namespace Go.Proofs.Ytbpghbkaaiembaa
open Go.RowKit Stamp
set_option linter.unusedVariables false

set_option maxHeartbeats 400000 in
theorem edge_neg (s : ByteArray) (i : Int) (hi : i < 0) (w : World) : Calls Try.prog 14 #[.string s, .int .i64 i] w fun e w' => e = .returned (.bool true) ∧ w' = w := by
  go_enter Try.func14, Try.ntmps14
  go_wp2
  go_ret
  exact ⟨rfl, rfl⟩
set_option maxHeartbeats 400000 in
theorem edge_ge (s : ByteArray) (i : Nat) (hi : s.size ≤ i) (w : World) : Calls Try.prog 14 #[.string s, .int .i64 (i : Int)] w fun e w' => e = .returned (.bool true) ∧ w' = w := by
  have h1 : ¬ (i : Int) < 0 := by omega
  have h2 : (s.size : Int) ≤ (i : Int) := by omega
  go_enter Try.func14, Try.ntmps14
  go_wp2
  go_ret
  exact ⟨rfl, rfl⟩
set_option maxHeartbeats 400000 in
theorem edge_in (s : ByteArray) (i : Nat) (hi : i < s.size) (hs : s.size ≤ maxLen) (w : World) : Calls Try.prog 14 #[.string s, .int .i64 (i : Int)] w fun e w' => e = .returned (.bool (slash s[i])) ∧ w' = w := by
  unfold maxLen at hs
  have h1 : ¬ (i : Int) < 0 := by omega
  have h2 : ¬ (s.size : Int) ≤ (i : Int) := by omega
  have hb := s[i].toNat_lt
  by_cases a : s[i] = 47
  · have HS := Lib.hid (show slash s[i] = true by rw [a]; rfl)
    have h3 : ((s[i].toNat : Int) == 47) = true := by rw [a]; rfl
    clear a
    go_enter Try.func14, Try.ntmps14
    go_wp2
    go_ret
    exact ⟨ret_bool HS.out.symm, rfl⟩
  · have h3 : ((s[i].toNat : Int) == 47) = false := by
      rw [beq_eq_false_iff_ne]; intro h; exact a (UInt8.toNat_inj.1 (by show s[i].toNat = 47; omega))
    by_cases b : s[i] = 92
    · have HS := Lib.hid (show slash s[i] = true by rw [b]; rfl)
      have h4 : ((s[i].toNat : Int) == 92) = true := by rw [b]; rfl
      clear a b
      go_enter Try.func14, Try.ntmps14
      go_wp2
      go_ret
      exact ⟨ret_bool HS.out.symm, rfl⟩
    · have h4 : ((s[i].toNat : Int) == 92) = false := by
        rw [beq_eq_false_iff_ne]; intro h; exact b (UInt8.toNat_inj.1 (by show s[i].toNat = 92; omega))
      have HS := Lib.hid (show slash s[i] = false by simp [slash, a, b])
      clear a b
      go_enter Try.func14, Try.ntmps14
      go_wp2
      go_ret
      exact ⟨ret_bool HS.out.symm, rfl⟩

/-- a run of stars in a text -/
def RunIn (s : ByteArray) (pre p : List UInt8) (c : Nat) (rest : List UInt8) : Prop :=
  s.data.toList = pre ++ (p ++ (List.replicate c 42 ++ rest)) ∧ (p = [] → pre = []) ∧ 1 ≤ c
theorem RunIn.size {s : ByteArray} {pre p : List UInt8} {c : Nat} {rest : List UInt8} (h : RunIn s pre p c rest) : s.size = pre.length + p.length + c + rest.length := by
  have := congrArg List.length h.1
  have e : s.data.toList.length = s.size := by simp
  rw [e] at this
  simp at this
  omega
theorem edge_before {s : ByteArray} {pre p : List UInt8} {c : Nat} {rest : List UInt8} (h : RunIn s pre p c rest) (hs : s.size ≤ maxLen) (w : World) :
    Calls Try.prog 14 #[.string s, .int .i64 (((pre.length + p.length : Nat) : Int) - 1)] w fun e w' => e = .returned (.bool (edgeE p)) ∧ w' = w := by
  have hz := h.size
  have hc := h.2.2
  rcases List.eq_nil_or_concat p with rfl | ⟨q, x, rfl⟩
  · have := h.2.1 rfl
    subst this
    exact edge_neg s _ (by simp) w
  · have e : ((pre.length + (q.concat x).length : Nat) : Int) - 1 = ((pre.length + q.length : Nat) : Int) := by simp; omega
    rw [e]
    have hl : (q.concat x).length = q.length + 1 := by simp
    have hi : pre.length + q.length < s.size := by omega
    have hx : s[pre.length + q.length] = x := by
      have h1 := Lib.data_getElem? s _ hi
      rw [h.1] at h1
      rw [List.getElem?_append_right (by omega), List.concat_eq_append, List.append_assoc, List.getElem?_append_right (by omega)] at h1
      simp at h1
      exact h1.symm
    have h2 := edge_in s _ hi hs w
    rw [hx] at h2
    have he : edgeE (q.concat x) = slash x := by simp [edgeE]
    rw [he]
    exact h2
theorem edge_behind {s : ByteArray} {pre p : List UInt8} {c : Nat} {rest : List UInt8} (h : RunIn s pre p c rest) (hs : s.size ≤ maxLen) (w : World) :
    Calls Try.prog 14 #[.string s, .int .i64 ((pre.length + p.length + c : Nat) : Int)] w fun e w' => e = .returned (.bool (edgeS rest)) ∧ w' = w := by
  have hz := h.size
  match rest, h with
  | [], h => exact edge_ge s _ (by simp at hz; omega) w
  | x :: r, h =>
    have hi : pre.length + p.length + c < s.size := by simp at hz; omega
    have hx : s[pre.length + p.length + c] = x := by
      have h1 := Lib.data_getElem? s _ hi
      rw [h.1] at h1
      rw [List.getElem?_append_right (by omega), List.getElem?_append_right (by omega), List.getElem?_append_right (by simp; omega)] at h1
      simp at h1
      rw [show pre.length + p.length + c - pre.length - p.length - c = 0 by omega] at h1
      simp at h1
      exact h1.symm
    have h2 := edge_in s _ hi hs w
    rw [hx] at h2
    exact h2

set_option maxHeartbeats 1000000 in
theorem Wild_calls {s : ByteArray} {pre p : List UInt8} {c : Nat} {rest : List UInt8} (h : RunIn s pre p c rest) (hs : s.size ≤ maxLen) (w : World) :
    Calls Try.prog 9 #[.string s, .agg #[.int .i64 ((pre.length + p.length : Nat) : Int), .int .i64 (c : Int)]] w fun e w' => e = .returned (.int .i64 (kindOf p c rest : Int)) ∧ Below w.heap.size w w' := by
  have hz := h.size
  have h1 := fun w => edge_before h hs w
  have h2 := fun w => edge_behind h hs w
  unfold maxLen at hs
  have hc1 := h.2.2
  obtain ⟨a, ha⟩ : ∃ a, a = pre.length + p.length := ⟨_, rfl⟩
  rw [← ha] at h1 h2 hz ⊢
  have H1 := Lib.hid h1
  have H2 := Lib.hid h2
  clear ha h1 h2 h
  by_cases hc : 1 < c
  · have q1 : (1 : Int) < (c : Int) := by omega
    cases he : edgeE p with
    | true =>
      cases hf : edgeS rest with
      | true =>
        have HK := Lib.hid (show kindOf p c rest = 2 by unfold kindOf; rw [if_pos ⟨hc, he, hf⟩])
        have He := Lib.hid he
        have Hf := Lib.hid hf
        clear he hf
        go_enter Try.func9, Try.ntmps9
        go_wp2_with fail
        refine (H1.out _).mono ?_
        rintro e w1 ⟨rfl, rfl⟩
        rw [He.out]
        go_wp2_with fail
        refine (H2.out _).mono ?_
        rintro e w1 ⟨rfl, rfl⟩
        rw [Hf.out]
        go_wp2
        go_ret
        exact ⟨by rw [HK.out]; rfl, (Below.refl _ _).alloc (Nat.le_refl _) _⟩
      | false =>
        have HK := Lib.hid (show kindOf p c rest = 1 by unfold kindOf; rw [if_neg (by rw [hf]; simp)])
        have He := Lib.hid he
        have Hf := Lib.hid hf
        clear he hf
        go_enter Try.func9, Try.ntmps9
        go_wp2_with fail
        refine (H1.out _).mono ?_
        rintro e w1 ⟨rfl, rfl⟩
        rw [He.out]
        go_wp2_with fail
        refine (H2.out _).mono ?_
        rintro e w1 ⟨rfl, rfl⟩
        rw [Hf.out]
        go_wp2
        go_ret
        exact ⟨by rw [HK.out]; rfl, (Below.refl _ _).alloc (Nat.le_refl _) _⟩
    | false =>
      have HK := Lib.hid (show kindOf p c rest = 1 by unfold kindOf; rw [if_neg (by rw [he]; simp)])
      have He := Lib.hid he
      clear he
      go_enter Try.func9, Try.ntmps9
      go_wp2_with fail
      refine (H1.out _).mono ?_
      rintro e w1 ⟨rfl, rfl⟩
      rw [He.out]
      go_wp2
      go_ret
      exact ⟨by rw [HK.out]; rfl, (Below.refl _ _).alloc (Nat.le_refl _) _⟩
  · have q1 : ¬ (1 : Int) < (c : Int) := by omega
    have HK := Lib.hid (show kindOf p c rest = 1 by unfold kindOf; rw [if_neg (by omega)])
    go_enter Try.func9, Try.ntmps9
    go_wp2
    go_ret
    exact ⟨by rw [HK.out]; rfl, (Below.refl _ _).alloc (Nat.le_refl _) _⟩
end Go.Proofs.Ytbpghbkaaiembaa
