/- The walk of 'laws.FnQuotesApart'. -/
import Derived.Test.YtolgpnkofnibjaaQuI
import Derived.Test.YtolgpnkofnibjaaPoints
namespace Go.Proofs.Ytolgpnkofnibjaa
open Go.RowKit Stamp
set_option linter.unusedVariables false

theorem bsN_inj {a b : List Nat} (ha : ∀ x ∈ a, x < 256) (hb : ∀ x ∈ b, x < 256) (h : bsN a = bsN b) : a = b := by
  have h1 := congrArg (fun z : ByteArray => nums z.data.toList) h
  simp only [bsN_data] at h1
  rwa [nums_toU ha, nums_toU hb] at h1
theorem bytes_ext {s t : ByteArray} (h : s.data.toList = t.data.toList) : s = t := by
  apply ByteArray.ext; exact Array.ext' h
theorem ne_beq {a b : ByteArray} (h : a ≠ b) : (a.toList == b.toList) = false := bytes_ne h

set_option maxRecDepth 100000 in
set_option maxHeartbeats 2000000 in
theorem apart_go (s t : ByteArray) (hs : s.size ≤ 2147483647) (ht : t.size ≤ 2147483647) (ascii : Bool) (w : World) (zs zt ys yt : ByteArray)
    (Vs : Hid (validB s.data.toList = true)) (Vt : Hid (validB t.data.toList = true))
    (Js : Hid (∀ w, Calls Try.prog 12 #[.string s, .bool ascii] w fun e w' => e = .returned (.string zs) ∧ Below w.heap.size w w'))
    (Jt : Hid (∀ w, Calls Try.prog 12 #[.string t, .bool ascii] w fun e w' => e = .returned (.string zt) ∧ Below w.heap.size w w'))
    (Ss : Hid (∀ w, Calls Try.prog 18 #[.string s, .bool ascii] w fun e w' => e = .returned (.string ys) ∧ Below w.heap.size w w'))
    (St : Hid (∀ w, Calls Try.prog 18 #[.string t, .bool ascii] w fun e w' => e = .returned (.string yt) ∧ Below w.heap.size w w'))
    (b : Bool) (b1 : (s.toList == t.toList) = b) (b2 : (zs.toList == zt.toList) = b) (b3 : (ys.toList == yt.toList) = b) (hz : zs.toList.isEmpty = false) :
    Calls Try.prog 8 #[.string s, .string t, .bool ascii] w fun e w' => e = .returned (.bool true) ∧ Below w.heap.size w w' := by
  have h1 : ¬ (2147483647 : Int) < (s.size : Int) := by omega
  have h2 : ¬ (2147483647 : Int) < (t.size : Int) := by omega
  cases b
  all_goals
    go_enter Try.func8, Try.ntmps8
    go_wp2_with fail
    refine (Valid_calls s w (by omega)).mono ?_
    rintro e w1 ⟨rfl, hb1⟩
    rw [Vs.out]
    have hs1 := hb1.size
    go_wp2_with fail
    refine (Valid_calls t w1 (by omega)).mono ?_
    rintro e w2 ⟨rfl, hb2⟩
    rw [Vt.out]
    have hb2 := hb1.trans (hb2.mono hs1)
    have hs2 := hb2.size
    go_wp2_with fail
    refine (Js.out _).mono ?_
    rintro e w3 ⟨rfl, hb3⟩
    have hb3 := hb2.trans (hb3.mono hs2)
    have hs3 := hb3.size
    go_wp2_with fail
    refine (Jt.out _).mono ?_
    rintro e w4 ⟨rfl, hb4⟩
    have hb4 := hb3.trans (hb4.mono hs3)
    have hs4 := hb4.size
    go_wp2_with fail
    refine (Ss.out _).mono ?_
    rintro e w5 ⟨rfl, hb5⟩
    have hb5 := hb4.trans (hb5.mono hs4)
    have hs5 := hb5.size
    go_wp2_with fail
    refine (St.out _).mono ?_
    rintro e w6 ⟨rfl, hb6⟩
    have hb6 := hb5.trans (hb6.mono hs5)
    have hs6 := hb6.size
    go_wp2_with fail
    refine (Js.out _).mono ?_
    rintro e w7 ⟨rfl, hb7⟩
    have hb7 := hb6.trans (hb7.mono hs6)
    go_wp2
    go_ret
    exact ⟨rfl, hb7⟩

set_option maxRecDepth 100000 in
set_option maxHeartbeats 2000000 in
theorem Apart_walk (s : ByteArray) (hm : s.size ≤ 9223372036854775807) (t : ByteArray) (hmt : t.size ≤ 9223372036854775807) (ascii : Bool) (w : World) :
    Calls Try.prog 8 #[.string s, .string t, .bool ascii] w fun e w' => e = .returned (.bool true) ∧ Below w.heap.size w w' := by
  by_cases hs : 2147483647 < s.size
  · have h1 : (2147483647 : Int) < (s.size : Int) := by omega
    go_enter Try.func8, Try.ntmps8
    go_wp2
    go_ret
    exact ⟨rfl, Below.refl _ _⟩
  · by_cases ht : 2147483647 < t.size
    · have h1 : ¬ (2147483647 : Int) < (s.size : Int) := by omega
      have h2 : (2147483647 : Int) < (t.size : Int) := by omega
      go_enter Try.func8, Try.ntmps8
      go_wp2
      go_ret
      exact ⟨rfl, Below.refl _ _⟩
    · cases hv : validB s.data.toList with
      | false =>
        have h1 : ¬ (2147483647 : Int) < (s.size : Int) := by omega
        have h2 : ¬ (2147483647 : Int) < (t.size : Int) := by omega
        have HV := Lib.hid hv
        clear hv
        go_enter Try.func8, Try.ntmps8
        go_wp2_with fail
        refine (Valid_calls s w (by omega)).mono ?_
        rintro e w1 ⟨rfl, hb⟩
        rw [HV.out]
        go_wp2
        go_ret
        exact ⟨rfl, hb⟩
      | true =>
        cases hv2 : validB t.data.toList with
        | false =>
          have h1 : ¬ (2147483647 : Int) < (s.size : Int) := by omega
          have h2 : ¬ (2147483647 : Int) < (t.size : Int) := by omega
          have HV := Lib.hid hv
          have HV2 := Lib.hid hv2
          clear hv hv2
          go_enter Try.func8, Try.ntmps8
          go_wp2_with fail
          refine (Valid_calls s w (by omega)).mono ?_
          rintro e w1 ⟨rfl, hb⟩
          rw [HV.out]
          have hbs := hb.size
          go_wp2_with fail
          refine (Valid_calls t w1 (by omega)).mono ?_
          rintro e w2 ⟨rfl, hb2⟩
          rw [HV2.out]
          go_wp2
          go_ret
          exact ⟨rfl, hb.trans (hb2.mono hbs)⟩
        | true =>
          obtain ⟨ps, hps⟩ := valid_points hv
          obtain ⟨hl, hsc⟩ := points_sound _ _ hps
          obtain ⟨qs, hqs⟩ := valid_points hv2
          obtain ⟨hl2, hsc2⟩ := points_sound _ _ hqs
          have bd := fun (q : Nat) (hq : 32 ≤ q ∧ q ≤ 126) (l : List Nat) (hl : ∀ p ∈ l, Scalar p) => fun x hx => (quoted_bd (ascii := ascii) (q := q) hq hl x hx).1
          have hne : (bsN (Stamp.quoted ascii 34 ps)).toList.isEmpty = false := by rw [Go.ByteArray.toList_eq, bsN_data]; rfl
          by_cases he : s = t
          · subst he
            have hpq : qs = ps := by rw [hqs] at hps; injection hps
            subst hpq
            exact apart_go s s (by omega) (by omega) ascii w _ _ _ _ (Lib.hid hv) (Lib.hid hv2) (Lib.hid (fun w => QJ s _ hl hsc (by omega) ascii w)) (Lib.hid (fun w => QJ s _ hl hsc (by omega) ascii w)) (Lib.hid (fun w => QS s _ hl hsc (by omega) ascii w)) (Lib.hid (fun w => QS s _ hl hsc (by omega) ascii w)) true (by simp) (by simp) (by simp) hne
          · have hpq : ps ≠ qs := fun h => he (bytes_ext (by rw [hl, hl2, h]))
            exact apart_go s t (by omega) (by omega) ascii w _ _ _ _ (Lib.hid hv) (Lib.hid hv2) (Lib.hid (fun w => QJ s _ hl hsc (by omega) ascii w)) (Lib.hid (fun w => QJ t _ hl2 hsc2 (by omega) ascii w)) (Lib.hid (fun w => QS s _ hl hsc (by omega) ascii w)) (Lib.hid (fun w => QS t _ hl2 hsc2 (by omega) ascii w)) false (ne_beq he)
              (ne_beq (fun h => hpq (quoted_inj hsc hsc2 (bsN_inj (bd 34 (by decide) _ hsc) (bd 34 (by decide) _ hsc2) h))))
              (ne_beq (fun h => hpq (quoted_inj hsc hsc2 (bsN_inj (bd 39 (by decide) _ hsc) (bd 39 (by decide) _ hsc2) h)))) hne
end Go.Proofs.Ytolgpnkofnibjaa
