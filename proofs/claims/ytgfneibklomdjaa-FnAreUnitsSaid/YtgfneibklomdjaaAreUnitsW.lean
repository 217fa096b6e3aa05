/- The walk of 'laws.FnAreUnits': the package's comparison of units and the reference's are both 'the same list'. -/
import Derived.Test.YtgfneibklomdjaaChecked
import Derived.WalkKit
import Derived.BigQuiet
import Derived.Deep.QuietTactic
import Derived.Test.YtgfneibklomdjaaApp
namespace Go.Proofs.Ytgfneibklomdjaa
open Go.RowKit Stamp
set_option linter.unusedVariables false

set_option maxHeartbeats 400000 in
theorem eq24 (A B : Option Addr) (n m c d : Nat) (xs ys : List Int) (hx : xs.length = n) (hy : ys.length = m) (hn : n ≤ maxLen) (w : World)
    (ha : Holds w w.heap.size A (xs.map (Value.int .u16))) (hb : Holds w w.heap.size B (ys.map (Value.int .u16))) :
    Calls Try.prog 24 #[.slice A n c, .slice B m d] w fun e w' => e = .returned (.bool (same xs ys)) ∧ w' = w := by
  unfold maxLen at hn
  by_cases hnm : n = m
  · obtain rfl : m = n := hnm.symm
    have ht : ((m : Int) == (m : Int)) = true := by simp
    have Hx := Lib.hid hx
    have Hy := Lib.hid hy
    clear hx hy
    go_enter Try.func24, Try.ntmps24
    go_wp2
    go_loop [14] (fun i => ∃ k : Nat, k ≤ m ∧ i = .int .i64 k ∧ Hid (xs.take k = ys.take k)) (fun i => m - (intOf i).toNat)
    case atStart => exact ⟨0, Nat.zero_le _, rfl, Lib.hid rfl⟩
    case round =>
      obtain ⟨k, hk, rfl, hs⟩ := hrel
      by_cases hlt : k < m
      · obtain ⟨b1, o1, x, rfl, _, hx, hc1⟩ := ha.atMap (k := k) (by rw [Hx.out]; exact hlt)
        obtain ⟨b2, o2, y, rfl, _, hy, hc2⟩ := hb.atMap (k := k) (by rw [Hy.out]; exact hlt)
        have HX := Lib.hid hx
        have HY := Lib.hid hy
        clear hx hy ha hb
        by_cases hxy : x = y
        · subst hxy
          have ht2 : (x != x) = false := by simp
          go_wp2
          go_round
          case rel => exact ⟨k + 1, by omega, by go_num, Lib.hid (take_same hs.out HX.out HY.out)⟩
          case measure => simp [intOf]; omega
        · have ht2 : (x != y) = true := by simp [hxy]
          have hf := Lib.hid (same_false_at HX.out HY.out hxy)
          clear hxy
          go_wp2
          go_ret
          exact ⟨ret_bool hf.out.symm, rfl⟩
      · have hf := Lib.hid (same_of_take hs.out (by rw [Hx.out]; omega) (by rw [Hy.out]; omega))
        go_wp2
        go_ret
        exact ⟨ret_bool hf.out.symm, rfl⟩
  · have ht : ((n : Int) == (m : Int)) = false := by simp; omega
    have hf := Lib.hid (same_false_len (a := xs) (b := ys) (by rw [hx, hy]; exact hnm))
    clear hx hy
    go_enter Try.func24, Try.ntmps24
    go_wp2
    go_ret
    exact ⟨ret_bool hf.out.symm, rfl⟩

set_option maxHeartbeats 400000 in
theorem eq14 (A B : Option Addr) (n m c d : Nat) (xs ys : List Int) (hx : xs.length = n) (hy : ys.length = m) (hn : n ≤ maxLen) (w : World)
    (ha : Holds w w.heap.size A (xs.map (Value.int .u16))) (hb : Holds w w.heap.size B (ys.map (Value.int .u16))) :
    Calls Try.prog 14 #[.slice A n c, .slice B m d] w fun e w' => e = .returned (.bool (same xs ys)) ∧ ∃ q, w' = w.drewN q := by
  unfold maxLen at hn
  by_cases hnm : n = m
  · obtain rfl : m = n := hnm.symm
    have ht : ((m : Int) != (m : Int)) = false := by simp
    have Hx := Lib.hid hx
    have Hy := Lib.hid hy
    clear hx hy
    go_enter Try.func14, Try.ntmps14
    go_wp2
    go_loopw [13] (fun i wr => ∃ k q : Nat, k ≤ m ∧ i = .int .i64 k ∧ Hid (xs.take k = ys.take k) ∧ wr = w.drewN q) (fun i _ => m - (intOf i).toNat)
    case atStart => exact ⟨0, 0, Nat.zero_le _, rfl, Lib.hid rfl, rfl⟩
    case round =>
      obtain ⟨k, q, hk, rfl, hs, rfl⟩ := hrel
      by_cases hlt : k < m
      · obtain ⟨b1, o1, x, rfl, _, hx, hc1⟩ := ha.atMap (k := k) (by rw [Hx.out]; exact hlt)
        obtain ⟨b2, o2, y, rfl, _, hy, hc2⟩ := hb.atMap (k := k) (by rw [Hy.out]; exact hlt)
        have HX := Lib.hid hx
        have HY := Lib.hid hy
        clear hx hy ha hb
        have i0 : (0 : Int) ≤ (k : Int) := by omega
        have i1 : (k : Int) < (m : Int) := by omega
        by_cases hxy : x = y
        · subst hxy
          have ht2 : (x != x) = false := by simp
          go_wp2
          go_quiet (fail)
          go_wp2
          go_roundw
          case rel => exact ⟨k + 1, _, by omega, by go_num, Lib.hid (take_same hs.out HX.out HY.out), rfl⟩
          case measure => simp [intOf]; omega
        · have ht2 : (x != y) = true := by simp [hxy]
          have hf := Lib.hid (same_false_at HX.out HY.out hxy)
          clear hxy
          go_wp2
          go_quiet (fail)
          go_wp2
          go_ret
          exact ⟨ret_bool hf.out.symm, _, World.drewN_drewN _ _ _⟩
      · have hf := Lib.hid (same_of_take hs.out (by rw [Hx.out]; omega) (by rw [Hy.out]; omega))
        go_wp2
        go_ret
        exact ⟨ret_bool hf.out.symm, _, rfl⟩
  · have ht : ((n : Int) != (m : Int)) = true := by simp; omega
    have hf := Lib.hid (same_false_len (a := xs) (b := ys) (by rw [hx, hy]; exact hnm))
    clear hx hy
    go_enter Try.func14, Try.ntmps14
    go_wp2
    go_ret
    exact ⟨ret_bool hf.out.symm, 0, rfl⟩

theorem eq13 (A B : Option Addr) (n m c d : Nat) (xs ys : List Int) (hx : xs.length = n) (hy : ys.length = m) (hn : n ≤ maxLen) (w : World)
    (ha : Holds w w.heap.size A (xs.map (Value.int .u16))) (hb : Holds w w.heap.size B (ys.map (Value.int .u16))) :
    Calls Try.prog 13 #[.slice A n c, .slice B m d] w fun e w' => e = .returned (.bool (same xs ys)) ∧ w' = w := by
  have Hx := Lib.hid hx
  have Hy := Lib.hid hy
  clear hx hy
  go_enter Try.func13, Try.ntmps13
  go_wp2_with fail
  refine (eq24 A B n m c d xs ys Hx.out Hy.out hn w ha hb).mono ?_
  rintro e w' ⟨rfl, rfl⟩
  go_wp2
  go_ret
  exact ⟨rfl, rfl⟩

theorem info43 : (Try.prog.info? 43).map (fun i => (i.zero, i.size, i.bytes)) = some (some (.int .u16 0), 1, 2) := by kernel_rfl

theorem areUnits_walk (A : Option Addr) (n c : Nat) (xs : List Int) (hx : xs.length = n) (hc : n ≤ c) (hm : c ≤ maxLen) (_ : ∀ x ∈ xs, (Lit.int .u16 x).wf = true)
    (B : Option Addr) (m d : Nat) (ys : List Int) (hy : ys.length = m) (hd : m ≤ d) (hm2 : d ≤ maxLen) (_ : ∀ x ∈ ys, (Lit.int .u16 x).wf = true)
    (w : World) (ha : Holds w w.heap.size A (xs.map (Value.int .u16))) (hb : Holds w w.heap.size B (ys.map (Value.int .u16))) :
    Calls Try.prog 5 #[.slice A n c, .slice B m d] w fun e w' => e = .returned (.bool true) ∧ Below w.heap.size w w' := by
  have Hx := Lib.hid hx
  have Hy := Lib.hid hy
  clear hx hy
  by_cases h1 : 2147483647 < n
  · have h1' : (2147483647 : Int) < (n : Int) := by omega
    go_enter Try.func5, Try.ntmps5
    go_wp2
    go_ret
    exact ⟨rfl, Below.refl _ _⟩
  · by_cases h2 : 2147483647 < m
    · have h1' : ¬ (2147483647 : Int) < (n : Int) := by omega
      have h2' : (2147483647 : Int) < (m : Int) := by omega
      go_enter Try.func5, Try.ntmps5
      go_wp2
      go_ret
      exact ⟨rfl, Below.refl _ _⟩
    · have h1' : ¬ (2147483647 : Int) < (n : Int) := by omega
      have h2' : ¬ (2147483647 : Int) < (m : Int) := by omega
      have hnm : n ≤ maxLen := by unfold maxLen; omega
      go_enter Try.func5, Try.ntmps5
      go_wp2_with fail
      refine (eq13 A B n m c d xs ys Hx.out Hy.out hnm w ha hb).mono ?_
      rintro e w' ⟨rfl, rfl⟩
      go_wp2_with fail
      refine (eq14 A B n m c d xs ys Hx.out Hy.out hnm w' ha hb).mono ?_
      rintro e w' ⟨rfl, q, rfl⟩
      obtain ⟨i0, hi0, hz0, hz1, hz2⟩ := info_parts info43
      go_wp2_with (at_builtin
                   refine wpList_append_holds _ rfl (.tmp 22) (.tmp 23) _ rfl w'.heap.size 43 i0 _ 1 2 Try.underlying27 hi0 hz0 hz1 hz2 rfl (by omega) (.slice (some ⟨w'.heap.size, 0, none⟩) 0 0) 0 [] rfl
                     (World.ownsRow_made (w'.drewN q) #[] 0 (Nat.le_refl _) (by decide) rfl) w'.heap.size A n c (xs.map (Value.int .u16)) rfl (by rw [List.length_map, Hx.out]; omega) ((ha.drewN q).alloc (Nat.le_refl _) _) oneCell_ints (by simp only [maxLen]; omega) (by omega) (by simp) ?_
                   intro v1 w1 hown1 hg1 hat1)
      have hb1 : Below w'.heap.size w' w1 := Below.grown (((below_drewN (Below.refl _ w') q).alloc (Nat.le_refl _) _)) hg1 (by simp) (fun k hk => by simp [Value.ownBlock] at hk; omega)
      rw [Nat.zero_add, List.nil_append] at hown1
      obtain ⟨A1, c1, rfl, hc1, _, hh1⟩ := own_form hown1
      refine (eq13 A A1 n n c c1 xs xs Hx.out Hx.out hnm w1 ((ha.below hb1).more hb1.size) hh1).mono ?_
      rintro e w2 ⟨rfl, rfl⟩
      have hs := same_self xs
      go_wp2
      go_ret
      exact ⟨rfl, hb1⟩
end Go.Proofs.Ytgfneibklomdjaa
