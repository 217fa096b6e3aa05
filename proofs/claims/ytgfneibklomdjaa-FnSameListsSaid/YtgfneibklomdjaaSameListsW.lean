/- The walk of 'laws.FnSameLists'. -/
import Derived.Test.YtgfneibklomdjaaChecked
import Derived.WalkKit
import Derived.BigQuiet
import Derived.Deep.QuietTactic
import Derived.Test.YtgfneibklomdjaaApp
namespace Go.Proofs.Ytgfneibklomdjaa
open Go.RowKit Stamp
set_option linter.unusedVariables false

def FitsPost (n : Nat) (w : World) (e : Ending) (w' : World) : Prop := ∃ b : Bool, e = .returned (.bool b) ∧ (b = true → n ≤ 2147483647) ∧ w' = w

set_option maxHeartbeats 400000 in
theorem fits18 (A : Option Addr) (n c : Nat) (xs : List ByteArray) (hx : xs.length = n) (hn : n ≤ maxLen) (hs : ∀ s ∈ xs, s.size ≤ maxLen) (w : World)
    (ha : Holds w w.heap.size A (xs.map Value.string)) :
    Calls Try.prog 18 #[.slice A n c] w (FitsPost n w) := by
  unfold maxLen at hn
  have Hx := Lib.hid hx
  have Hs := Lib.hid hs
  clear hx hs
  by_cases h1 : 2147483647 < n
  · have h1' : (2147483647 : Int) < (n : Int) := by omega
    go_enter Try.func18, Try.ntmps18
    go_wp2
    go_ret
    exact ⟨false, rfl, by simp, rfl⟩
  · have h1' : ¬ (2147483647 : Int) < (n : Int) := by omega
    go_enter Try.func18, Try.ntmps18
    go_wp2
    go_loop [10] (fun i => ∃ k : Nat, k ≤ n ∧ i = .int .i64 k) (fun i => n - (intOf i).toNat)
    case atStart => exact ⟨0, Nat.zero_le _, rfl⟩
    case round =>
      obtain ⟨k, hk, rfl⟩ := hrel
      by_cases hlt : k < n
      · obtain ⟨b1, o1, x, rfl, _, hx, hc1⟩ := ha.atMap (k := k) (by rw [Hx.out]; exact hlt)
        have HX := Lib.hid hx
        have hsz : x.size ≤ maxLen := Hs.out x (List.mem_of_getElem? hx)
        unfold maxLen at hsz
        clear hx ha
        by_cases h2 : 2147483647 < x.size
        · have h2' : (2147483647 : Int) < (x.size : Int) := by omega
          go_wp2
          go_ret
          exact ⟨false, rfl, by simp, rfl⟩
        · have h2' : ¬ (2147483647 : Int) < (x.size : Int) := by omega
          go_wp2
          go_round
          case rel => exact ⟨k + 1, by omega, by go_num⟩
          case measure => simp [intOf]; omega
      · go_wp2
        go_ret
        exact ⟨true, rfl, fun _ => by omega, rfl⟩

set_option maxHeartbeats 400000 in
theorem eq28 (A B : Option Addr) (n m c d : Nat) (xs ys : List ByteArray) (hx : xs.length = n) (hy : ys.length = m) (hn : n ≤ maxLen) (w : World) (W : Nat)
    (ha : Holds w W A (xs.map Value.string)) (hb : Holds w W B (ys.map Value.string)) :
    Calls Try.prog 28 #[.slice A n c, .slice B m d] w fun e w' => e = .returned (.bool (same xs ys)) ∧ w' = w := by
  unfold maxLen at hn
  by_cases hnm : n = m
  · obtain rfl : m = n := hnm.symm
    have ht : ((m : Int) != (m : Int)) = false := by simp
    have Hx := Lib.hid hx
    have Hy := Lib.hid hy
    clear hx hy
    go_enter Try.func28, Try.ntmps28
    go_wp2
    go_loop [14] (fun i => ∃ k : Nat, k ≤ m ∧ i = .int .i64 k ∧ Hid (xs.take k = ys.take k)) (fun i => m - (intOf i).toNat)
    case atStart => exact ⟨0, Nat.zero_le _, rfl, Lib.hid rfl⟩
    case round =>
      obtain ⟨k, hk, rfl, hs⟩ := hrel
      by_cases hlt : k < m
      · obtain ⟨b1, o1, x, rfl, _, hx, hc1⟩ := ha.atMap (k := k) (by rw [Hx.out]; exact hlt)
        obtain ⟨b2, o2, y, rfl, _, hy, hc2⟩ := hb.atMap (k := k) (by rw [Hy.out]; exact hlt)
        have HX := Lib.hid hx
        have HY := Lib.hid hy
        clear hx hy ha hb
        by_cases hxy : x = y
        · subst hxy
          go_wp2
          go_round
          case rel => exact ⟨k + 1, by omega, by go_num, Lib.hid (take_same hs.out HX.out HY.out)⟩
          case measure => simp [intOf]; omega
        · have ht2 : (x.toList == y.toList) = false := bytes_ne hxy
          have hf := Lib.hid (same_false_at HX.out HY.out hxy)
          clear hxy
          go_wp2
          go_ret
          exact ⟨ret_bool hf.out.symm, rfl⟩
      · have hf := Lib.hid (same_of_take hs.out (by rw [Hx.out]; omega) (by rw [Hy.out]; omega))
        go_wp2
        go_ret
        exact ⟨ret_bool hf.out.symm, rfl⟩
  · have ht : ((n : Int) != (m : Int)) = true := by simp; omega
    have hf := Lib.hid (same_false_len (a := xs) (b := ys) (by rw [hx, hy]; exact hnm))
    clear hx hy
    go_enter Try.func28, Try.ntmps28
    go_wp2
    go_ret
    exact ⟨ret_bool hf.out.symm, rfl⟩

theorem eq19 (A B : Option Addr) (n m c d : Nat) (xs ys : List ByteArray) (hx : xs.length = n) (hy : ys.length = m) (hn : n ≤ maxLen) (w : World) (W : Nat)
    (ha : Holds w W A (xs.map Value.string)) (hb : Holds w W B (ys.map Value.string)) :
    Calls Try.prog 19 #[.slice A n c, .slice B m d] w fun e w' => e = .returned (.bool (same xs ys)) ∧ w' = w := by
  have Hx := Lib.hid hx
  have Hy := Lib.hid hy
  clear hx hy
  go_enter Try.func19, Try.ntmps19
  go_wp2_with fail
  refine (eq28 A B n m c d xs ys Hx.out Hy.out hn w W ha hb).mono ?_
  rintro e w' ⟨rfl, rfl⟩
  go_wp2
  go_ret
  exact ⟨rfl, rfl⟩

set_option maxHeartbeats 400000 in
theorem tab29 (g g' : Nat) (A B : Option Addr) (n m c d : Nat) (xs ys : List ByteArray) (hx : xs.length = n) (hy : ys.length = m) (hn : n ≤ maxLen) (hm : m ≤ maxLen) (w : World) (W : Nat)
    (ha : Holds w W A (xs.map Value.string)) (hb : Holds w W B (ys.map Value.string))
    (c1 : w.cell? ⟨g, 0, none⟩ = some (.slice A n c)) (c2 : w.cell? ⟨g, 1, none⟩ = some (.slice B m d))
    (c3 : w.cell? ⟨g', 0, none⟩ = some (.slice B m d)) (c4 : w.cell? ⟨g', 1, none⟩ = some (.slice A n c)) :
    Calls Try.prog 29 #[.slice (some ⟨g, 0, none⟩) 2 2, .slice (some ⟨g', 0, none⟩) 2 2] w fun e w' => e = .returned (.bool (same xs ys)) ∧ w' = w := by
  have Hx := Lib.hid hx
  have Hy := Lib.hid hy
  clear hx hy
  by_cases hs : xs = ys
  · have h1 : same xs ys = true := same_true.2 hs
    have h2 : same ys xs = true := same_true.2 hs.symm
    clear hs
    go_enter Try.func29, Try.ntmps29
    go_wp2
    go_loop [14] (fun i => ∃ k : Nat, k ≤ 2 ∧ i = .int .i64 k) (fun i => 2 - (intOf i).toNat)
    case atStart => exact ⟨0, Nat.zero_le _, rfl⟩
    case round =>
      obtain ⟨k, hk, rfl⟩ := hrel
      match k, hk with
      | 0, _ =>
        go_wp2_with fail
        refine (eq28 A B n m c d xs ys Hx.out Hy.out hn w W ha hb).mono ?_
        rintro e w' ⟨rfl, rfl⟩
        go_wp2
        go_round
        case rel => exact ⟨1, by omega, rfl⟩
        case measure => simp [intOf]
      | 1, _ =>
        go_wp2_with fail
        refine (eq28 B A m n d c ys xs Hy.out Hx.out hm w W hb ha).mono ?_
        rintro e w' ⟨rfl, rfl⟩
        go_wp2
        go_round
        case rel => exact ⟨2, by omega, rfl⟩
        case measure => simp [intOf]
      | 2, _ =>
        go_wp2
        go_ret
        exact ⟨rfl, rfl⟩
  · have h1 : same xs ys = false := same_false hs
    clear hs
    go_enter Try.func29, Try.ntmps29
    go_wp2
    go_loop [14] (fun i => i = .int .i64 ((0 : Nat) : Int)) (fun i => 2 - (intOf i).toNat)
    case atStart => rfl
    case round =>
      subst hrel
      go_wp2_with fail
      refine (eq28 A B n m c d xs ys Hx.out Hy.out hn w W ha hb).mono ?_
      rintro e w' ⟨rfl, rfl⟩
      go_wp2
      go_ret
      exact ⟨ret_bool h1.symm, rfl⟩

theorem tab20 (g g' : Nat) (A B : Option Addr) (n m c d : Nat) (xs ys : List ByteArray) (hx : xs.length = n) (hy : ys.length = m) (hn : n ≤ maxLen) (hm : m ≤ maxLen) (w : World) (W : Nat)
    (ha : Holds w W A (xs.map Value.string)) (hb : Holds w W B (ys.map Value.string))
    (c1 : w.cell? ⟨g, 0, none⟩ = some (.slice A n c)) (c2 : w.cell? ⟨g, 1, none⟩ = some (.slice B m d))
    (c3 : w.cell? ⟨g', 0, none⟩ = some (.slice B m d)) (c4 : w.cell? ⟨g', 1, none⟩ = some (.slice A n c)) :
    Calls Try.prog 20 #[.slice (some ⟨g, 0, none⟩) 2 2, .slice (some ⟨g', 0, none⟩) 2 2] w fun e w' => e = .returned (.bool (same xs ys)) ∧ w' = w := by
  have Hx := Lib.hid hx
  have Hy := Lib.hid hy
  clear hx hy
  go_enter Try.func20, Try.ntmps20
  go_wp2_with fail
  refine (tab29 g g' A B n m c d xs ys Hx.out Hy.out hn hm w W ha hb c1 c2 c3 c4).mono ?_
  rintro e w' ⟨rfl, rfl⟩
  go_wp2
  go_ret
  exact ⟨rfl, rfl⟩

theorem info9 : (Try.prog.info? 9).map (fun i => (i.zero, i.size, i.bytes)) = some (some (.string ByteArray.empty), 1, 16) := by kernel_rfl

theorem tag_start (n m : Nat) (xs ys : List ByteArray) : (((n : Int) == (m : Int))) = (decide (n = m) && same (xs.take 0) (ys.take 0)) := by
  rw [Bool.eq_iff_iff, Bool.and_eq_true, same_true]
  simp
  omega

theorem tag_step (n m : Nat) (xs ys : List ByteArray) (k : Nat) (x y : ByteArray) (hb : true = (decide (n = m) && same (xs.take k) (ys.take k))) (hx : xs[k]? = some x) (hy : ys[k]? = some y) :
    decide (x = y) = (decide (n = m) && same (xs.take (k + 1)) (ys.take (k + 1))) := by
  have h := hb.symm
  rw [Bool.and_eq_true, same_true] at h
  rw [h.1, Bool.true_and, List.take_add_one, List.take_add_one, h.2, hx, hy]
  rw [Bool.eq_iff_iff, decide_eq_true_iff, same_true]
  simp

theorem tag_stay (n m : Nat) (xs ys : List ByteArray) (k : Nat) (hb : false = (decide (n = m) && same (xs.take k) (ys.take k))) : false = (decide (n = m) && same (xs.take (k + 1)) (ys.take (k + 1))) := by
  symm
  rw [Bool.and_eq_false_iff]
  rcases Bool.and_eq_false_iff.1 hb.symm with h | h
  · exact .inl h
  · right
    refine same_false fun e => ?_
    have e2 := congrArg (List.take k) e
    rw [List.take_take, List.take_take, show min k (k + 1) = k from by omega] at e2
    rw [e2, same_self] at h
    cases h

theorem tag_end (n m : Nat) (xs ys : List ByteArray) (hx : xs.length = n) (hy : ys.length = m) (b : Bool) (hb : b = (decide (n = m) && same (xs.take n) (ys.take n))) : b = same xs ys := by
  by_cases h : n = m
  · rw [hb, decide_eq_true h, Bool.true_and, List.take_of_length_le (by omega), List.take_of_length_le (by omega)]
  · rw [hb, decide_eq_false h, Bool.false_and, same_false_len (by omega)]

set_option maxHeartbeats 800000 in
theorem sameLists_walk (A : Option Addr) (n c : Nat) (xs : List ByteArray) (hx : xs.length = n) (hc : n ≤ c) (hm : c ≤ maxLen) (hs : ∀ x ∈ xs, x.size ≤ maxLen)
    (B : Option Addr) (m d : Nat) (ys : List ByteArray) (hy : ys.length = m) (hd : m ≤ d) (hm2 : d ≤ maxLen) (hs2 : ∀ x ∈ ys, x.size ≤ maxLen)
    (w : World) (ha : Holds w w.heap.size A (xs.map Value.string)) (hb : Holds w w.heap.size B (ys.map Value.string)) :
    Calls Try.prog 8 #[.slice A n c, .slice B m d] w fun e w' => e = .returned (.bool true) ∧ Below w.heap.size w w' := by
  have Hx := Lib.hid hx
  have Hy := Lib.hid hy
  have hnm : n ≤ maxLen := by omega
  have hmm : m ≤ maxLen := by omega
  have Hs := Lib.hid hs
  have Hs2 := Lib.hid hs2
  clear hx hy hs hs2
  go_enter Try.func8, Try.ntmps8
  go_wp2_with fail
  refine (fits18 A n c xs Hx.out hnm Hs.out w ha).mono ?_
  rintro e w' ⟨b, rfl, hb1, rfl⟩
  cases b
  · clear hb1
    go_wp2
    go_ret
    exact ⟨rfl, Below.refl _ _⟩
  · have hn := hb1 rfl
    clear hb1
    go_wp2_with fail
    refine (fits18 B m d ys Hy.out hmm Hs2.out w' hb).mono ?_
    rintro e w' ⟨b, rfl, hb1, rfl⟩
    cases b
    · clear hb1
      go_wp2
      go_ret
      exact ⟨rfl, Below.refl _ _⟩
    · have hm := hb1 rfl
      clear hb1
      go_wp2
      go_loopw [5, 22] (fun s i wr => ∃ (k q : Nat) (b : Bool), k ≤ n ∧ i = .int .i64 k ∧ s = .bool b ∧ Hid (b = (decide (n = m) && same (xs.take k) (ys.take k))) ∧ wr = w'.drewN q) (fun _ i _ => n - (intOf i).toNat)
      case atStart => exact ⟨0, 0, _, Nat.zero_le _, rfl, rfl, Lib.hid (tag_start n m xs ys), rfl⟩
      case round =>
        obtain ⟨k, q, b, hk, rfl, rfl, hB, rfl⟩ := hrel
        by_cases hlt : k < n
        · cases b
          · have hf : false = false := rfl
            go_wp2
            go_quiet (fail)
            go_wp2
            go_roundw
            case rel => exact ⟨k + 1, _, false, by omega, by go_num, rfl, Lib.hid (tag_stay n m xs ys k hB.out), rfl⟩
            case measure => simp [intOf]; omega
          · have hnm2 : n = m := by have := hB.out; simp at this; exact this.1
            obtain ⟨b1, o1, x, rfl, _, hx, hc1⟩ := ha.atMap (k := k) (by rw [Hx.out]; exact hlt)
            obtain ⟨b2, o2, y, rfl, _, hy, hc2⟩ := hb.atMap (k := k) (by rw [Hy.out]; omega)
            have HB := Lib.hid (tag_step n m xs ys k x y hB.out hx hy)
            have i0 : (0 : Int) ≤ (k : Int) := by omega
            have i1 : (k : Int) < (n : Int) := by omega
            have i2 : (k : Int) < (m : Int) := by omega
            clear hnm2 hx hy
            go_wp2
            go_quiet (fail)
            go_wp2
            go_roundw
            case rel => exact ⟨k + 1, _, _, by omega, by go_num, rfl, Lib.hid (by rw [← HB.out, bytes_beq]), rfl⟩
            case measure => simp [intOf]; omega
        · have hkn : k = n := by omega
          have hbe : b = same xs ys := tag_end n m xs ys Hx.out Hy.out b (by rw [← hkn]; have := hB.out; rw [hkn] at this ⊢; exact this)
          subst hbe
          clear hB hkn
          go_wp2_with fail
          refine (eq19 A B n m c d xs ys Hx.out Hy.out hnm _ _ (ha.drewN q) (hb.drewN q)).mono ?_
          rintro e w1 ⟨rfl, rfl⟩
          go_wp2_with fail
          refine (tab20 w'.heap.size (w'.heap.size + 1) A B n m c d xs ys Hx.out Hy.out hnm hmm _ w'.heap.size ((((ha.drewN q).alloc (Nat.le_refl _) _)).alloc (by simp) _) ((((hb.drewN q).alloc (Nat.le_refl _) _)).alloc (by simp) _) ?_ ?_ ?_ ?_).mono ?_
          · exact cell_old _ _ _ _ (by simp) (cell_new _ _ _ _ _ _ rfl rfl)
          · exact cell_old _ _ _ _ (by simp) (cell_new _ _ _ _ _ _ rfl rfl)
          · exact cell_new _ _ _ _ _ _ (by simp) rfl
          · exact cell_new _ _ _ _ _ _ (by simp) rfl
          rintro e w1 ⟨rfl, rfl⟩
          obtain ⟨i0, hi0, hz0, hz1, hz2⟩ := info_parts info9
          go_wp2_with (at_builtin
                       refine wpList_append_holds _ rfl (.tmp 56) (.tmp 57) _ rfl w'.heap.size 9 i0 _ 1 16 Try.underlying36 hi0 hz0 hz1 hz2 rfl (by omega) (.slice (some ⟨w'.heap.size + 2, 0, none⟩) 0 0) 0 [] rfl (own_new _ _ _ _ _ (by simp) (by omega)) w'.heap.size A n c (xs.map Value.string) rfl (by rw [List.length_map, Hx.out]; omega) (((((ha.drewN q).alloc (Nat.le_refl _) _)).alloc (by simp) _).alloc (by simp; omega) _) oneCell_strings (by simp only [maxLen]; omega) (by omega) (by simp; omega) ?_
                       intro v1 w2 hown1 hg1 hat1)
          have hb1 : Below w'.heap.size w' w2 := Below.grown (((((below_drewN (Below.refl _ w') q).alloc (Nat.le_refl _) _)).alloc (by simp) _).alloc (by simp; omega) _) hg1 (by simp; omega) (fun k hk => by simp [Value.ownBlock] at hk; omega)
          rw [Nat.zero_add, List.nil_append] at hown1
          obtain ⟨A1, c1, rfl, hc1, _, hh1⟩ := own_form hown1
          refine (eq19 A A1 n n c c1 xs xs Hx.out Hx.out hnm w2 w2.heap.size ((ha.below hb1).more hb1.size) hh1).mono ?_
          rintro e w3 ⟨rfl, rfl⟩
          have hs := same_self xs
          go_wp2
          go_ret
          exact ⟨rfl, hb1⟩

end Go.Proofs.Ytgfneibklomdjaa
