/- The contract of 'spec.Bare'. -/
import Derived.Test.YtolgpnkofnibjaaQuI
import Derived.Lib.IndexBytes
namespace Go.Proofs.Ytolgpnkofnibjaa
open Go.RowKit Stamp
set_option linter.unusedVariables false

/-- without the backslashes ahead of double quotes, as bytes -/
def bareU : List UInt8 → List UInt8
  | [] => []
  | c :: t => if c = 92 then (match t with | [] => [c] | d :: r => if d = 34 then d :: bareU r else c :: d :: bareU r) else c :: bareU t
theorem bareU_toU {l : List Nat} (h : ∀ x ∈ l, x < 256) : bareU (toU l) = toU (bareL l) := by
  have key : ∀ (n : Nat) (l : List Nat), l.length ≤ n → (∀ x ∈ l, x < 256) → bareU (toU l) = toU (bareL l) := by
    intro n
    induction n with
    | zero =>
      intro l hl _
      have : l = [] := List.eq_nil_of_length_eq_zero (by omega)
      subst this; simp [toU, bareU, bareL]
    | succ n ih =>
      intro l hl h
      match l, hl, h with
      | [], _, _ => simp [toU, bareU, bareL]
      | c :: t, hl, h =>
        have hc : c < 256 := h c (by simp)
        have e1 : (UInt8.ofNat c = 92) ↔ c = 92 := ⟨fun e => by have := congrArg UInt8.toNat e; rw [toNat_ofNat_lt hc] at this; exact this, fun e => by rw [e]; rfl⟩
        by_cases c1 : c = 92
        · match t, hl, h with
          | [], _, _ => subst c1; simp [toU, bareU, bareL]
          | d :: r, hl, h =>
            have hd : d < 256 := h d (by simp)
            have e2 : (UInt8.ofNat d = 34) ↔ d = 34 := ⟨fun e => by have := congrArg UInt8.toNat e; rw [toNat_ofNat_lt hd] at this; exact this, fun e => by rw [e]; rfl⟩
            have hr := ih r (by simp at hl; omega) (fun x hx => h x (by simp [hx]))
            by_cases d1 : d = 34
            · have : bareL (c :: d :: r) = d :: bareL r := by simp [bareL, c1, d1]
              rw [this]
              show bareU (UInt8.ofNat c :: UInt8.ofNat d :: toU r) = UInt8.ofNat d :: toU (bareL r)
              rw [← hr]; simp [bareU, e1.2 c1, e2.2 d1]
            · have : bareL (c :: d :: r) = c :: d :: bareL r := by simp [bareL, c1, d1]
              rw [this]
              show bareU (UInt8.ofNat c :: UInt8.ofNat d :: toU r) = UInt8.ofNat c :: UInt8.ofNat d :: toU (bareL r)
              rw [← hr]
              have : ¬ UInt8.ofNat d = 34 := fun e => d1 (e2.1 e)
              simp [bareU, e1.2 c1, this]
        · have hr := ih t (by simp at hl; omega) (fun x hx => h x (by simp [hx]))
          rw [bare_cons c1]
          show bareU (UInt8.ofNat c :: toU t) = UInt8.ofNat c :: toU (bareL t)
          rw [← hr]
          have : ¬ UInt8.ofNat c = 92 := fun e => c1 (e1.1 e)
          cases ht : toU t <;> simp [bareU, this]
  exact key l.length l (Nat.le_refl _) h
theorem bareU_len (l : List UInt8) : (bareU l).length ≤ l.length := by
  have key : ∀ (n : Nat) (l : List UInt8), l.length ≤ n → (bareU l).length ≤ l.length := by
    intro n
    induction n with
    | zero =>
      intro l hl
      have : l = [] := List.eq_nil_of_length_eq_zero (by omega)
      subst this; simp [bareU]
    | succ n ih =>
      intro l hl
      match l, hl with
      | [], _ => simp [bareU]
      | [c], _ => by_cases c1 : c = 92 <;> simp [bareU, c1]
      | c :: d :: r, hl =>
        have h1 := ih r (by simp at hl; omega)
        have h2 := ih (d :: r) (by simp at hl ⊢; omega)
        by_cases c1 : c = 92
        · by_cases d1 : d = 34
          · simp [bareU, c1, d1]; omega
          · simp [bareU, c1, d1]; omega
        · have : bareU (c :: d :: r) = c :: bareU (d :: r) := by rw [bareU, if_neg c1]
          rw [this]; simp at h2 ⊢; omega
  exact key l.length l (Nat.le_refl _)
/-- what the loop keeps: what is written so far, and what is made of the rest -/
def BRel (l : List UInt8) (i : Nat) (done : List UInt8) : Prop := done ++ bareU (l.drop i) = bareU l ∧ done.length ≤ i ∧ i ≤ l.length
theorem drop_at {l : List UInt8} {i : Nat} {c : UInt8} (h : l[i]? = some c) : l.drop i = c :: l.drop (i + 1) := by
  obtain ⟨hi, hc⟩ := List.getElem?_eq_some_iff.1 h
  rw [List.drop_eq_getElem_cons hi, hc]
theorem BRel.plain {l done : List UInt8} {i : Nat} {c : UInt8} (h : BRel l i done) (hc : l[i]? = some c) (hn : c ≠ 92) : BRel l (i + 1) (done ++ [c]) := by
  obtain ⟨h1, h2, h3⟩ := h
  have hi := (List.getElem?_eq_some_iff.1 hc).1
  refine ⟨?_, by simp; omega, by omega⟩
  rw [drop_at hc] at h1
  rw [← h1]
  have : bareU (c :: l.drop (i + 1)) = c :: bareU (l.drop (i + 1)) := by cases l.drop (i + 1) <;> simp [bareU, hn]
  rw [this]; simp
theorem BRel.last {l done : List UInt8} {i : Nat} (h : BRel l i done) (hc : l[i]? = some 92) (he : l[i + 1]? = none) : BRel l (i + 1) (done ++ [92]) := by
  obtain ⟨h1, h2, h3⟩ := h
  have hi := (List.getElem?_eq_some_iff.1 hc).1
  refine ⟨?_, by simp; omega, by omega⟩
  have hd : l.drop (i + 1) = [] := List.drop_eq_nil_of_le (by rw [List.getElem?_eq_none_iff] at he; exact he)
  rw [drop_at hc, hd] at h1
  rw [hd, ← h1]; simp [bareU]
theorem BRel.quote {l done : List UInt8} {i : Nat} (h : BRel l i done) (hc : l[i]? = some 92) (he : l[i + 1]? = some 34) : BRel l (i + 2) (done ++ [34]) := by
  obtain ⟨h1, h2, h3⟩ := h
  have hi := (List.getElem?_eq_some_iff.1 he).1
  refine ⟨?_, by simp; omega, by omega⟩
  rw [drop_at hc, drop_at he] at h1
  rw [← h1]; simp [bareU]
theorem BRel.other {l done : List UInt8} {i : Nat} {d : UInt8} (h : BRel l i done) (hc : l[i]? = some 92) (he : l[i + 1]? = some d) (hd : d ≠ 34) : BRel l (i + 2) (done ++ [92] ++ [d]) := by
  obtain ⟨h1, h2, h3⟩ := h
  have hi := (List.getElem?_eq_some_iff.1 he).1
  refine ⟨?_, by simp; omega, by omega⟩
  rw [drop_at hc, drop_at he] at h1
  rw [← h1]; simp [bareU, hd]
theorem BRel.finish {l done : List UInt8} {i : Nat} (h : BRel l i done) (hi : l.length ≤ i) : done = bareU l := by
  obtain ⟨h1, _, _⟩ := h
  rw [List.drop_eq_nil_of_le hi] at h1
  simpa [bareU] using h1
theorem bytesV_one (l : List UInt8) (c : UInt8) : bytesV (l ++ [c]) = bytesV l ++ [.int .u8 (c.toNat : Int)] := by simp [bytesV]
theorem oneCell_bv {l : List UInt8} : ∀ u ∈ bytesV l, u.oneCell' = true := by
  intro u hu
  obtain ⟨x, _, rfl⟩ := List.mem_map.1 hu
  rfl
theorem ib_eq {x : UInt8} {n : Nat} (hn : n < 256) (h : x = UInt8.ofNat n) : ((x.toNat : Int) == (n : Int)) = true := by
  rw [h, UInt8.toNat_ofNat']; simp; omega
theorem ib_ne {x : UInt8} {n : Nat} (hn : n < 256) (h : x ≠ UInt8.ofNat n) : ((x.toNat : Int) == (n : Int)) = false := by
  rw [beq_eq_false_iff_ne]; intro e
  exact h (UInt8.toNat_inj.1 (by rw [UInt8.toNat_ofNat']; omega))

set_option maxRecDepth 100000 in
set_option maxHeartbeats 4000000 in
theorem Bare_calls (s : ByteArray) (hs : s.size ≤ 34359738368) (w : World) : Calls Try.prog 20 #[.string s] w fun e w' => e = .returned (.string ⟨(bareU s.data.toList).toArray⟩) ∧ Below w.heap.size w w' := by
  obtain ⟨i0, hi0, hz0, hz1, hz2⟩ := info_parts infoU8
  have hR := Lib.hid (show BRel s.data.toList 0 [] from ⟨rfl, Nat.le_refl _, by omega⟩)
  go_enter Try.func20, Try.ntmps20
  go_wp2
  go_loopw [3, 4] (fun v vi wr => ∃ (i : Nat) (done : List UInt8), vi = .int .i64 i ∧ i ≤ s.size ∧ done.length ≤ i ∧ Hid (BRel s.data.toList i done) ∧ wr.ownsRow w.heap.size 5 1 v done.length (bytesV done) ∧ Below w.heap.size w wr) (fun _ vi _ => s.size - (intOf vi).toNat)
  case atStart => exact ⟨0, [], rfl, by omega, Nat.le_refl _, hR, World.ownsRow_nil _ _ _ _, Below.refl _ _⟩
  case round =>
    clear hR
    obtain ⟨i, done, rfl, hi, hdl, HR, hown, hb⟩ := hrel
    have hbs := hb.size
    by_cases hlt : i < s.size
    · have hlt' : (i : Int) < (s.size : Int) := by omega
      have hx := Lib.data_getElem? s i hlt
      by_cases hc : s[i] = 92
      · have ht : ((s[i].toNat : Int) == 92) = true := ib_eq (n := 92) (by decide) hc
        rw [hc] at hx
        by_cases hz : i + 1 < s.size
        · have hz' : (i : Int) + 1 < (s.size : Int) := by omega
          have hy := Lib.data_getElem? s (i + 1) hz
          by_cases hd : s[i + 1] = 34
          · have ht2 : ((s[i + 1].toNat : Int) != 34) = false := by rw [hd]; rfl
            have HR2 := Lib.hid (HR.out.quote hx (by rw [hy, hd]))
            have hd2 : (s[i + 1].toNat : Int) = 34 := by rw [hd]; rfl
            have Hd2 := Lib.hid hd2
            clear hc hx hy HR hd hd2
            go_wp2_with (at_builtin
                         refine wpList_append_holds _ rfl (.tmp 31) (.tmp 35) _ rfl w.heap.size 5 i0 _ 1 1 Try.underlying47 hi0 hz0 hz1 hz2 rfl (by omega) _ done.length _ rfl (hown.alloc _) (wr.heap.size + 1) _ 1 1 [.int .u8 (s[i + 1].toNat : Int)] rfl rfl (Holds.one _ _ _) (oneCell_bv (l := [s[i + 1]])) (by simp only [maxLen]; omega) (by omega) (by simp; omega) ?_
                         intro v1 w4 hown4 hg4 hat4)
            have hb4 := Below.grown (hb.alloc hbs (.cells #[.int .u8 (s[i + 1].toNat : Int)] 5)) hg4 (by simp; omega) (own_row_ge hown)
            exact ⟨⟨i + 2, done ++ [34], by go_num, by omega, by simp; omega, HR2, by rw [bytesV_one, List.length_append]; rw [Hd2.out] at hown4; exact hown4, hb4⟩, by simp [intOf]; omega⟩
          · have ht2 : ((s[i + 1].toNat : Int) != 34) = true := by
              rw [bne_iff_ne]; intro h; exact hd (UInt8.toNat_inj.1 (by show s[i + 1].toNat = 34; omega))
            have HR2 := Lib.hid (HR.out.other hx hy hd)
            clear hc hx hy HR hd
            go_wp2_with (first | (at_builtin; refine wpList_append_holds _ rfl (.tmp 28) (.tmp 29) _ rfl w.heap.size 5 i0 _ 1 1 Try.underlying47 hi0 hz0 hz1 hz2 rfl (by omega) _ done.length _ rfl (hown.alloc _) (wr.heap.size + 1) _ 1 1 [.int .u8 92] rfl rfl (Holds.one _ _ _) (oneCell_bv (l := [92])) (by simp only [maxLen]; omega) (by omega) (by simp; omega) ?_; intro v1 w4 hown4 hg4 hat4; have hb4 := Below.grown (hb.alloc hbs (.cells #[.int .u8 92] 5)) hg4 (by simp; omega) (own_row_ge hown); have hb4s := hb4.size; have hown5 : w4.ownsRow w.heap.size 5 1 v1 (done ++ [92]).length (bytesV (done ++ [92])) := (by rw [bytesV_one, List.length_append]; exact hown4); have hl5 : (done ++ [92]).length ≤ i + 1 := (by simp; omega); clear hown4 hg4 hat4 hown) | (at_builtin; refine wpList_append_holds _ rfl (.tmp 31) (.tmp 35) _ rfl w.heap.size 5 i0 _ 1 1 Try.underlying47 hi0 hz0 hz1 hz2 rfl (by omega) _ (done ++ [92]).length _ rfl (hown5.alloc _) (w4.heap.size + 1) _ 1 1 [.int .u8 (s[i + 1].toNat : Int)] rfl rfl (Holds.one _ _ _) (oneCell_bv (l := [s[i + 1]])) (by simp only [maxLen]; omega) (by omega) (by simp; omega) ?_; intro v2 w5 hown6 hg6 hat6))
            have hb6 := Below.grown (hb4.alloc hb4s (.cells #[.int .u8 (s[i + 1].toNat : Int)] 5)) hg6 (by simp; omega) (own_row_ge hown5)
            exact ⟨⟨i + 2, done ++ [92] ++ [s[i + 1]], by go_num, by omega, by simp; omega, HR2, by rw [bytesV_one, List.length_append]; exact hown6, hb6⟩, by simp [intOf]; omega⟩
        · have hz' : decide ((i : Int) + 1 < (s.size : Int)) = false := by simp; omega
          have hy : s.data.toList[i + 1]? = none := by rw [List.getElem?_eq_none_iff]; simp; show s.size ≤ i + 1; omega
          have HR2 := Lib.hid (HR.out.last hx hy)
          have Hd2 := Lib.hid (show (s[i].toNat : Int) = 92 by rw [hc]; rfl)
          clear hc hx hy HR
          go_wp2_with (at_builtin
                       refine wpList_append_holds _ rfl (.tmp 31) (.tmp 35) _ rfl w.heap.size 5 i0 _ 1 1 Try.underlying47 hi0 hz0 hz1 hz2 rfl (by omega) _ done.length _ rfl (hown.alloc _) (wr.heap.size + 1) _ 1 1 [.int .u8 (s[i].toNat : Int)] rfl rfl (Holds.one _ _ _) (oneCell_bv (l := [s[i]])) (by simp only [maxLen]; omega) (by omega) (by simp; omega) ?_
                       intro v1 w4 hown4 hg4 hat4)
          have hb4 := Below.grown (hb.alloc hbs (.cells #[.int .u8 (s[i].toNat : Int)] 5)) hg4 (by simp; omega) (own_row_ge hown)
          exact ⟨⟨i + 1, done ++ [92], by go_num, by omega, by simp; omega, HR2, by rw [bytesV_one, List.length_append]; rw [Hd2.out] at hown4; exact hown4, hb4⟩, by simp [intOf]; omega⟩
      · have ht : ((s[i].toNat : Int) == 92) = false := ib_ne (n := 92) (by decide) hc
        have HR2 := Lib.hid (HR.out.plain hx hc)
        clear hc hx HR
        go_wp2_with (at_builtin
                     refine wpList_append_holds _ rfl (.tmp 31) (.tmp 35) _ rfl w.heap.size 5 i0 _ 1 1 Try.underlying47 hi0 hz0 hz1 hz2 rfl (by omega) _ done.length _ rfl (hown.alloc _) (wr.heap.size + 1) _ 1 1 [.int .u8 (s[i].toNat : Int)] rfl rfl (Holds.one _ _ _) (oneCell_bv (l := [s[i]])) (by simp only [maxLen]; omega) (by omega) (by simp; omega) ?_
                     intro v1 w4 hown4 hg4 hat4)
        have hb4 := Below.grown (hb.alloc hbs (.cells #[.int .u8 (s[i].toNat : Int)] 5)) hg4 (by simp; omega) (own_row_ge hown)
        exact ⟨⟨i + 1, done ++ [s[i]], by go_num, by omega, by simp; omega, HR2, by rw [bytesV_one, List.length_append]; exact hown4, hb4⟩, by simp [intOf]; omega⟩
    · obtain rfl : done = bareU s.data.toList := HR.out.finish (by simp; show s.size ≤ i; omega)
      obtain ⟨A1, c1, rfl, hc1, hc2, hh⟩ := own_form hown
      have hcv := run_bytes_text (P := Try.prog) wr 47 9 5 Try.underlying47 Try.underlying5 Try.underlying9 wr.heap.size A1 (bareU s.data.toList).length c1 (bareU s.data.toList) rfl hh
      go_wp2
      go_ret
      exact ⟨rfl, hb⟩
end Go.Proofs.Ytolgpnkofnibjaa
