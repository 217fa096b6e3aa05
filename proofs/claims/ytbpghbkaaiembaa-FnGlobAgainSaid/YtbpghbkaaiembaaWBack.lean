/- The walk of 'laws.FnGlobBack'. -/
import Derived.Test.YtbpghbkaaiembaaGlD
import Derived.Deep.RegionHeld3
import Derived.BigRegion
namespace Go.Proofs.Ytbpghbkaaiembaa
open Go.RowKit Stamp
set_option linter.unusedVariables false

theorem flat_split (D : List (List UInt8 × Nat)) (t : List UInt8) (i : Nat) (x : List UInt8 × Nat) (a : Nat) (h : D[i]? = some x) :
    ∃ pre : List UInt8, flat D t = pre ++ (x.1 ++ (List.replicate x.2 42 ++ flat (D.drop (i + 1)) t)) ∧ (i = 0 → pre = []) ∧ (runsOf a D)[i]? = some (a + pre.length + x.1.length, x.2) := by
  induction D generalizing i a with
  | nil => cases h
  | cons y D ih =>
    match i, h with
    | 0, h =>
      simp at h; subst h
      exact ⟨[], rfl, fun _ => rfl, rfl⟩
    | i + 1, h =>
      obtain ⟨pre, h1, _, h3⟩ := ih i (a + y.1.length + y.2) (by simpa using h)
      refine ⟨y.1 ++ (List.replicate y.2 42 ++ pre), ?_, fun h => by omega, ?_⟩
      · simp only [flat, List.drop_succ_cons]
        rw [h1]; simp
      · simp only [runsOf, List.getElem?_cons_succ]
        rw [h3]; simp; omega
theorem starsRun {s : ByteArray} {D : List (List UInt8 × Nat)} {t : List UInt8} (hl : s.data.toList = flat D t) (hD : okParts D t) {i : Nat} {x : List UInt8 × Nat} (h : D[i]? = some x) :
    ∃ pre : List UInt8, RunIn s pre x.1 x.2 (flat (D.drop (i + 1)) t) ∧ (runsOf 0 D)[i]? = some (pre.length + x.1.length, x.2) := by
  obtain ⟨pre, h1, h2, h3⟩ := flat_split D t i x 0 h
  refine ⟨pre, ⟨by rw [hl, h1], fun hp => ?_, (hD.1 x (List.mem_of_getElem? h)).2⟩, by rw [h3, Nat.zero_add]⟩
  match i, h with
  | 0, h => exact h2 rfl
  | i + 1, h => exact absurd hp (hD.2.2 x (List.mem_of_getElem? (by rw [List.getElem?_drop, Nat.add_comm]; exact h)))
/-- the two cells of a run in a row of runs -/
theorem Holds.rn {w : World} {B : Nat} {A : Option Addr} {l : List (Nat × Nat)} (h : Holds w B A (runCells l)) {i : Nat} {x : Nat × Nat} (hx : l[i]? = some x) :
    ∃ b off, A = some ⟨b, off, none⟩ ∧ b < B ∧ w.cell? ⟨b, off + i * 2, none⟩ = some (.int .i64 (x.1 : Int)) ∧ w.cell? ⟨b, off + (i * 2 + 1), none⟩ = some (.int .i64 (x.2 : Int)) := by
  have hl : ∀ (l : List (Nat × Nat)) (i : Nat) (x : Nat × Nat), l[i]? = some x → (runCells l)[i * 2]? = some (.int .i64 (x.1 : Int)) ∧ (runCells l)[i * 2 + 1]? = some (.int .i64 (x.2 : Int)) := by
    intro l
    induction l with
    | nil => intro i x h; cases h
    | cons y l ih =>
      intro i x h
      match i, h with
      | 0, h => simp at h; subst h; exact ⟨rfl, rfl⟩
      | i + 1, h =>
        have := ih i x (by simpa using h)
        rw [show (i + 1) * 2 = i * 2 + 2 by omega, show i * 2 + 2 + 1 = i * 2 + 1 + 2 by omega]
        exact this
  obtain ⟨h1, h2⟩ := hl l i x hx
  obtain ⟨b, off, e, hb, hc⟩ := h (by
    rcases Nat.eq_zero_or_pos (runCells l).length with h0 | h0
    · rw [List.eq_nil_of_length_eq_zero h0] at h1; cases h1
    · exact h0)
  exact ⟨b, off, e, hb, hc _ _ h1, hc _ _ h2⟩

/-- what is written of the parts of a text -/
def back (D : List (List UInt8 × Nat)) (t : List UInt8) : List UInt8 := flat (thin D t) t
theorem thin_le (D : List (List UInt8 × Nat)) (t : List UInt8) (h : ∀ x ∈ D, 1 ≤ x.2) : (back D t).length ≤ (flat D t).length := by
  unfold back
  suffices hh : ∀ t', (flat (thin D t) t').length ≤ (flat D t').length from hh t
  induction D with
  | nil => intro t'; simp [thin]
  | cons x D ih =>
    intro t'
    have h1 := ih (fun y hy => h y (by simp [hy])) t'
    have h2 := h x (by simp)
    have h3 : kindOf x.1 x.2 (flat D t) ≤ x.2 := by
      unfold kindOf; split
      · omega
      · exact h2
    simp only [thin, flat, List.length_append, List.length_replicate]
    omega

set_option maxRecDepth 100000 in
set_option maxHeartbeats 2000000 in
theorem Back_walk (s : ByteArray) (hm : s.size ≤ 9223372036854775807) (w : World) : Calls Try.prog 6 #[.string s] w fun e w' => e = .returned (.bool true) ∧ Below w.heap.size w w' := by
  by_cases hs : 2147483647 < s.size
  · have h1 : (2147483647 : Int) < (s.size : Int) := by omega
    go_enter Try.func6, Try.ntmps6
    go_wp2
    go_ret
    exact ⟨rfl, Below.refl _ _⟩
  · have h1 : ¬ (2147483647 : Int) < (s.size : Int) := by omega
    have hs1 : s.size ≤ 2147483647 := by omega
    obtain ⟨D, t, hl, hD⟩ := parts_ex s.data.toList
    have HG := Lib.hid (fun w => Glob_calls s hs1 D t hl hD w)
    have HU := Lib.hid (fun w => Runs_calls s hs1 D t hl hD w)
    have HG0 := Lib.hid (fun w => Glob_calls (⟨#[97, 42, 98]⟩ : ByteArray) (by decide) [([97], 1)] [98] rfl ⟨by simp, by simp, by simp⟩ w)
    have hpl := (partsOf_size D t).2 (fun x hx => (hD.1 x hx).2)
    have hbk := thin_le D t (fun x hx => (hD.1 x hx).2)
    have hsl : s.data.toList.length = s.size := by simp
    rw [← hl, hsl] at hpl hbk
    have HP := Lib.hid (parts_kind D t)
    have hDl : D.length + 1 = (partsOf D t).length := by rw [partsOf_len]
    have HN := Lib.hid (⟨hl, hD⟩ : s.data.toList = flat D t ∧ okParts D t)
    have hrl := runsOf_len 0 D
    have hD31 : D.length ≤ 4294967296 := by omega
    have hP31 : (partsOf D t).length ≤ 4294967296 := by omega
    rw [hrl] at HU
    clear hl hD hsl hs hDl hrl hpl
    go_enter Try.func6, Try.ntmps6
    go_wp2_with fail
    refine (HG0.out _).mono ?_
    rintro e w1 ⟨A, c, rfl, hc1, hc2, hh, hb⟩
    have hbs := hb.size
    go_wp2_with fail
    refine (GlobText_calls A c _ w1 hh (by intro x hx; simp [partsOf, flat, kindOf] at hx; rcases hx with rfl | rfl <;> simp) (by decide) (by decide)).mono ?_
    rintro e w2 ⟨rfl, hb2⟩
    rw [show bs (Stamp.written (partsOf [([97], 1)] [98])) = ⟨#[97, 42, 98]⟩ from rfl]
    have hb3 := hb.trans (hb2.mono hbs)
    have hb3s := hb3.size
    clear hh hb hb2 HG0 hc1 hc2 hbs
    go_wp2_with fail
    refine (HU.out _).mono ?_
    rintro e w3 ⟨A2, c2, rfl, hd1, hd2, hh2, hb4⟩
    have hb4s := hb4.size
    clear HU hd1 hd2
    go_wp2
    go_loopw [14] (fun i wr => ∃ k : Nat, k ≤ D.length ∧ i = .int .i64 k ∧ Hid (∀ j x, j < k → D[j]? = some x → x.2 = kindOf x.1 x.2 (flat (D.drop (j + 1)) t)) ∧ Below w3.heap.size w3 wr) (fun i _ => D.length - (intOf i).toNat)
    case atStart => exact ⟨0, Nat.zero_le _, rfl, Lib.hid (fun j x h => by omega), Below.refl _ _⟩
    case round =>
      obtain ⟨k, hk, rfl, hall, hb5⟩ := hrel
      have hb5s := hb5.size
      by_cases hlt : k < D.length
      · have hlt' : (k : Int) < (D.length : Int) := by omega
        obtain ⟨⟨p, c⟩, hx⟩ : ∃ x, D[k]? = some x := ⟨_, List.getElem?_eq_getElem hlt⟩
        obtain ⟨pre, hri, hrx⟩ := starsRun HN.out.1 HN.out.2 hx
        obtain ⟨b, off, rfl, hbl, g1, g2⟩ := Holds.rn hh2 hrx
        have hz := hri.size
        have hw4 := fun w => Wild_calls hri (by unfold maxLen; omega) w
        obtain ⟨a, ha⟩ : ∃ a, a = pre.length + p.length := ⟨_, rfl⟩
        simp only at g1 g2 hw4 hz
        rw [← ha] at g1 hw4 hz
        have f1 : wr.cell? ⟨b, off + k * 2, none⟩ = some (.int .i64 (a : Int)) := (hb5.cell (p := ⟨b, off + k * 2, none⟩) hbl).trans g1
        have f2 : wr.cell? ⟨b, off + k * 2 + 1, none⟩ = some (.int .i64 (c : Int)) := (hb5.cell (p := ⟨b, off + (k * 2 + 1), none⟩) hbl).trans g2
        have HX := Lib.hid hx
        have HW4 := Lib.hid hw4
        have hac : a + c ≤ s.size := by omega
        have hkb := kindOf_bd p c (flat (D.drop (k + 1)) t)
        obtain ⟨kk, HKK⟩ : ∃ kk, Hid (kk = kindOf p c (flat (D.drop (k + 1)) t)) := ⟨_, Lib.hid rfl⟩
        rw [← HKK.out] at HW4 hkb
        clear hx hri hrx g1 g2 ha hz hw4
        go_wp2
        go_region_held3 (fun w' => w'.cell? ⟨wr.heap.size, 0, none⟩ = some (.int .i64 (a : Int)) ∧ w'.cell? ⟨wr.heap.size, 1, none⟩ = some (.int .i64 (c : Int))) (first | go_keep | (refine ⟨(hb6.cell (p := ⟨wr.heap.size, 0, none⟩) (by simp)).trans (by simp), (hb6.cell (p := ⟨wr.heap.size, 1, none⟩) (by simp)).trans (by simp)⟩))
          (first | (go_at_call 9; refine (HW4.out _).mono ?_; rintro e w6 ⟨rfl, hb6⟩))
        have hb7 : Below w3.heap.size w3 w6 := (((hb5.alloc hb5s (.cells #[.int .i64 (a : Int), .int .i64 (c : Int)] 27)).drew).trans (hb6.mono (by simp; omega)))
        have hb7s := hb7.size
        by_cases hck : c = kk
        · have ht : ((c : Int) != (kk : Int)) = false := by simp; omega
          have HA := Lib.hid (show ∀ j x, j < k + 1 → D[j]? = some x → x.2 = kindOf x.1 x.2 (flat (D.drop (j + 1)) t) by
            intro j x hj hjx
            rcases Nat.lt_or_ge j k with h | h
            · exact hall.out j x h hjx
            · obtain rfl : j = k := by omega
              rw [HX.out] at hjx
              injection hjx with hjx
              subst hjx
              exact hck.trans HKK.out)
          clear hck
          go_wp2
          go_roundw
          case rel => exact ⟨k + 1, by omega, by go_num, HA, hb7⟩
          case measure => simp [intOf]; omega
        · have ht : ((c : Int) != (kk : Int)) = true := by simp; omega
          clear hck
          go_wp2
          go_ret
          exact ⟨rfl, hb3.trans ((hb4.trans (hb7.mono hb4s)).mono hb3s)⟩
      · obtain rfl : k = D.length := by omega
        have HE := Lib.hid (show bs (Stamp.written (partsOf D t)) = s by
          rw [flat_thin, thin_same (fun i x hx => hall.out i x (by
            rcases Nat.lt_or_ge i D.length with h | h
            · exact h
            · rw [List.getElem?_eq_none h] at hx; cases hx) hx), ← HN.out.1, bs_data])
        go_wp2_with fail
        refine (HG.out _).mono ?_
        rintro e w6 ⟨A6, c6, rfl, hd1, hd2, hh6, hb6⟩
        have hb6s := hb6.size
        have hb7 : Below w3.heap.size w3 w6 := hb5.trans (hb6.mono hb5s)
        have hb7s := hb7.size
        go_wp2_with fail
        refine (GlobText_calls A6 c6 _ w6 hh6 (fun x hx => by obtain ⟨i, hi⟩ := List.getElem?_of_mem hx; exact (HP.out i x hi).2) hP31 (by rw [flat_thin]; have := hbk; unfold back at this; omega)).mono ?_
        rintro e w7 ⟨rfl, hb8⟩
        rw [HE.out]
        go_wp2
        go_ret
        exact ⟨rfl, hb3.trans ((hb4.trans ((hb7.trans (hb8.mono hb7s)).mono hb4s)).mono hb3s)⟩
end Go.Proofs.Ytbpghbkaaiembaa
