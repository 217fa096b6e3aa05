/- Plain laws: what a loop over the bytes that go on gathers of a code point. -/
import Derived.Test.YtmepooboopncmaaDoorUtf
namespace Stamp

def okC (l : List UInt8) (k : Nat) : Prop := ∀ i, 1 ≤ i → i < k → ∃ b, l[i]? = some b ∧ isC b = true
def pv (c0 : Nat) (l : List UInt8) : Nat → Nat
  | 0 => c0
  | 1 => c0
  | k + 2 => pv c0 l (k + 1) * 64 + cv (l.getD (k + 1) 0)

theorem okC_one (l : List UInt8) : okC l 1 := fun i h1 h2 => by omega
theorem okC_succ {l : List UInt8} {k : Nat} {b : UInt8} (h : okC l k) (hb : l[k]? = some b) (hc : isC b = true) : okC l (k + 1) := fun i h1 h2 => by
  rcases Nat.lt_or_ge i k with hi | hi
  · exact h i h1 hi
  · have : i = k := by omega
    subst this
    exact ⟨b, hb, hc⟩
theorem pv_succ {c0 : Nat} {l : List UInt8} {k : Nat} {b : UInt8} (hk : 1 ≤ k) (hb : l[k]? = some b) : pv c0 l (k + 1) = pv c0 l k * 64 + (b.toNat - 128) := by
  obtain ⟨j, rfl⟩ : ∃ j, k = j + 1 := ⟨k - 1, by omega⟩
  show pv c0 l (j + 1) * 64 + cv (l.getD (j + 1) 0) = _
  rw [List.getD_eq_getElem?_getD, hb]
  rfl
theorem pv_le {c0 : Nat} {l : List UInt8} (h0 : c0 ≤ 31) : ∀ k, 1 ≤ k → k ≤ 4 → okC l k → pv c0 l k ≤ 8388607 ∧ (k = 1 → pv c0 l k ≤ 31) ∧ (k = 2 → pv c0 l k ≤ 2047) ∧ (k = 3 → pv c0 l k ≤ 131071) := by
  intro k h1 h4 hok
  have cb : ∀ i, 1 ≤ i → i < k → cv (l.getD i 0) ≤ 63 := fun i a b => by
    obtain ⟨u, hu, hc⟩ := hok i a b
    rw [List.getD_eq_getElem?_getD, hu]
    rw [isC_iff] at hc
    show u.toNat - 128 ≤ 63
    omega
  match k, h1, h4, cb with
  | 1, _, _, _ => exact ⟨by show c0 ≤ _; omega, fun _ => h0, by omega, by omega⟩
  | 2, _, _, cb =>
    have := cb 1 (by omega) (by omega)
    have e : pv c0 l 2 = c0 * 64 + cv (l.getD 1 0) := rfl
    omega
  | 3, _, _, cb =>
    have := cb 1 (by omega) (by omega)
    have := cb 2 (by omega) (by omega)
    have e : pv c0 l 3 = (c0 * 64 + cv (l.getD 1 0)) * 64 + cv (l.getD 2 0) := rfl
    omega
  | 4, _, _, cb =>
    have := cb 1 (by omega) (by omega)
    have := cb 2 (by omega) (by omega)
    have := cb 3 (by omega) (by omega)
    have e : pv c0 l 4 = ((c0 * 64 + cv (l.getD 1 0)) * 64 + cv (l.getD 2 0)) * 64 + cv (l.getD 3 0) := rfl
    omega

/-- how long the form is that a first byte begins: 0: none -/
def longOf (c : Nat) : Nat := if c < 128 then 1 else if c < 194 then 0 else if c < 224 then 2 else if c < 240 then 3 else if c < 245 then 4 else 0

theorem point_stop {c : UInt8} {t : List UInt8} {k : Nat} (h1 : 1 ≤ k) (hk : k < longOf c.toNat) (hb : ∀ b, (c :: t)[k]? = some b → isC b = false) : point (c :: t) = none := by
  unfold longOf at hk
  have e : ∀ (x : Option (Nat × Nat)) (y : Bool), y = false → (if y = true then x else none) = none := fun x y hy => by subst hy; rfl
  unfold point
  dsimp only
  by_cases a1 : c.toNat < 128
  · rw [if_pos a1] at hk; omega
  · rw [if_neg a1] at hk ⊢
    by_cases a2 : c.toNat < 194
    · rw [if_pos a2] at hk; omega
    · rw [if_neg a2] at hk ⊢
      by_cases a3 : c.toNat < 224
      · rw [if_pos a3] at hk ⊢
        have : k = 1 := by omega
        subst this
        match t, hb with
        | [], _ => rfl
        | b1 :: t, hb => exact e _ _ (hb b1 rfl)
      · rw [if_neg a3] at hk ⊢
        by_cases a4 : c.toNat < 240
        · rw [if_pos a4] at hk ⊢
          match t, hb with
          | [], _ => rfl
          | [b1], _ => rfl
          | b1 :: b2 :: t, hb =>
            refine e _ _ ?_
            rcases (show k = 1 ∨ k = 2 by omega) with rfl | rfl
            · rw [hb b1 rfl]; rfl
            · rw [hb b2 rfl]; simp
        · rw [if_neg a4] at hk ⊢
          by_cases a5 : c.toNat < 245
          · rw [if_pos a5] at hk ⊢
            match t, hb with
            | [], _ => rfl
            | [b1], _ => rfl
            | [b1, b2], _ => rfl
            | b1 :: b2 :: b3 :: t, hb =>
              refine e _ _ ?_
              rcases (show k = 1 ∨ k = 2 ∨ k = 3 by omega) with rfl | rfl | rfl
              · rw [hb b1 rfl]; rfl
              · rw [hb b2 rfl]; simp
              · rw [hb b3 rfl]; simp
          · rw [if_neg a5] at hk; omega

theorem point_zero {c : UInt8} {t : List UInt8} (h : longOf c.toNat = 0) : point (c :: t) = none := by
  unfold longOf at h
  unfold point
  dsimp only
  by_cases a1 : c.toNat < 128
  · rw [if_pos a1] at h; omega
  · rw [if_neg a1] at h ⊢
    by_cases a2 : c.toNat < 194
    · rw [if_pos a2]
    · rw [if_neg a2] at h ⊢
      by_cases a3 : c.toNat < 224
      · rw [if_pos a3] at h; omega
      · rw [if_neg a3] at h ⊢
        by_cases a4 : c.toNat < 240
        · rw [if_pos a4] at h; omega
        · rw [if_neg a4] at h ⊢
          by_cases a5 : c.toNat < 245
          · rw [if_pos a5] at h; omega
          · rw [if_neg a5]

theorem two_of {c : UInt8} {t : List UInt8} (h : okC (c :: t) 2) : ∃ b1 r, t = b1 :: r ∧ isC b1 = true := by
  obtain ⟨b1, h1, c1⟩ := h 1 (by omega) (by omega)
  match t, h1 with
  | x :: r, h1 => exact ⟨x, r, rfl, by injection h1 with h1; rw [h1]; exact c1⟩
theorem three_of {c : UInt8} {t : List UInt8} (h : okC (c :: t) 3) : ∃ b1 b2 r, t = b1 :: b2 :: r ∧ isC b1 = true ∧ isC b2 = true := by
  obtain ⟨b1, h1, c1⟩ := h 1 (by omega) (by omega)
  obtain ⟨b2, h2, c2⟩ := h 2 (by omega) (by omega)
  match t, h1, h2 with
  | x :: y :: r, h1, h2 => exact ⟨x, y, r, rfl, by injection h1 with h1; rw [h1]; exact c1, by injection h2 with h2; rw [h2]; exact c2⟩
theorem four_of {c : UInt8} {t : List UInt8} (h : okC (c :: t) 4) : ∃ b1 b2 b3 r, t = b1 :: b2 :: b3 :: r ∧ isC b1 = true ∧ isC b2 = true ∧ isC b3 = true := by
  obtain ⟨b1, h1, c1⟩ := h 1 (by omega) (by omega)
  obtain ⟨b2, h2, c2⟩ := h 2 (by omega) (by omega)
  obtain ⟨b3, h3, c3⟩ := h 3 (by omega) (by omega)
  match t, h1, h2, h3 with
  | x :: y :: z :: r, h1, h2, h3 => exact ⟨x, y, z, r, rfl, by injection h1 with h1; rw [h1]; exact c1, by injection h2 with h2; rw [h2]; exact c2, by injection h3 with h3; rw [h3]; exact c3⟩

theorem point_done2 {c : UInt8} {t : List UInt8} (h1 : 194 ≤ c.toNat) (h2 : c.toNat < 224) (h : okC (c :: t) 2) : point (c :: t) = some (pv (c.toNat - 192) (c :: t) 2, 2) := by
  obtain ⟨b1, r, rfl, c1⟩ := two_of h
  exact point_two _ _ _ h1 h2 c1
theorem point_done3 {c : UInt8} {t : List UInt8} (h1 : 224 ≤ c.toNat) (h2 : c.toNat < 240) (h : okC (c :: t) 3) (hv : 2048 ≤ pv (c.toNat - 224) (c :: t) 3) : point (c :: t) = some (pv (c.toNat - 224) (c :: t) 3, 3) := by
  obtain ⟨b1, b2, r, rfl, c1, c2⟩ := three_of h
  have e : pv (c.toNat - 224) (c :: b1 :: b2 :: r) 3 = (c.toNat - 224) * 4096 + cv b1 * 64 + cv b2 := by
    show ((c.toNat - 224) * 64 + cv b1) * 64 + cv b2 = _
    omega
  rw [e] at hv ⊢
  exact point_three _ _ _ _ h1 h2 c1 c2 hv
theorem point_low3 {c : UInt8} {t : List UInt8} (h1 : 224 ≤ c.toNat) (h2 : c.toNat < 240) (h : okC (c :: t) 3) (hv : pv (c.toNat - 224) (c :: t) 3 < 2048) : point (c :: t) = none := by
  obtain ⟨b1, b2, r, rfl, c1, c2⟩ := three_of h
  have e : pv (c.toNat - 224) (c :: b1 :: b2 :: r) 3 = (c.toNat - 224) * 4096 + cv b1 * 64 + cv b2 := by
    show ((c.toNat - 224) * 64 + cv b1) * 64 + cv b2 = _
    omega
  rw [e] at hv
  unfold point
  dsimp only
  rw [if_neg (by omega), if_neg (by omega), if_neg (by omega), if_pos h2, if_neg (by rw [decide_eq_false (by omega)]; simp)]
theorem point_done4 {c : UInt8} {t : List UInt8} (h1 : 240 ≤ c.toNat) (h2 : c.toNat < 245) (h : okC (c :: t) 4) (hv : 65536 ≤ pv (c.toNat - 240) (c :: t) 4) (hw : pv (c.toNat - 240) (c :: t) 4 ≤ 1114111) :
    point (c :: t) = some (pv (c.toNat - 240) (c :: t) 4, 4) := by
  obtain ⟨b1, b2, b3, r, rfl, c1, c2, c3⟩ := four_of h
  have e : pv (c.toNat - 240) (c :: b1 :: b2 :: b3 :: r) 4 = (c.toNat - 240) * 262144 + cv b1 * 4096 + cv b2 * 64 + cv b3 := by
    show (((c.toNat - 240) * 64 + cv b1) * 64 + cv b2) * 64 + cv b3 = _
    omega
  rw [e] at hv hw ⊢
  exact point_four _ _ _ _ _ h1 h2 c1 c2 c3 hv hw
theorem point_low4 {c : UInt8} {t : List UInt8} (h1 : 240 ≤ c.toNat) (h2 : c.toNat < 245) (h : okC (c :: t) 4) (hv : pv (c.toNat - 240) (c :: t) 4 < 65536 ∨ 1114111 < pv (c.toNat - 240) (c :: t) 4) : point (c :: t) = none := by
  obtain ⟨b1, b2, b3, r, rfl, c1, c2, c3⟩ := four_of h
  have e : pv (c.toNat - 240) (c :: b1 :: b2 :: b3 :: r) 4 = (c.toNat - 240) * 262144 + cv b1 * 4096 + cv b2 * 64 + cv b3 := by
    show (((c.toNat - 240) * 64 + cv b1) * 64 + cv b2) * 64 + cv b3 = _
    omega
  rw [e] at hv
  unfold point
  dsimp only
  rw [if_neg (by omega), if_neg (by omega), if_neg (by omega), if_neg (by omega), if_pos h2]
  refine if_neg fun h => ?_
  rw [Bool.and_eq_true, decide_eq_true_iff, Bool.and_eq_true, decide_eq_true_iff] at h
  omega

/-! ### a text that is read code point by code point -/
theorem encAll_prefix : ∀ (done ps : List Nat) (rest : List UInt8), (∀ p ∈ done, Scalar p) → (∀ p ∈ ps, Scalar p) → encAll done ++ rest = encAll ps → ∃ qs, ps = done ++ qs ∧ rest = encAll qs
  | [], ps, rest, _, _, h => ⟨ps, rfl, h⟩
  | p :: d, [], rest, _, _, h => by
    simp only [encAll, List.append_assoc] at h
    exact absurd (List.append_eq_nil_iff.1 h).1 (enc_ne p)
  | p :: d, q :: ps, rest, hd, hp, h => by
    simp only [encAll, List.append_assoc] at h
    obtain ⟨rfl, h2⟩ := enc_inj (hd p (by simp)).1 (hp q (by simp)).1 h
    obtain ⟨qs, rfl, hr⟩ := encAll_prefix d ps rest (fun x hx => hd x (by simp [hx])) (fun x hx => hp x (by simp [hx])) h2
    exact ⟨qs, rfl, hr⟩

theorem points_some_iff (l : List UInt8) (ps : List Nat) : points l = some ps ↔ l = encAll ps ∧ ∀ p ∈ ps, Scalar p :=
  ⟨points_sound l ps, fun ⟨h, hs⟩ => by rw [h]; exact points_enc ps hs⟩

theorem points_fail {l rest : List UInt8} {done : List Nat} (hl : l = encAll done ++ rest) (hd : ∀ p ∈ done, Scalar p) (hr : rest ≠ []) (hb : ∀ p n, point rest = some (p, n) → isSur p = true) : points l = none := by
  cases h : points l with
  | none => rfl
  | some ps =>
    obtain ⟨h1, h2⟩ := points_sound l ps h
    rw [hl] at h1
    obtain ⟨qs, rfl, hq⟩ := encAll_prefix done ps rest hd h2 h1
    match qs, hq with
    | [], hq => exact absurd hq hr
    | q :: qs, hq =>
      have hs := h2 q (by simp)
      have hp : point rest = some (q, (enc q).length) := by rw [hq, encAll]; exact point_enc q hs.1 _
      have := hb _ _ hp
      rw [hs.2] at this
      cases this
theorem points_done {l : List UInt8} {done : List Nat} (hl : l = encAll done ++ []) (hd : ∀ p ∈ done, Scalar p) : points l = some done := by
  rw [hl, List.append_nil]; exact points_enc done hd
theorem points_more {l rest : List UInt8} {done : List Nat} {p n : Nat} (hl : l = encAll done ++ rest) (hp : point rest = some (p, n)) : l = encAll (done ++ [p]) ++ rest.drop n := by
  obtain ⟨_, _, h3⟩ := point_some rest p n hp
  rw [encAll_append, List.append_assoc]
  show l = encAll done ++ ((enc p ++ []) ++ rest.drop n)
  rw [List.append_nil, ← h3]; exact hl
theorem scalar_more {done : List Nat} {rest : List UInt8} {p n : Nat} (hd : ∀ p ∈ done, Scalar p) (hp : point rest = some (p, n)) (hs : isSur p = false) : ∀ q ∈ done ++ [p], Scalar q := by
  intro q hq
  rcases List.mem_append.1 hq with h | h
  · exact hd q h
  · rw [List.mem_singleton.1 h]
    exact ⟨(point_some rest p n hp).1, hs⟩

end Stamp
