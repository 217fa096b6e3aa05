/- Plain laws on UTF-8, WTF-8 and UTF-16: code points as numbers, texts as lists of bytes, units as lists of numbers. No program is in sight here but the model's own decoder of a text. -/
import GoSem.Core.Utf8
namespace Stamp

/-- the bytes of a code point, a surrogate too -/
def enc (p : Nat) : List UInt8 :=
  if p < 128 then [UInt8.ofNat p]
  else if p < 2048 then [UInt8.ofNat (192 + p / 64), UInt8.ofNat (128 + p % 64)]
  else if p < 65536 then [UInt8.ofNat (224 + p / 4096), UInt8.ofNat (128 + p / 64 % 64), UInt8.ofNat (128 + p % 64)]
  else [UInt8.ofNat (240 + p / 262144), UInt8.ofNat (128 + p / 4096 % 64), UInt8.ofNat (128 + p / 64 % 64), UInt8.ofNat (128 + p % 64)]

def encAll : List Nat → List UInt8
  | [] => []
  | p :: r => enc p ++ encAll r

def isC (b : UInt8) : Bool := decide (128 ≤ b.toNat) && decide (b.toNat ≤ 191)
def cv (b : UInt8) : Nat := b.toNat - 128

/-- the code point with which a text begins, and its length; none: it begins with none -/
def point : List UInt8 → Option (Nat × Nat)
  | [] => none
  | c :: t =>
    if c.toNat < 128 then some (c.toNat, 1)
    else if c.toNat < 194 then none
    else if c.toNat < 224 then
      match t with
      | b1 :: _ => if isC b1 then some ((c.toNat - 192) * 64 + cv b1, 2) else none
      | _ => none
    else if c.toNat < 240 then
      match t with
      | b1 :: b2 :: _ => if isC b1 && isC b2 && decide (2048 ≤ (c.toNat - 224) * 4096 + cv b1 * 64 + cv b2) then some ((c.toNat - 224) * 4096 + cv b1 * 64 + cv b2, 3) else none
      | _ => none
    else if c.toNat < 245 then
      match t with
      | b1 :: b2 :: b3 :: _ =>
        if isC b1 && isC b2 && isC b3 && decide (65536 ≤ (c.toNat - 240) * 262144 + cv b1 * 4096 + cv b2 * 64 + cv b3) && decide ((c.toNat - 240) * 262144 + cv b1 * 4096 + cv b2 * 64 + cv b3 ≤ 1114111) then
          some ((c.toNat - 240) * 262144 + cv b1 * 4096 + cv b2 * 64 + cv b3, 4) else none
      | _ => none
    else none

def isSur (p : Nat) : Bool := decide (55296 ≤ p) && decide (p < 57344)

theorem isC_iff (b : UInt8) : isC b = true ↔ 128 ≤ b.toNat ∧ b.toNat ≤ 191 := by simp [isC]

theorem ofNat_eq {n : Nat} {b : UInt8} (h : n = b.toNat) : UInt8.ofNat n = b := by subst h; simp

theorem toNat_ofNat_lt {n : Nat} (h : n < 256) : (UInt8.ofNat n).toNat = n := by
  simp [UInt8.toNat_ofNat']; omega

theorem point_one (c : UInt8) (t : List UInt8) (h : c.toNat < 128) : point (c :: t) = some (c.toNat, 1) := by
  unfold point
  exact if_pos h
theorem point_two (c b1 : UInt8) (t : List UInt8) (h1 : 194 ≤ c.toNat) (h2 : c.toNat < 224) (k1 : isC b1 = true) : point (c :: b1 :: t) = some ((c.toNat - 192) * 64 + cv b1, 2) := by
  unfold point
  dsimp only
  rw [if_neg (by omega), if_neg (by omega), if_pos h2, if_pos k1]
theorem point_three (c b1 b2 : UInt8) (t : List UInt8) (h1 : 224 ≤ c.toNat) (h2 : c.toNat < 240) (k1 : isC b1 = true) (k2 : isC b2 = true) (hv : 2048 ≤ (c.toNat - 224) * 4096 + cv b1 * 64 + cv b2) :
    point (c :: b1 :: b2 :: t) = some ((c.toNat - 224) * 4096 + cv b1 * 64 + cv b2, 3) := by
  unfold point
  dsimp only
  rw [if_neg (by omega), if_neg (by omega), if_neg (by omega), if_pos h2, if_pos (by rw [k1, k2, decide_eq_true hv]; rfl)]
theorem point_four (c b1 b2 b3 : UInt8) (t : List UInt8) (h1 : 240 ≤ c.toNat) (h2 : c.toNat < 245) (k1 : isC b1 = true) (k2 : isC b2 = true) (k3 : isC b3 = true)
    (hv : 65536 ≤ (c.toNat - 240) * 262144 + cv b1 * 4096 + cv b2 * 64 + cv b3) (hw : (c.toNat - 240) * 262144 + cv b1 * 4096 + cv b2 * 64 + cv b3 ≤ 1114111) :
    point (c :: b1 :: b2 :: b3 :: t) = some ((c.toNat - 240) * 262144 + cv b1 * 4096 + cv b2 * 64 + cv b3, 4) := by
  unfold point
  dsimp only
  rw [if_neg (by omega), if_neg (by omega), if_neg (by omega), if_neg (by omega), if_pos h2, if_pos (by rw [k1, k2, k3, decide_eq_true hv, decide_eq_true hw]; rfl)]

theorem point_enc (p : Nat) (hp : p ≤ 1114111) (t : List UInt8) : point (enc p ++ t) = some (p, (enc p).length) := by
  unfold enc
  by_cases h1 : p < 128
  · rw [if_pos h1]
    have e := toNat_ofNat_lt (n := p) (by omega)
    rw [List.cons_append, point_one _ _ (by rw [e]; exact h1), e]; rfl
  · rw [if_neg h1]
    by_cases h2 : p < 2048
    · rw [if_pos h2]
      have e0 := toNat_ofNat_lt (n := 192 + p / 64) (by omega)
      have e1 := toNat_ofNat_lt (n := 128 + p % 64) (by omega)
      have c1 : isC (UInt8.ofNat (128 + p % 64)) = true := by rw [isC_iff, e1]; omega
      rw [List.cons_append, List.cons_append, point_two _ _ _ (by rw [e0]; omega) (by rw [e0]; omega) c1]
      unfold cv
      rw [e0, e1, show (192 + p / 64 - 192) * 64 + (128 + p % 64 - 128) = p from by omega]; rfl
    · rw [if_neg h2]
      by_cases h3 : p < 65536
      · rw [if_pos h3]
        have e0 := toNat_ofNat_lt (n := 224 + p / 4096) (by omega)
        have e1 := toNat_ofNat_lt (n := 128 + p / 64 % 64) (by omega)
        have e2 := toNat_ofNat_lt (n := 128 + p % 64) (by omega)
        have c1 : isC (UInt8.ofNat (128 + p / 64 % 64)) = true := by rw [isC_iff, e1]; omega
        have c2 : isC (UInt8.ofNat (128 + p % 64)) = true := by rw [isC_iff, e2]; omega
        have hv : (224 + p / 4096 - 224) * 4096 + (128 + p / 64 % 64 - 128) * 64 + (128 + p % 64 - 128) = p := by omega
        rw [List.cons_append, List.cons_append, List.cons_append, point_three _ _ _ _ (by rw [e0]; omega) (by rw [e0]; omega) c1 c2 (by unfold cv; rw [e0, e1, e2, hv]; omega)]
        unfold cv
        rw [e0, e1, e2, hv]; rfl
      · rw [if_neg h3]
        have e0 := toNat_ofNat_lt (n := 240 + p / 262144) (by omega)
        have e1 := toNat_ofNat_lt (n := 128 + p / 4096 % 64) (by omega)
        have e2 := toNat_ofNat_lt (n := 128 + p / 64 % 64) (by omega)
        have e3 := toNat_ofNat_lt (n := 128 + p % 64) (by omega)
        have c1 : isC (UInt8.ofNat (128 + p / 4096 % 64)) = true := by rw [isC_iff, e1]; omega
        have c2 : isC (UInt8.ofNat (128 + p / 64 % 64)) = true := by rw [isC_iff, e2]; omega
        have c3 : isC (UInt8.ofNat (128 + p % 64)) = true := by rw [isC_iff, e3]; omega
        have hv : (240 + p / 262144 - 240) * 262144 + (128 + p / 4096 % 64 - 128) * 4096 + (128 + p / 64 % 64 - 128) * 64 + (128 + p % 64 - 128) = p := by omega
        rw [List.cons_append, List.cons_append, List.cons_append, List.cons_append,
          point_four _ _ _ _ _ (by rw [e0]; omega) (by rw [e0]; omega) c1 c2 c3 (by unfold cv; rw [e0, e1, e2, e3, hv]; omega) (by unfold cv; rw [e0, e1, e2, e3, hv]; omega)]
        unfold cv
        rw [e0, e1, e2, e3, hv]; rfl

theorem point_some (l : List UInt8) (p n : Nat) (h : point l = some (p, n)) : p ≤ 1114111 ∧ n = (enc p).length ∧ l = enc p ++ l.drop n := by
  cases l with
  | nil => simp [point] at h
  | cons c t =>
    have hc := c.toNat_lt
    unfold point at h
    dsimp only at h
    by_cases h1 : c.toNat < 128
    · rw [if_pos h1] at h
      simp only [Option.some.injEq, Prod.mk.injEq] at h
      obtain ⟨rfl, rfl⟩ := h
      refine ⟨by omega, ?_, ?_⟩ <;> simp [enc, h1]
    · rw [if_neg h1] at h
      by_cases h2 : c.toNat < 194
      · rw [if_pos h2] at h; cases h
      · rw [if_neg h2] at h
        by_cases h3 : c.toNat < 224
        · rw [if_pos h3] at h
          cases t with
          | nil => cases h
          | cons b1 t =>
            by_cases k1 : isC b1 = true
            · simp only [k1, if_true, Option.some.injEq, Prod.mk.injEq] at h
              obtain ⟨rfl, rfl⟩ := h
              rw [isC_iff] at k1
              have a0 : UInt8.ofNat (192 + ((c.toNat - 192) * 64 + cv b1) / 64) = c := ofNat_eq (by unfold cv; omega)
              have a1 : UInt8.ofNat (128 + ((c.toNat - 192) * 64 + cv b1) % 64) = b1 := ofNat_eq (by unfold cv; omega)
              have r1 : ¬ ((c.toNat - 192) * 64 + cv b1 < 128) := by unfold cv; omega
              have r2 : (c.toNat - 192) * 64 + cv b1 < 2048 := by unfold cv; omega
              refine ⟨by omega, ?_, ?_⟩ <;> simp only [enc, if_neg r1, if_pos r2, a0, a1] <;> simp
            · simp only [k1] at h; cases h
        · rw [if_neg h3] at h
          by_cases h4 : c.toNat < 240
          · rw [if_pos h4] at h
            match t, h with
            | b1 :: b2 :: t, h =>
              by_cases k : (isC b1 && isC b2 && decide (2048 ≤ (c.toNat - 224) * 4096 + cv b1 * 64 + cv b2)) = true
              · simp only [k, if_true, Option.some.injEq, Prod.mk.injEq] at h
                obtain ⟨hp, rfl⟩ := h
                simp only [Bool.and_eq_true, isC_iff, decide_eq_true_eq] at k
                obtain ⟨⟨k1, k2⟩, k3⟩ := k
                rw [hp] at k3
                have hp' : (c.toNat - 224) * 4096 + (b1.toNat - 128) * 64 + (b2.toNat - 128) = p := by unfold cv at hp; exact hp
                have a0 : UInt8.ofNat (224 + p / 4096) = c := ofNat_eq (by omega)
                have a1 : UInt8.ofNat (128 + p / 64 % 64) = b1 := ofNat_eq (by omega)
                have a2 : UInt8.ofNat (128 + p % 64) = b2 := ofNat_eq (by omega)
                have r1 : ¬ (p < 128) := by omega
                have r2 : ¬ (p < 2048) := by omega
                have r3 : p < 65536 := by omega
                refine ⟨by omega, ?_, ?_⟩ <;> simp only [enc, if_neg r1, if_neg r2, if_pos r3, a0, a1, a2] <;> simp
              · simp only [k] at h; cases h
          · rw [if_neg h4] at h
            by_cases h5 : c.toNat < 245
            · rw [if_pos h5] at h
              match t, h with
              | b1 :: b2 :: b3 :: t, h =>
                by_cases k : (isC b1 && isC b2 && isC b3 && decide (65536 ≤ (c.toNat - 240) * 262144 + cv b1 * 4096 + cv b2 * 64 + cv b3) && decide ((c.toNat - 240) * 262144 + cv b1 * 4096 + cv b2 * 64 + cv b3 ≤ 1114111)) = true
                · simp only [k, if_true, Option.some.injEq, Prod.mk.injEq] at h
                  obtain ⟨hp, rfl⟩ := h
                  simp only [Bool.and_eq_true, isC_iff, decide_eq_true_eq] at k
                  obtain ⟨⟨⟨⟨k1, k2⟩, k3⟩, k4⟩, k5⟩ := k
                  rw [hp] at k4 k5
                  have hp' : (c.toNat - 240) * 262144 + (b1.toNat - 128) * 4096 + (b2.toNat - 128) * 64 + (b3.toNat - 128) = p := by unfold cv at hp; exact hp
                  have a0 : UInt8.ofNat (240 + p / 262144) = c := ofNat_eq (by omega)
                  have a1 : UInt8.ofNat (128 + p / 4096 % 64) = b1 := ofNat_eq (by omega)
                  have a2 : UInt8.ofNat (128 + p / 64 % 64) = b2 := ofNat_eq (by omega)
                  have a3 : UInt8.ofNat (128 + p % 64) = b3 := ofNat_eq (by omega)
                  have r1 : ¬ (p < 128) := by omega
                  have r2 : ¬ (p < 2048) := by omega
                  have r3 : ¬ (p < 65536) := by omega
                  refine ⟨k5, ?_, ?_⟩ <;> simp only [enc, if_neg r1, if_neg r2, if_neg r3, a0, a1, a2, a3] <;> simp
                · simp only [k] at h; cases h
            · rw [if_neg h5] at h; cases h

theorem enc_len (p : Nat) : 1 ≤ (enc p).length ∧ (enc p).length ≤ 4 := by
  unfold enc
  split
  · simp
  · split
    · simp
    · split <;> simp

theorem enc_ne (p : Nat) : enc p ≠ [] := by
  have := (enc_len p).1
  intro h
  rw [h] at this
  simp at this

theorem enc_inj {p q : Nat} (hp : p ≤ 1114111) (hq : q ≤ 1114111) {t u : List UInt8} (h : enc p ++ t = enc q ++ u) : p = q ∧ t = u := by
  have h1 := point_enc p hp t
  have h2 := point_enc q hq u
  rw [h, h2] at h1
  simp only [Option.some.injEq, Prod.mk.injEq] at h1
  have e : q = p := h1.1
  subst e
  exact ⟨rfl, List.append_cancel_left h⟩

theorem encAll_append (a b : List Nat) : encAll (a ++ b) = encAll a ++ encAll b := by
  induction a with
  | nil => rfl
  | cons p r ih => simp [encAll, ih]

theorem encAll_inj : ∀ {a b : List Nat}, (∀ p ∈ a, p ≤ 1114111) → (∀ p ∈ b, p ≤ 1114111) → encAll a = encAll b → a = b
  | [], [], _, _, _ => rfl
  | [], q :: b, _, _, h => by
    simp only [encAll] at h
    have := (List.append_eq_nil_iff.1 h.symm).1
    exact absurd this (enc_ne q)
  | p :: a, [], _, _, h => by
    simp only [encAll] at h
    have := (List.append_eq_nil_iff.1 h).1
    exact absurd this (enc_ne p)
  | p :: a, q :: b, ha, hb, h => by
    simp only [encAll] at h
    obtain ⟨rfl, h2⟩ := enc_inj (ha p (by simp)) (hb q (by simp)) h
    rw [encAll_inj (fun x hx => ha x (by simp [hx])) (fun x hx => hb x (by simp [hx])) h2]

/-- the code points of a text; none: it is not in UTF-8. By a measure that is laid ahead. -/
def pointsF : Nat → List UInt8 → Option (List Nat)
  | 0, l => if l = [] then some [] else none
  | f + 1, l =>
    if l = [] then some []
    else match point l with
      | none => none
      | some (p, n) => if isSur p then none else (pointsF f (l.drop n)).map (p :: ·)
def points (l : List UInt8) : Option (List Nat) := pointsF l.length l

def Scalar (p : Nat) : Prop := p ≤ 1114111 ∧ isSur p = false

theorem pointsF_sound : ∀ (f : Nat) (l : List UInt8) (ps : List Nat), pointsF f l = some ps → l = encAll ps ∧ ∀ p ∈ ps, Scalar p := by
  intro f
  induction f with
  | zero =>
    intro l ps h
    unfold pointsF at h
    split at h
    · rename_i e
      injection h with h
      subst h
      exact ⟨e, by simp⟩
    · cases h
  | succ f ih =>
    intro l ps h
    unfold pointsF at h
    split at h
    · rename_i e
      injection h with h
      subst h
      exact ⟨e, by simp⟩
    · cases hp : point l with
      | none => simp [hp] at h
      | some x =>
        obtain ⟨p, n⟩ := x
        simp only [hp] at h
        split at h
        · cases h
        · rename_i hs
          cases hr : pointsF f (l.drop n) with
          | none => simp [hr] at h
          | some qs =>
            rw [hr] at h
            simp only [Option.map_some, Option.some.injEq] at h
            subst h
            obtain ⟨h1, h2⟩ := ih _ _ hr
            obtain ⟨k1, _, k3⟩ := point_some l p n hp
            refine ⟨?_, ?_⟩
            · rw [encAll, ← h1]; exact k3
            · intro q hq
              rcases List.mem_cons.1 hq with rfl | hq
              · exact ⟨k1, by simpa using hs⟩
              · exact h2 q hq

theorem pointsF_enc : ∀ (ps : List Nat) (f : Nat), (∀ p ∈ ps, Scalar p) → (encAll ps).length ≤ f → pointsF f (encAll ps) = some ps := by
  intro ps
  induction ps with
  | nil => intro f _ _; cases f <;> simp [pointsF, encAll]
  | cons p r ih =>
    intro f hs hf
    have hl := (enc_len p).1
    have hp := hs p (by simp)
    cases f with
    | zero => simp only [encAll, List.length_append] at hf; omega
    | succ f =>
      have hne : encAll (p :: r) ≠ [] := by
        intro e
        exact enc_ne p (List.append_eq_nil_iff.1 e).1
      unfold pointsF
      rw [if_neg hne]
      simp only [encAll]
      rw [point_enc p hp.1]
      simp only [hp.2]
      rw [List.drop_left, ih f (fun q hq => hs q (by simp [hq])) (by simp [encAll] at hf; omega)]
      rfl

theorem points_sound (l : List UInt8) (ps : List Nat) (h : points l = some ps) : l = encAll ps ∧ ∀ p ∈ ps, Scalar p := pointsF_sound _ _ _ h
theorem points_enc (ps : List Nat) (hs : ∀ p ∈ ps, Scalar p) : points (encAll ps) = some ps := pointsF_enc ps _ hs (Nat.le_refl _)

/-! ### units -/
def units1 (p : Nat) : List Nat := if p < 65536 then [p] else [55296 + (p - 65536) / 1024, 56320 + (p - 65536) % 1024]
def unitsOf : List Nat → List Nat
  | [] => []
  | p :: r => units1 p ++ unitsOf r

def isHi (c : Nat) : Bool := decide (55296 ≤ c) && decide (c < 56320)
def isLo (c : Nat) : Bool := decide (56320 ≤ c) && decide (c < 57344)
def pair (a b : Nat) : Nat := 65536 + (a - 55296) * 1024 + (b - 56320)

/-- the code points of units, whatever they are -/
def unitPts : List Nat → List Nat
  | [] => []
  | [a] => [a]
  | a :: b :: r => if isHi a && isLo b then pair a b :: unitPts r else a :: unitPts (b :: r)

/-- the first unit that is in no pair; none: all pairs are whole -/
def lone : List Nat → Option Nat
  | [] => none
  | [a] => if isSur a then some a else none
  | a :: b :: r => if isHi a && isLo b then lone r else if isSur a then some a else lone (b :: r)

theorem isHi_iff (c : Nat) : isHi c = true ↔ 55296 ≤ c ∧ c < 56320 := by simp [isHi]
theorem isLo_iff (c : Nat) : isLo c = true ↔ 56320 ≤ c ∧ c < 57344 := by simp [isLo]
theorem isSur_iff (c : Nat) : isSur c = true ↔ 55296 ≤ c ∧ c < 57344 := by simp [isSur]
theorem isSur_not (c : Nat) : isSur c = false ↔ c < 55296 ∨ 57344 ≤ c := by
  rw [← Bool.not_eq_true, isSur_iff]; omega

theorem unitPts_le : ∀ (u : List Nat), (∀ c ∈ u, c < 65536) → ∀ p ∈ unitPts u, p ≤ 1114111
  | [], _, p, hp => by simp [unitPts] at hp
  | [a], h, p, hp => by
    simp [unitPts] at hp
    have := h a (by simp)
    omega
  | a :: b :: r, h, p, hp => by
    unfold unitPts at hp
    split at hp
    · rename_i hab
      simp only [Bool.and_eq_true, isHi_iff, isLo_iff] at hab
      rcases List.mem_cons.1 hp with hp | hp
      · rw [hp]; unfold pair; omega
      · exact unitPts_le r (fun c hc => h c (by simp [hc])) p hp
    · rcases List.mem_cons.1 hp with rfl | hp
      · have := h p (by simp); omega
      · exact unitPts_le (b :: r) (fun c hc => h c (by simp [hc])) p hp

theorem lone_none_scalar : ∀ (u : List Nat), (∀ c ∈ u, c < 65536) → lone u = none → ∀ p ∈ unitPts u, Scalar p
  | [], _, _, p, hp => by simp [unitPts] at hp
  | [a], h, hl, p, hp => by
    simp [unitPts] at hp
    subst hp
    have := h p (by simp)
    refine ⟨by omega, ?_⟩
    unfold lone at hl
    cases hs : isSur p
    · rfl
    · rw [hs] at hl; simp at hl
  | a :: b :: r, h, hl, p, hp => by
    unfold unitPts at hp
    unfold lone at hl
    by_cases hab : (isHi a && isLo b) = true
    · rw [if_pos hab] at hp hl
      simp only [Bool.and_eq_true, isHi_iff, isLo_iff] at hab
      rcases List.mem_cons.1 hp with hp | hp
      · rw [hp]
        refine ⟨by unfold pair; omega, ?_⟩
        rw [isSur_not]; unfold pair; omega
      · exact lone_none_scalar r (fun c hc => h c (by simp [hc])) hl p hp
    · rw [if_neg hab] at hp hl
      by_cases hs : isSur a = true
      · rw [if_pos hs] at hl; cases hl
      · rw [if_neg hs] at hl
        rcases List.mem_cons.1 hp with rfl | hp
        · exact ⟨by have := h p (by simp); omega, by simpa using hs⟩
        · exact lone_none_scalar (b :: r) (fun c hc => h c (by simp [hc])) hl p hp

theorem unitsOf_unitPts : ∀ (u : List Nat), (∀ c ∈ u, c < 65536) → unitsOf (unitPts u) = u
  | [], _ => rfl
  | [a], h => by
    have := h a (by simp)
    simp [unitPts, unitsOf, units1, this]
  | a :: b :: r, h => by
    unfold unitPts
    split
    · rename_i hab
      simp only [Bool.and_eq_true, isHi_iff, isLo_iff] at hab
      have e : ¬ (pair a b < 65536) := by unfold pair; omega
      simp only [unitsOf, units1, if_neg e]
      rw [unitsOf_unitPts r (fun c hc => h c (by simp [hc]))]
      have e1 : 55296 + (pair a b - 65536) / 1024 = a := by unfold pair; omega
      have e2 : 56320 + (pair a b - 65536) % 1024 = b := by unfold pair; omega
      rw [e1, e2]; rfl
    · have := h a (by simp)
      simp only [unitsOf, units1, if_pos this]
      rw [unitsOf_unitPts (b :: r) (fun c hc => h c (by simp [hc]))]
      rfl

theorem unitPts_lo (a : Nat) (r : List Nat) (h : isHi a = false) : unitPts (a :: r) = a :: unitPts r := by
  cases r with
  | nil => rfl
  | cons b r => simp [unitPts, h]

theorem unitPts_unitsOf : ∀ (ps : List Nat), (∀ p ∈ ps, Scalar p) → unitPts (unitsOf ps) = ps
  | [], _ => rfl
  | p :: r, h => by
    obtain ⟨h1, h2⟩ := h p (by simp)
    rw [isSur_not] at h2
    have ih := unitPts_unitsOf r (fun q hq => h q (by simp [hq]))
    simp only [unitsOf, units1]
    split
    · rename_i hlt
      have hh : isHi p = false := by
        cases e : isHi p
        · rfl
        · rw [isHi_iff] at e; omega
      show unitPts (p :: unitsOf r) = _
      rw [unitPts_lo _ _ hh, ih]
    · rename_i hlt
      have e1 : isHi (55296 + (p - 65536) / 1024) = true := by rw [isHi_iff]; omega
      have e2 : isLo (56320 + (p - 65536) % 1024) = true := by rw [isLo_iff]; omega
      show unitPts (_ :: _ :: unitsOf r) = _
      unfold unitPts
      rw [if_pos (by rw [e1, e2]; rfl), ih]
      have e3 : pair (55296 + (p - 65536) / 1024) (56320 + (p - 65536) % 1024) = p := by unfold pair; omega
      rw [e3]

theorem unitsOf_lt : ∀ (ps : List Nat), (∀ p ∈ ps, p ≤ 1114111) → ∀ c ∈ unitsOf ps, c < 65536
  | [], _, c, hc => by simp [unitsOf] at hc
  | p :: r, h, c, hc => by
    simp only [unitsOf, List.mem_append] at hc
    rcases hc with hc | hc
    · have := h p (by simp)
      unfold units1 at hc
      split at hc
      · simp at hc; omega
      · simp at hc; omega
    · exact unitsOf_lt r (fun q hq => h q (by simp [hq])) c hc

theorem unitsOf_append (a b : List Nat) : unitsOf (a ++ b) = unitsOf a ++ unitsOf b := by
  induction a with
  | nil => rfl
  | cons p r ih => simp [unitsOf, ih]

theorem scalar_unitPts_lone (u : List Nat) : (∀ c ∈ u, c < 65536) → (∀ p ∈ unitPts u, Scalar p) → lone u = none := by
  intro h hs
  induction u using lone.induct with
  | case1 => rfl
  | case2 a hsur => have := (hs a (by simp [unitPts])).2; rw [hsur] at this; cases this
  | case3 a hsur => simp [lone, hsur]
  | case4 a b r hab ih =>
    rw [lone, if_pos hab]
    rw [unitPts, if_pos hab] at hs
    exact ih (fun c hc => h c (by simp [hc])) (fun p hp => hs p (by simp [hp]))
  | case5 a b r hab hsur =>
    rw [unitPts, if_neg hab] at hs
    have := (hs a (by simp)).2
    rw [hsur] at this; cases this
  | case6 a b r hab hsur ih =>
    rw [lone, if_neg hab, if_neg hsur]
    rw [unitPts, if_neg hab] at hs
    exact ih (fun c hc => h c (by simp [hc])) (fun p hp => hs p (by simp [hp]))

end Stamp
