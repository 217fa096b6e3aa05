/- Plain laws: what a quoted text stands for. -/
import Derived.Test.YtolgpnkofnibjaaQuP
namespace Stamp

def toU (l : List Nat) : List UInt8 := l.map UInt8.ofNat
theorem toU_append (a b : List Nat) : toU (a ++ b) = toU a ++ toU b := by simp [toU]
theorem toU_nums (l : List UInt8) : toU (nums l) = l := by
  unfold toU nums
  rw [List.map_map]
  exact (List.map_congr_left (fun a _ => by simp)).trans (List.map_id l)
theorem nums_toU {l : List Nat} (h : ∀ x ∈ l, x < 256) : nums (toU l) = l := by
  unfold toU nums
  rw [List.map_map]
  exact (List.map_congr_left (fun a ha => by simp only [Function.comp, id]; exact toNat_ofNat_lt (h a ha))).trans (List.map_id l)
theorem toU_len (l : List Nat) : (toU l).length = l.length := by simp [toU]

theorem hexD_bd {d : Nat} (h : d < 16) : 48 ≤ hexD d ∧ hexD d ≤ 70 ∧ hexD d ≠ 64 := by unfold hexD; split <;> omega
theorem hexD_inj {a b : Nat} (h : hexD a = hexD b) : a = b := by
  unfold hexD at h; split at h <;> split at h <;> omega
theorem hex4_bd {p : Nat} (h : p ≤ 65535) : ∀ x ∈ hex4 p, 48 ≤ x ∧ x ≤ 117 := by
  intro x hx
  have h1 := hexD_bd (show p / 4096 < 16 by omega)
  have h2 := hexD_bd (show p / 256 % 16 < 16 by omega)
  have h3 := hexD_bd (show p / 16 % 16 < 16 by omega)
  have h4 := hexD_bd (show p % 16 < 16 by omega)
  simp only [hex4, List.mem_cons, List.not_mem_nil, or_false] at hx
  omega

theorem cpB_some {p : Nat} {ascii : Bool} (h : cpB p ascii = true) : 32 ≤ p ∧ p ≠ 92 ∧ p ≠ 34 ∧ (ascii = true → p ≤ 126) := by
  unfold cpB at h
  by_cases hp : p ≤ 126
  · rw [if_pos hp] at h
    simp at h
    exact ⟨h.1.1, h.1.2, h.2, fun _ => hp⟩
  · rw [if_neg hp] at h
    simp at h
    refine ⟨by omega, by omega, by omega, fun ha => ?_⟩
    rw [ha] at h
    simp at h

theorem enc_small {p : Nat} (h : p < 128) : enc p = [UInt8.ofNat p] := by unfold enc; rw [if_pos h]
theorem enc_high {p : Nat} (h : ¬ p < 128) (hp : p ≤ 1114111) : ∀ x ∈ nums (enc p), 128 ≤ x ∧ x < 256 := by
  intro x hx
  obtain ⟨b, hb, rfl⟩ := List.mem_map.1 hx
  refine ⟨?_, b.toNat_lt⟩
  unfold enc at hb
  rw [if_neg h] at hb
  have e : ∀ n, 128 ≤ n → n < 256 → 128 ≤ (UInt8.ofNat n).toNat := fun n h1 h2 => by rw [toNat_ofNat_lt h2]; exact h1
  split at hb
  · simp only [List.mem_cons, List.not_mem_nil, or_false] at hb
    rcases hb with rfl | rfl <;> exact e _ (by omega) (by omega)
  · split at hb
    · simp only [List.mem_cons, List.not_mem_nil, or_false] at hb
      rcases hb with rfl | rfl | rfl <;> exact e _ (by omega) (by omega)
    · simp only [List.mem_cons, List.not_mem_nil, or_false] at hb
      rcases hb with rfl | rfl | rfl | rfl <;> exact e _ (by omega) (by omega)
theorem nums_small {p : Nat} (h : p < 128) : nums (enc p) = [p] := by
  rw [enc_small h]; simp only [nums, List.map_cons, List.map_nil]; rw [toNat_ofNat_lt (by omega)]
/-- the first byte of a code point that stands as it is -/
theorem nums_head {p : Nat} (hp : p ≤ 1114111) : ∃ x r, nums (enc p) = x :: r ∧ (x = p ∨ 128 ≤ x) ∧ x < 256 := by
  by_cases h : p < 128
  · exact ⟨p, [], nums_small h, .inl rfl, by omega⟩
  · match hn : nums (enc p) with
    | [] => have := (enc_len p).1; rw [← nums_len, hn] at this; simp at this
    | x :: r =>
      have := enc_high h hp x (by rw [hn]; simp)
      exact ⟨x, r, rfl, .inr this.1, this.2⟩

theorem esc_head {q p : Nat} : ∃ x r, esc q p = x :: r ∧ (x = 92 ∨ (x = 34 ∧ p = 34)) := by
  unfold esc
  repeat' split
  all_goals first | exact ⟨_, _, rfl, .inl rfl⟩ | exact ⟨_, _, rfl, .inr ⟨rfl, by assumption⟩⟩ | (simp [hex4])

set_option maxHeartbeats 4000000 in
theorem esc_inj {q p p' : Nat} (hp : Scalar p) (hp' : Scalar p') {X X' : List Nat} (h : esc q p ++ X = esc q p' ++ X') : p = p' ∧ X = X' := by
  obtain ⟨hp1, hp2⟩ := hp
  obtain ⟨hq1, hq2⟩ := hp'
  rw [isSur_not] at hp2 hq2
  unfold esc at h
  have hx : ∀ {a b : Nat} {Y Y' : List Nat}, a ≤ 65535 → b ≤ 65535 → hex4 a ++ Y = hex4 b ++ Y' → a = b ∧ Y = Y' := by
    intro a b Y Y' ha hb e
    simp only [hex4, List.cons_append, List.nil_append, List.cons.injEq, true_and] at e
    obtain ⟨e1, e2, e3, e4, e5⟩ := e
    have := hexD_inj e1; have := hexD_inj e2; have := hexD_inj e3; have := hexD_inj e4
    exact ⟨by omega, e5⟩
  have hne : ∀ {a c : Nat} {Y Y' : List Nat}, c ≠ 117 → hex4 a ++ Y = 92 :: c :: Y' → False := by
    intro a c Y Y' hc e
    simp only [hex4, List.cons_append, List.cons.injEq, true_and] at e
    exact hc e.1.symm
  have hne34 : ∀ {a : Nat} {Y Y' : List Nat}, hex4 a ++ Y = 34 :: Y' → False := by
    intro a Y Y' e
    simp [hex4] at e
  repeat' split at h
  all_goals first
    | (simp only [List.cons_append, List.nil_append, List.cons.injEq, true_and] at h; exact ⟨by omega, h⟩)
    | (simp only [List.cons_append, List.nil_append, List.cons.injEq, true_and] at h; omega)
    | (simp only [List.append_assoc, List.cons_append, List.nil_append] at h; exact (hne (by decide) h).elim)
    | (simp only [List.append_assoc, List.cons_append, List.nil_append] at h; exact (hne (by decide) h.symm).elim)
    | (simp only [List.append_assoc, List.cons_append, List.nil_append] at h; exact (hne34 h).elim)
    | (simp only [List.append_assoc, List.cons_append, List.nil_append] at h; exact (hne34 h.symm).elim)
    | exact hx (by omega) (by omega) h
    | (rw [List.append_assoc] at h; have := hx (by omega) (by omega) h; omega)
    | (rw [List.append_assoc, List.append_assoc] at h
       have h1 := hx (by omega) (by omega) h
       have h2 := hx (by omega) (by omega) h1.2
       exact ⟨by omega, h2.2⟩)

theorem q1_inj {ascii : Bool} {q p p' : Nat} (hp : Scalar p) (hp' : Scalar p') {X X' : List Nat} (h : q1 ascii q p ++ X = q1 ascii q p' ++ X') : p = p' ∧ X = X' := by
  unfold q1 at h
  by_cases c : cpB p ascii = true
  · rw [if_pos c] at h
    by_cases c' : cpB p' ascii = true
    · rw [if_pos c'] at h
      have e := congrArg toU h
      rw [toU_append, toU_append, toU_nums, toU_nums] at e
      obtain ⟨rfl, _⟩ := enc_inj hp.1 hp'.1 e
      exact ⟨rfl, List.append_cancel_left h⟩
    · rw [if_neg c'] at h
      obtain ⟨x, r, e1, hx, _⟩ := nums_head hp.1
      obtain ⟨y, t, e2, hy⟩ := esc_head (q := q) (p := p')
      rw [e1, e2] at h
      have hc := cpB_some c
      simp only [List.cons_append, List.cons.injEq] at h
      have := h.1
      omega
  · rw [if_neg c] at h
    by_cases c' : cpB p' ascii = true
    · rw [if_pos c'] at h
      obtain ⟨x, r, e1, hx, _⟩ := nums_head hp'.1
      obtain ⟨y, t, e2, hy⟩ := esc_head (q := q) (p := p)
      rw [e1, e2] at h
      have hc := cpB_some c'
      simp only [List.cons_append, List.cons.injEq] at h
      have := h.1
      omega
    · rw [if_neg c'] at h
      exact esc_inj hp hp' h
theorem q1_ne (ascii : Bool) (q : Nat) {p : Nat} : q1 ascii q p ≠ [] := by
  unfold q1
  split
  · intro h; have := (enc_len p).1; rw [← nums_len, h] at this; simp at this
  · intro h; have := (esc_len q p).1; rw [h] at this; simp at this
theorem qAll_inj {ascii : Bool} {q : Nat} : ∀ {a b : List Nat}, (∀ p ∈ a, Scalar p) → (∀ p ∈ b, Scalar p) → qAll ascii q a = qAll ascii q b → a = b
  | [], [], _, _, _ => rfl
  | [], p :: r, _, _, h => by
    simp only [qAll] at h
    exact absurd (List.append_eq_nil_iff.1 h.symm).1 (q1_ne ascii q)
  | p :: r, [], _, _, h => by
    simp only [qAll] at h
    exact absurd (List.append_eq_nil_iff.1 h).1 (q1_ne ascii q)
  | p :: r, p' :: r', ha, hb, h => by
    simp only [qAll] at h
    obtain ⟨rfl, e⟩ := q1_inj (ha p (by simp)) (hb p' (by simp)) h
    rw [qAll_inj (fun x hx => ha x (by simp [hx])) (fun x hx => hb x (by simp [hx])) e]
theorem quoted_inj {ascii : Bool} {q : Nat} {a b : List Nat} (ha : ∀ p ∈ a, Scalar p) (hb : ∀ p ∈ b, Scalar p) (h : quoted ascii q a = quoted ascii q b) : a = b := by
  unfold quoted at h
  simp only [List.cons.injEq, true_and] at h
  exact qAll_inj ha hb (List.append_cancel_right h)

/-- all of a quoted text are bytes; asked so, from 32 to 126 -/
theorem esc_bd {q p : Nat} (hp : p ≤ 1114111) : ∀ x ∈ esc q p, 32 ≤ x ∧ x ≤ 126 := by
  intro x hx
  have hh : ∀ {a : Nat}, a ≤ 65535 → ∀ x ∈ hex4 a, 32 ≤ x ∧ x ≤ 126 := fun ha x hx => by have := hex4_bd ha x hx; omega
  unfold esc at hx
  repeat' split at hx
  all_goals first
    | exact hh (by omega) x hx
    | (rcases List.mem_append.1 hx with hx | hx <;> exact hh (by omega) x hx)
    | (simp only [List.mem_cons, List.not_mem_nil, or_false] at hx; omega)
theorem q1_bd {ascii : Bool} {q p : Nat} (hp : p ≤ 1114111) : ∀ x ∈ q1 ascii q p, x < 256 ∧ (ascii = true → 32 ≤ x ∧ x ≤ 126) := by
  intro x hx
  unfold q1 at hx
  by_cases c : cpB p ascii = true
  · rw [if_pos c] at hx
    have hc := cpB_some c
    by_cases h : p < 128
    · rw [nums_small h, List.mem_singleton] at hx
      subst hx
      exact ⟨by omega, fun ha => ⟨hc.1, hc.2.2.2 ha⟩⟩
    · have := enc_high h hp x hx
      exact ⟨this.2, fun ha => by have := hc.2.2.2 ha; omega⟩
  · rw [if_neg c] at hx
    have := esc_bd hp x hx
    exact ⟨by omega, fun _ => this⟩
theorem qAll_bd {ascii : Bool} {q : Nat} {ps : List Nat} (hp : ∀ p ∈ ps, Scalar p) : ∀ x ∈ qAll ascii q ps, x < 256 ∧ (ascii = true → 32 ≤ x ∧ x ≤ 126) := by
  induction ps with
  | nil => intro x hx; simp [qAll] at hx
  | cons p r ih =>
    intro x hx
    simp only [qAll, List.mem_append] at hx
    rcases hx with hx | hx
    · exact q1_bd (hp p (by simp)).1 x hx
    · exact ih (fun y hy => hp y (by simp [hy])) x hx
theorem quoted_bd {ascii : Bool} {q : Nat} (hq : 32 ≤ q ∧ q ≤ 126) {ps : List Nat} (hp : ∀ p ∈ ps, Scalar p) : ∀ x ∈ quoted ascii q ps, x < 256 ∧ (ascii = true → 32 ≤ x ∧ x ≤ 126) := by
  intro x hx
  simp only [quoted, List.mem_cons, List.mem_append, List.not_mem_nil, or_false] at hx
  rcases hx with rfl | hx | rfl
  · exact ⟨by omega, fun _ => hq⟩
  · exact qAll_bd hp x hx
  · exact ⟨by omega, fun _ => hq⟩
theorem quoted_len (ascii : Bool) (q : Nat) (ps : List Nat) : (quoted ascii q ps).length = (qAll ascii q ps).length + 2 := by simp [quoted]

/-- texts of letters, digits and blanks stand as they are -/
def plainC (c : UInt8) : Bool := (decide (97 ≤ c.toNat) && decide (c.toNat ≤ 122)) || (decide (65 ≤ c.toNat) && decide (c.toNat ≤ 90)) || (decide (48 ≤ c.toNat) && decide (c.toNat ≤ 57)) || decide (c.toNat = 32)
def plainL (l : List UInt8) : Bool := l.all plainC
theorem plainC_bd {c : UInt8} (h : plainC c = true) : 32 ≤ c.toNat ∧ c.toNat ≤ 122 ∧ c.toNat ≠ 34 ∧ c.toNat ≠ 92 := by
  simp [plainC] at h
  omega
theorem plain_points {l : List UInt8} (h : plainL l = true) : l = encAll (nums l) ∧ ∀ p ∈ nums l, Scalar p := by
  induction l with
  | nil => exact ⟨rfl, by simp [nums]⟩
  | cons c l ih =>
    simp only [plainL, List.all_cons, Bool.and_eq_true] at h
    obtain ⟨h1, h2⟩ := ih h.2
    have hc := plainC_bd h.1
    refine ⟨?_, ?_⟩
    · show c :: l = enc c.toNat ++ encAll (nums l)
      rw [← h1, enc_small (by omega)]; simp
    · intro p hp
      simp only [nums, List.map_cons, List.mem_cons] at hp
      rcases hp with rfl | hp
      · exact ⟨by omega, by rw [isSur_not]; omega⟩
      · exact h2 p hp
theorem plain_quoted {l : List UInt8} (h : plainL l = true) (ascii : Bool) (q : Nat) : quoted ascii q (nums l) = q :: (nums l ++ [q]) := by
  unfold quoted
  rw [qAll_run ascii q (nums l) (fun p hp => ?_), ← (plain_points h).1]
  obtain ⟨c, hc, rfl⟩ := List.mem_map.1 hp
  have := plainC_bd (List.all_eq_true.1 h c hc)
  unfold cpB
  rw [if_pos (by omega)]
  simp; omega

/-- without the backslashes ahead of double quotes -/
def bareL : List Nat → List Nat
  | [] => []
  | c :: t => if c = 92 then (match t with | [] => [c] | d :: r => if d = 34 then d :: bareL r else c :: d :: bareL r) else c :: bareL t
theorem bare_cons {c : Nat} {t : List Nat} (h : c ≠ 92) : bareL (c :: t) = c :: bareL t := by cases t <;> simp [bareL, h]
theorem bare_plain {l X : List Nat} (h : ∀ x ∈ l, x ≠ 92) : bareL (l ++ X) = l ++ bareL X := by
  induction l with
  | nil => rfl
  | cons c l ih =>
    have hc : c ≠ 92 := h c (by simp)
    rw [List.cons_append, bare_cons hc, ih (fun x hx => h x (by simp [hx]))]; rfl
theorem bare_two {d : Nat} {X : List Nat} (h : d ≠ 34) : bareL (92 :: d :: X) = 92 :: d :: bareL X := by
  simp [bareL, h]
theorem bare_hex {p : Nat} (hp : p ≤ 65535) {X : List Nat} : bareL (hex4 p ++ X) = hex4 p ++ bareL X := by
  have h1 := hexD_bd (show p / 4096 < 16 by omega)
  have h2 := hexD_bd (show p / 256 % 16 < 16 by omega)
  have h3 := hexD_bd (show p / 16 % 16 < 16 by omega)
  have h4 := hexD_bd (show p % 16 < 16 by omega)
  show bareL (92 :: 117 :: ([hexD (p / 4096), hexD (p / 256 % 16), hexD (p / 16 % 16), hexD (p % 16)] ++ X)) = _
  rw [bare_two (by decide), bare_plain]
  · rfl
  · intro x hx
    simp only [List.mem_cons, List.not_mem_nil, or_false] at hx
    omega
theorem bare_q1 {ascii : Bool} {p : Nat} (hp : p ≤ 1114111) {X : List Nat} : bareL (q1 ascii 34 p ++ X) = q1 ascii 39 p ++ bareL X := by
  unfold q1
  by_cases c : cpB p ascii = true
  · rw [if_pos c, if_pos c, bare_plain]
    intro x hx
    obtain ⟨h1, h2, h3, _⟩ := cpB_some c
    by_cases h : p < 128
    · rw [nums_small h, List.mem_singleton] at hx; omega
    · have := enc_high h hp x hx; omega
  · rw [if_neg c, if_neg c]
    unfold esc
    repeat' split
    all_goals first
      | exact bare_two (by decide)
      | exact bare_hex (by omega)
      | (rw [List.append_assoc, bare_hex (by omega), bare_hex (by omega), List.append_assoc])
      | omega
      | (simp [bareL])
theorem bare_all {ascii : Bool} : ∀ {ps : List Nat}, (∀ p ∈ ps, Scalar p) → bareL (qAll ascii 34 ps) = qAll ascii 39 ps
  | [], _ => by simp [qAll, bareL]
  | p :: r, h => by
    simp only [qAll]
    rw [bare_q1 (h p (by simp)).1, bare_all (fun x hx => h x (by simp [hx]))]

/-! ### what a quoted text is made of -/
inductive Atm where
  | plain (p : Nat)
  | one (c u : Nat)
  | four (u : Nat)
def Atm.bytes : Atm → List Nat
  | .plain p => nums (enc p)
  | .one c _ => [92, c]
  | .four u => hex4 u
def Atm.units : Atm → List Nat
  | .plain p => units1 p
  | .one _ u => [u]
  | .four u => [u]
def oneB (c u : Nat) : Bool := (c == 98 && u == 8) || (c == 102 && u == 12) || (c == 110 && u == 10) || (c == 114 && u == 13) || (c == 116 && u == 9) || (c == 92 && u == 92) || (c == 34 && u == 34)
def Atm.ok (q : Nat) : Atm → Prop
  | .plain p => Scalar p ∧ 32 ≤ p ∧ p ≠ 92 ∧ p ≠ q
  | .one c u => oneB c u = true
  | .four u => u ≤ 65535
def atoms1 (ascii : Bool) (q p : Nat) : List Atm :=
  if cpB p ascii then [.plain p] else
  if p = 8 then [.one 98 8] else if p = 12 then [.one 102 12] else if p = 10 then [.one 110 10] else if p = 13 then [.one 114 13] else if p = 9 then [.one 116 9] else if p = 92 then [.one 92 92]
  else if p = 34 then (if q = 34 then [.one 34 34] else [.plain 34])
  else if p ≤ 65535 then [.four p]
  else [.four (55296 + (p - 65536) / 1024), .four (56320 + (p - 65536) % 1024)]
def atomsAll (ascii : Bool) (q : Nat) (ps : List Nat) : List Atm := (ps.map (atoms1 ascii q)).flatten
def bytesA (l : List Atm) : List Nat := (l.map Atm.bytes).flatten
def unitsA (l : List Atm) : List Nat := (l.map Atm.units).flatten
theorem bytesA_append (a b : List Atm) : bytesA (a ++ b) = bytesA a ++ bytesA b := by simp [bytesA]
theorem unitsA_append (a b : List Atm) : unitsA (a ++ b) = unitsA a ++ unitsA b := by simp [unitsA]
theorem atoms1_bytes (ascii : Bool) (q p : Nat) : bytesA (atoms1 ascii q p) = q1 ascii q p := by
  unfold atoms1 q1 esc
  repeat' split
  all_goals simp [bytesA, Atm.bytes]
  rw [nums_small (by decide)]
theorem atoms1_units {ascii : Bool} {q p : Nat} : unitsA (atoms1 ascii q p) = units1 p := by
  unfold atoms1
  repeat' split
  all_goals simp [unitsA, Atm.units]
  all_goals first | (subst_vars; rfl) | (unfold units1; split <;> first | rfl | omega)
theorem atoms1_ok {ascii : Bool} {q p : Nat} (hp : Scalar p) (hq : q = 34 ∨ (q = 39 ∧ p ≠ 39)) : ∀ a ∈ atoms1 ascii q p, a.ok q := by
  intro a ha
  unfold atoms1 at ha
  have hp1 := hp.1
  repeat' split at ha
  all_goals simp only [List.mem_cons, List.not_mem_nil, or_false] at ha
  all_goals first
    | (subst ha; rename_i hc; have h := cpB_some hc; exact ⟨hp, h.1, h.2.1, by rcases hq with rfl | ⟨rfl, h9⟩; exact h.2.2.1; exact h9⟩)
    | (subst ha; rfl)
    | (subst ha; exact ⟨⟨by decide, by decide⟩, by decide, by decide, by omega⟩)
    | (subst ha; show _ ≤ 65535; omega)
    | (rcases ha with rfl | rfl <;> (show _ ≤ 65535; omega))
theorem atomsAll_cons (ascii : Bool) (q p : Nat) (r : List Nat) : atomsAll ascii q (p :: r) = atoms1 ascii q p ++ atomsAll ascii q r := by simp [atomsAll]
theorem atoms_bytes (ascii : Bool) (q : Nat) : ∀ ps, bytesA (atomsAll ascii q ps) = qAll ascii q ps
  | [] => rfl
  | p :: r => by rw [atomsAll_cons, bytesA_append, atoms1_bytes, atoms_bytes ascii q r]; rfl
theorem atoms_units (ascii : Bool) (q : Nat) : ∀ ps, unitsA (atomsAll ascii q ps) = unitsOf ps
  | [] => rfl
  | p :: r => by rw [atomsAll_cons, unitsA_append, atoms1_units, atoms_units ascii q r]; rfl
theorem atoms_ok {ascii : Bool} {q : Nat} {ps : List Nat} (hp : ∀ p ∈ ps, Scalar p) (hq : q = 34 ∨ (q = 39 ∧ 39 ∉ ps)) : ∀ a ∈ atomsAll ascii q ps, a.ok q := by
  induction ps with
  | nil => intro a ha; cases ha
  | cons p r ih =>
    intro a ha
    rw [atomsAll_cons, List.mem_append] at ha
    rcases ha with ha | ha
    · refine atoms1_ok (hp p (by simp)) ?_ a ha
      rcases hq with h | ⟨h, h9⟩
      · exact .inl h
      · exact .inr ⟨h, fun e => h9 (by rw [e]; simp)⟩
    · refine ih (fun x hx => hp x (by simp [hx])) ?_ a ha
      rcases hq with h | ⟨h, h9⟩
      · exact .inl h
      · exact .inr ⟨h, fun e => h9 (by simp [e])⟩
theorem mem_enc39 {ps : List Nat} (hp : ∀ p ∈ ps, Scalar p) (h : (39 : UInt8) ∉ encAll ps) : 39 ∉ ps := by
  intro hm
  apply h
  induction ps with
  | nil => cases hm
  | cons p r ih =>
    rcases List.mem_cons.1 hm with rfl | hm
    · simp [encAll, enc]
    · have := ih (fun x hx => hp x (by simp [hx])) (fun hn => h (by simp [encAll, hn])) hm
      simp [encAll, this]
end Stamp
