/- Plain laws: patterns. -/
import Derived.Test.YtbpghbkaaiembaaMem
namespace Stamp

/-- a pattern out of its parts: a text without stars and a run of stars each, and what is left -/
def flat : List (List UInt8 × Nat) → List UInt8 → List UInt8
  | [], t => t
  | x :: D, t => x.1 ++ (List.replicate x.2 42 ++ flat D t)
/-- the parts are those of their pattern -/
def okParts (D : List (List UInt8 × Nat)) (t : List UInt8) : Prop :=
  (∀ x ∈ D, 42 ∉ x.1 ∧ 1 ≤ x.2) ∧ 42 ∉ t ∧ ∀ x ∈ D.drop 1, x.1 ≠ []
def slash (c : UInt8) : Bool := c == 47 || c == 92
def edgeE (l : List UInt8) : Bool := match l.getLast? with | none => true | some c => slash c
def edgeS (l : List UInt8) : Bool := match l.head? with | none => true | some c => slash c
def kindOf (p : List UInt8) (c : Nat) (rest : List UInt8) : Nat := if 1 < c ∧ edgeE p = true ∧ edgeS rest = true then 2 else 1
def partsOf : List (List UInt8 × Nat) → List UInt8 → List (List UInt8 × Nat)
  | [], t => [(t, 0)]
  | x :: D, t => (x.1, kindOf x.1 x.2 (flat D t)) :: partsOf D t
def runsOf : Nat → List (List UInt8 × Nat) → List (Nat × Nat)
  | _, [] => []
  | a, x :: D => (a + x.1.length, x.2) :: runsOf (a + x.1.length + x.2) D
/-- what is written of parts -/
def written : List (List UInt8 × Nat) → List UInt8
  | [] => []
  | x :: D => x.1 ++ (List.replicate x.2 42 ++ written D)
def thin : List (List UInt8 × Nat) → List UInt8 → List (List UInt8 × Nat)
  | [], _ => []
  | x :: D, t => (x.1, kindOf x.1 x.2 (flat D t)) :: thin D t

theorem kindOf_bd (p : List UInt8) (c : Nat) (r : List UInt8) : 1 ≤ kindOf p c r ∧ kindOf p c r ≤ 2 := by unfold kindOf; split <;> omega
theorem okParts.tail {x : List UInt8 × Nat} {D : List (List UInt8 × Nat)} {t : List UInt8} (h : okParts (x :: D) t) : okParts D t :=
  ⟨fun y hy => h.1 y (by simp [hy]), h.2.1, fun y hy => h.2.2 y (by simpa using List.mem_of_mem_drop hy)⟩
theorem edgeS_append {a b : List UInt8} (h : a ≠ []) : edgeS (a ++ b) = edgeS a := by
  match a, h with
  | c :: a, _ => rfl

theorem split_star (l : List UInt8) (h : 42 ∈ l) : ∃ p r, l = p ++ 42 :: r ∧ 42 ∉ p := by
  induction l with
  | nil => cases h
  | cons c l ih =>
    by_cases hc : c = 42
    · exact ⟨[], l, by rw [hc]; rfl, by simp⟩
    · have : 42 ∈ l := by
        rcases List.mem_cons.1 h with h | h
        · exact absurd h.symm hc
        · exact h
      obtain ⟨p, r, e, hp⟩ := ih this
      exact ⟨c :: p, r, by rw [e]; rfl, by intro hm; rcases List.mem_cons.1 hm with hm | hm; exact hc hm.symm; exact hp hm⟩
theorem run_star (l : List UInt8) : ∃ n r, l = List.replicate n 42 ++ r ∧ r.head? ≠ some 42 := by
  induction l with
  | nil => exact ⟨0, [], rfl, by simp⟩
  | cons c l ih =>
    by_cases hc : c = 42
    · obtain ⟨n, r, e, hr⟩ := ih
      exact ⟨n + 1, r, by rw [e, hc, List.replicate_succ]; rfl, hr⟩
    · exact ⟨0, c :: l, rfl, by simpa using hc⟩
theorem parts_some (n : Nat) : ∀ l : List UInt8, l.length ≤ n → ∃ D t, l = flat D t ∧ (∀ x ∈ D, 42 ∉ x.1 ∧ 1 ≤ x.2) ∧ 42 ∉ t ∧ (∀ x ∈ D.drop 1, x.1 ≠ []) ∧ (l.head? ≠ some 42 → ∀ x ∈ D, x.1 ≠ []) := by
  induction n with
  | zero =>
    intro l h
    have : l = [] := List.eq_nil_of_length_eq_zero (by omega)
    subst this
    exact ⟨[], [], rfl, by simp, by simp, by simp, by simp⟩
  | succ n ih =>
    intro l h
    by_cases hs : 42 ∈ l
    · obtain ⟨p, r, e, hp⟩ := split_star l hs
      obtain ⟨m, q, e2, hq⟩ := run_star r
      have hlen : q.length ≤ n := by
        have h1 := congrArg List.length e
        have h2 := congrArg List.length e2
        simp at h1 h2
        omega
      obtain ⟨D, t, e3, h1, h2, h3, h4⟩ := ih q hlen
      refine ⟨(p, m + 1) :: D, t, ?_, ?_, h2, ?_, ?_⟩
      · rw [e, e2, e3]; simp [flat, List.replicate_succ]
      · intro x hx
        rcases List.mem_cons.1 hx with rfl | hx
        · exact ⟨hp, by simp⟩
        · exact h1 x hx
      · intro x hx; exact h4 hq x (by simpa using hx)
      · intro hh x hx
        rcases List.mem_cons.1 hx with rfl | hx
        · rintro rfl
          exact hh (by rw [e]; rfl)
        · exact h4 hq x hx
    · exact ⟨[], l, rfl, by simp, hs, by simp, by simp⟩
theorem parts_ex (l : List UInt8) : ∃ D t, l = flat D t ∧ okParts D t := by
  obtain ⟨D, t, h1, h2, h3, h4, _⟩ := parts_some l.length l (Nat.le_refl _)
  exact ⟨D, t, h1, h2, h3, h4⟩

theorem flat_thin (D : List (List UInt8 × Nat)) (t : List UInt8) : written (partsOf D t) = flat (thin D t) t := by
  induction D with
  | nil => simp [partsOf, written, thin, flat]
  | cons x D ih => simp [partsOf, written, thin, flat, ih]
theorem thin_mem {D : List (List UInt8 × Nat)} {t : List UInt8} {y : List UInt8 × Nat} (h : y ∈ thin D t) : ∃ x ∈ D, y.1 = x.1 ∧ 1 ≤ y.2 := by
  induction D with
  | nil => cases h
  | cons x D ih =>
    rcases List.mem_cons.1 h with rfl | h
    · exact ⟨x, by simp, rfl, (kindOf_bd _ _ _).1⟩
    · obtain ⟨x', h1, h2⟩ := ih h
      exact ⟨x', by simp [h1], h2⟩
theorem ok_thin {D : List (List UInt8 × Nat)} {t : List UInt8} (h : okParts D t) : okParts (thin D t) t := by
  refine ⟨fun y hy => ?_, h.2.1, fun y hy => ?_⟩
  · obtain ⟨x, hx, e, h2⟩ := thin_mem hy
    rw [e]; exact ⟨(h.1 x hx).1, h2⟩
  · match D, h, hy with
    | [], _, hy => simp [thin] at hy
    | z :: D, h, hy =>
      simp only [thin, List.drop_succ_cons, List.drop_zero] at hy
      obtain ⟨x, hx, e, _⟩ := thin_mem hy
      rw [e]; exact h.2.2 x (by simpa using hx)
theorem edge_thin {D : List (List UInt8 × Nat)} {t : List UInt8} (h : ∀ x ∈ D, x.1 ≠ []) : edgeS (flat (thin D t) t) = edgeS (flat D t) := by
  match D, h with
  | [], _ => rfl
  | x :: D, h => simp only [thin, flat]; rw [edgeS_append (h x (by simp)), edgeS_append (h x (by simp))]
theorem parts_thin {D : List (List UInt8 × Nat)} {t : List UInt8} (h : okParts D t) : partsOf (thin D t) t = partsOf D t := by
  induction D with
  | nil => rfl
  | cons x D ih =>
    have he := edge_thin (t := t) (D := D) (fun y hy => h.2.2 y (by simpa using hy))
    simp only [thin, partsOf]
    rw [ih h.tail]
    congr 1
    have hk : kindOf x.1 (kindOf x.1 x.2 (flat D t)) (flat (thin D t) t) = kindOf x.1 x.2 (flat D t) := by
      by_cases hc : 1 < x.2 ∧ edgeE x.1 = true ∧ edgeS (flat D t) = true
      · have e2 : kindOf x.1 x.2 (flat D t) = 2 := by unfold kindOf; rw [if_pos hc]
        rw [e2]; unfold kindOf; rw [if_pos ⟨by omega, hc.2.1, by rw [he]; exact hc.2.2⟩]
      · have e2 : kindOf x.1 x.2 (flat D t) = 1 := by unfold kindOf; rw [if_neg hc]
        rw [e2]; unfold kindOf; rw [if_neg (by omega)]
    rw [hk]
theorem thin_same {D : List (List UInt8 × Nat)} {t : List UInt8} (h : ∀ i x, D[i]? = some x → x.2 = kindOf x.1 x.2 (flat (D.drop (i + 1)) t)) : thin D t = D := by
  induction D with
  | nil => rfl
  | cons x D ih =>
    simp only [thin]
    rw [ih (fun i y hy => h (i + 1) y (by simpa using hy))]
    have h0 := h 0 x rfl
    simp only [Nat.zero_add, List.drop_succ_cons, List.drop_zero] at h0
    rw [← h0]

theorem partsOf_len (D : List (List UInt8 × Nat)) (t : List UInt8) : (partsOf D t).length = D.length + 1 := by
  induction D with
  | nil => rfl
  | cons x D ih => simp [partsOf, ih]
theorem runsOf_len (a : Nat) (D : List (List UInt8 × Nat)) : (runsOf a D).length = D.length := by
  induction D generalizing a with
  | nil => rfl
  | cons x D ih => simp [runsOf, ih]
theorem parts_kind (D : List (List UInt8 × Nat)) (t : List UInt8) (i : Nat) (x : List UInt8 × Nat) (h : (partsOf D t)[i]? = some x) : (x.2 ≠ 0 ↔ i + 1 < (partsOf D t).length) ∧ x.2 ≤ 2 := by
  induction D generalizing i with
  | nil =>
    match i, h with
    | 0, h => simp [partsOf] at h; subst h; simp [partsOf]
    | i + 1, h => simp [partsOf] at h
  | cons y D ih =>
    match i, h with
    | 0, h =>
      simp [partsOf] at h
      subst h
      have := kindOf_bd y.1 y.2 (flat D t)
      have := partsOf_len D t
      simp only [partsOf, List.length_cons]
      constructor
      · constructor <;> intro _ <;> omega
      · omega
    | i + 1, h =>
      simp [partsOf] at h
      have := ih i h
      simp only [partsOf, List.length_cons]
      omega
theorem parts_free {D : List (List UInt8 × Nat)} {t : List UInt8} (h : okParts D t) : ∀ x ∈ partsOf D t, 42 ∉ x.1 := by
  induction D with
  | nil => intro x hx; simp [partsOf] at hx; subst hx; exact h.2.1
  | cons y D ih =>
    intro x hx
    simp only [partsOf, List.mem_cons] at hx
    rcases hx with rfl | hx
    · exact (h.1 y (by simp)).1
    · exact ih h.tail x hx
def starless (l : List UInt8) : List UInt8 := l.filter (fun c => c != 42)
theorem starless_self {l : List UInt8} (h : 42 ∉ l) : starless l = l := by
  unfold starless
  rw [List.filter_eq_self]
  intro a ha
  have : a ≠ 42 := by rintro rfl; exact h ha
  simpa using this
theorem starless_append (a b : List UInt8) : starless (a ++ b) = starless a ++ starless b := List.filter_append ..
theorem starless_stars (n : Nat) : starless (List.replicate n 42) = [] := by
  unfold starless
  rw [List.filter_eq_nil_iff]
  intro a ha
  rw [(List.mem_replicate.1 ha).2]; decide
def heads (l : List (List UInt8 × Nat)) : List UInt8 := (l.map (·.1)).flatten
theorem heads_parts {D : List (List UInt8 × Nat)} {t : List UInt8} (h : okParts D t) : heads (partsOf D t) = starless (flat D t) := by
  induction D with
  | nil => simp [partsOf, heads, flat, starless_self h.2.1]
  | cons x D ih =>
    simp only [partsOf, flat, starless_append, starless_stars, starless_self (h.1 x (by simp)).1, List.nil_append]
    rw [← ih h.tail]; rfl
theorem heads_snoc (l : List (List UInt8 × Nat)) (x : List UInt8 × Nat) : heads (l ++ [x]) = heads l ++ x.1 := by simp [heads]
theorem written_append (a b : List (List UInt8 × Nat)) : written (a ++ b) = written a ++ written b := by
  induction a with
  | nil => rfl
  | cons x a ih => simp [written, ih]
theorem written_len (l : List (List UInt8 × Nat)) (h : ∀ x ∈ l, x.2 ≤ 2) : (written l).length ≤ (heads l).length + 2 * l.length := by
  induction l with
  | nil => simp [written]
  | cons x l ih =>
    have h1 := ih (fun y hy => h y (by simp [hy]))
    have h2 := h x (by simp)
    have e : (heads (x :: l)).length = x.1.length + (heads l).length := by simp [heads]
    simp only [written, List.length_append, List.length_replicate, List.length_cons]
    omega
end Stamp
