/- Plain laws: what is inside of node_modules; where a tag is escaped. No program is in sight here. -/
import Derived.WalkKit
namespace Stamp
open Go

/-! ### node_modules -/
def isSl (c : UInt8) : Bool := decide (c.toNat = 47) || decide (c.toNat = 92)
def nodeM : List UInt8 := [110, 111, 100, 101, 95, 109, 111, 100, 117, 108, 101, 115]
/-- first: nothing stands behind a slash yet; cur: what stands behind the last one -/
def modF : Bool → List UInt8 → List UInt8 → Bool
  | first, cur, [] => !first && decide (cur = nodeM)
  | first, cur, c :: t => if isSl c then (!first && decide (cur = nodeM)) || modF false [] t else modF first (cur ++ [c]) t
theorem modF_nil (first : Bool) (cur : List UInt8) : modF first cur [] = (!first && decide (cur = nodeM)) := rfl
theorem modF_sl {c : UInt8} (h : isSl c = true) (first : Bool) (cur t : List UInt8) : modF first cur (c :: t) = ((!first && decide (cur = nodeM)) || modF false [] t) := by
  rw [modF, if_pos h]
theorem modF_no {c : UInt8} (h : isSl c = false) (first : Bool) (cur t : List UInt8) : modF first cur (c :: t) = modF first (cur ++ [c]) t := by
  rw [modF, if_neg (by rw [h]; decide)]
theorem modF_free (first : Bool) : ∀ (base cur : List UInt8), (∀ c ∈ base, isSl c = false) → modF first cur base = (!first && decide (cur ++ base = nodeM))
  | [], cur, _ => by rw [modF_nil, List.append_nil]
  | c :: base, cur, h => by
    rw [modF_no (h c (.head _)), modF_free first base (cur ++ [c]) (fun x hx => h x (.tail _ hx))]
    simp
theorem modF_back {c : UInt8} (hc : isSl c = true) (base : List UInt8) (hb : ∀ c ∈ base, isSl c = false) : ∀ (a : List UInt8) (first : Bool) (cur : List UInt8), modF first cur (a ++ c :: base) = (modF first cur a || decide (base = nodeM))
  | [], first, cur => by
    rw [List.nil_append, modF_sl hc, modF_free false base [] hb, modF_nil]; rfl
  | x :: a, first, cur => by
    rw [List.cons_append]
    cases hx : isSl x with
    | true => rw [modF_sl hx, modF_sl hx, modF_back hc base hb a, Bool.or_assoc]
    | false => rw [modF_no hx, modF_no hx, modF_back hc base hb a]
/-- where the last slash stands -/
def LastSl (l : List UInt8) (r : Int) : Prop := (r = -1 ∧ ∀ c ∈ l, isSl c = false) ∨ ∃ k : Nat, r = (k : Int) ∧ ∃ c base, l.drop k = c :: base ∧ k < l.length ∧ isSl c = true ∧ ∀ c ∈ base, isSl c = false

/-! ### tags -/
def low (c : UInt8) : UInt8 := if 65 ≤ c.toNat ∧ c.toNat ≤ 90 then UInt8.ofNat (c.toNat + 32) else c
def lowL (l : List UInt8) : List UInt8 := l.map low
def pre (x l : List UInt8) : Bool := decide (l.take x.length = x)
/-- a tag follows -/
def tagAt (tag : List UInt8) (c : UInt8) (t : List UInt8) : Bool := decide (c = 60) && pre tag (lowL t)
def tagged (tag : List UInt8) : List UInt8 → List UInt8
  | [] => []
  | c :: t => c :: (if tagAt tag c t then 92 :: tagged tag t else tagged tag t)
theorem tagged_yes {tag : List UInt8} {c : UInt8} {t : List UInt8} (h : tagAt tag c t = true) : tagged tag (c :: t) = c :: 92 :: tagged tag t := by rw [tagged, if_pos h]
theorem tagged_no {tag : List UInt8} {c : UInt8} {t : List UInt8} (h : tagAt tag c t = false) : tagged tag (c :: t) = c :: tagged tag t := by rw [tagged, if_neg (by rw [h]; decide)]
theorem tagged_len (tag : List UInt8) : ∀ l : List UInt8, l.length ≤ (tagged tag l).length ∧ (tagged tag l).length ≤ 2 * l.length
  | [] => by simp [tagged]
  | c :: t => by
    have ih := tagged_len tag t
    cases h : tagAt tag c t with
    | true => rw [tagged_yes h]; simp; omega
    | false => rw [tagged_no h]; simp; omega
theorem pre_nil (l : List UInt8) : pre [] l = true := by simp [pre]
theorem pre_cons (x c : UInt8) (xs l : List UInt8) : pre (x :: xs) (c :: l) = (decide (c = x) && pre xs l) := by
  unfold pre
  rw [List.length_cons, List.take_succ_cons]
  by_cases h : c = x
  · subst h; simp
  · simp [h]
theorem pre_none (x : UInt8) (xs : List UInt8) : pre (x :: xs) [] = false := by simp [pre]
theorem low_60 {c : UInt8} (h : low c ≠ 60) : c ≠ 60 := by
  rintro rfl
  exact h (by decide)
/-- no occurrence at all -/
def Clean (tag : List UInt8) : List UInt8 → Prop
  | [] => True
  | c :: t => tagAt tag c t = false ∧ Clean tag t
theorem tagged_clean (tag : List UInt8) : ∀ l : List UInt8, Clean tag l → tagged tag l = l
  | [], _ => rfl
  | c :: t, h => by rw [tagged_no h.1, tagged_clean tag t h.2]
theorem pre_tagged (tag0 : List UInt8) : ∀ (tag t : List UInt8), (∀ x ∈ tag, x ≠ 60 ∧ x ≠ 92) → pre tag (lowL (tagged tag0 t)) = true → pre tag (lowL t) = true
  | [], t, _, _ => pre_nil _
  | x :: xs, [], h, hp => by
    have : pre (x :: xs) [] = true := hp
    rw [pre_none] at this; cases this
  | x :: xs, c :: t, h, hp => by
    obtain ⟨h60, h92⟩ := h x (.head _)
    have hl : lowL (c :: t) = low c :: lowL t := rfl
    cases hc : tagAt tag0 c t with
    | true =>
      rw [tagged_yes hc] at hp
      have hl2 : lowL (c :: 92 :: tagged tag0 t) = low c :: lowL (92 :: tagged tag0 t) := rfl
      rw [hl2, pre_cons] at hp
      simp [tagAt] at hc
      simp at hp
      obtain ⟨e1, _⟩ := hp
      rw [hc.1] at e1
      exact absurd e1.symm (by intro e; exact h60 (e.trans (by decide)))
    | false =>
      rw [tagged_no hc] at hp
      have hl2 : lowL (c :: tagged tag0 t) = low c :: lowL (tagged tag0 t) := rfl
      rw [hl2, pre_cons] at hp
      rw [hl, pre_cons]
      simp at hp ⊢
      exact ⟨hp.1, pre_tagged tag0 xs t (fun y hy => h y (.tail _ hy)) hp.2⟩
theorem clean_tagged (tag : List UInt8) (h : ∀ x ∈ tag, x ≠ 60 ∧ x ≠ 92) (h1 : tag ≠ []) : ∀ l : List UInt8, Clean tag (tagged tag l)
  | [] => trivial
  | c :: t => by
    have ih := clean_tagged tag h h1 t
    obtain ⟨x, xs, rfl⟩ := List.exists_cons_of_ne_nil h1
    cases hc : tagAt (x :: xs) c t with
    | true =>
      rw [tagged_yes hc]
      refine ⟨?_, ?_, ih⟩
      · have hl2 : lowL (92 :: tagged (x :: xs) t) = low 92 :: lowL (tagged (x :: xs) t) := rfl
        have hx : ¬ low 92 = x := fun e => (h x (.head _)).2 (e.symm.trans (by decide))
        rw [tagAt, hl2, pre_cons, decide_eq_false hx, Bool.false_and, Bool.and_false]
      · simp [tagAt]
    | false =>
      rw [tagged_no hc]
      refine ⟨?_, ih⟩
      rw [Bool.eq_false_iff]
      intro hy
      simp [tagAt] at hy hc
      rw [pre_tagged (x :: xs) (x :: xs) t h hy.2] at hc
      exact absurd (hc hy.1) (by decide)
theorem tagged_twice (tag : List UInt8) (h : ∀ x ∈ tag, x ≠ 60 ∧ x ≠ 92) (h1 : tag ≠ []) (l : List UInt8) : tagged tag (tagged tag l) = tagged tag l := tagged_clean _ _ (clean_tagged tag h h1 l)
end Stamp
