/- Plain laws: a tag in letters of any size; where '</' stands first. No program is in sight here. -/
import Derived.Test.YtmepooboopncmaaDoorMoP
import Derived.Test.YtmepooboopncmaaDoorUtf
import Derived.Lib.Fold
namespace Stamp
open Go

def isTag (c : UInt8) : Bool := decide (c.toNat = 47) || decide (c.toNat = 115) || decide (c.toNat = 99) || decide (c.toNat = 114) || decide (c.toNat = 105) || decide (c.toNat = 112) || decide (c.toNat = 116) || decide (c.toNat = 121) || decide (c.toNat = 108) || decide (c.toNat = 101)
theorem tag_low {c : UInt8} (h : isTag c = true) : c.toNat < 128 := by simp [isTag] at h; omega
theorem low_val (c : UInt8) : (low c).toNat = if 65 ≤ c.toNat ∧ c.toNat ≤ 90 then c.toNat + 32 else c.toNat := by
  unfold low
  split
  · rw [toNat_ofNat_lt (by omega)]
  · rfl
theorem fold_low (x y : UInt8) (h : isTag y = true) : Lib.foldEq x y = decide (low x = y) := by
  have e : (low x = y) ↔ ((low x).toNat = y.toNat) := by
    constructor
    · intro h; rw [h]
    · intro h; exact UInt8.toNat_inj.1 h
  unfold Lib.foldEq
  apply decide_eq_decide.2
  rw [e, low_val]
  simp [isTag] at h
  split <;> omega
theorem equalFold_low : ∀ (s t : List UInt8), (∀ c ∈ t, isTag c = true) → Lib.equalFold s t = decide (lowL s = t)
  | [], [], _ => rfl
  | [], _ :: _, _ => by simp [Lib.equalFold, lowL]
  | _ :: _, [], _ => by simp [Lib.equalFold, lowL]
  | x :: s, y :: t, h => by
    rw [Lib.equalFold, fold_low x y (h y (.head _)), equalFold_low s t (fun c hc => h c (.tail _ hc))]
    have e : lowL (x :: s) = low x :: lowL s := rfl
    rw [e]
    by_cases h1 : low x = y
    · subst h1; simp
    · simp [h1]
theorem low_not {s t : List UInt8} (ht : ∀ c ∈ t, isTag c = true) (hx : ∃ c ∈ s, 128 ≤ c.toNat) : decide (lowL s = t) = false := by
  apply decide_eq_false
  rintro rfl
  obtain ⟨c, hc, h⟩ := hx
  have h1 := tag_low (ht (low c) (List.mem_map.2 ⟨c, hc, rfl⟩))
  rw [low_val] at h1
  split at h1 <;> omega

/-! ### where '</' stands -/
def ltAt (l : List UInt8) (i : Nat) : Prop := ∃ r, l.drop i = 60 :: 47 :: r
def FirstLt (l : List UInt8) (r : Int) : Prop := (r = -1 ∧ ∀ i, ¬ ltAt l i) ∨ ∃ k : Nat, r = (k : Int) ∧ ltAt l k ∧ ∀ i, i < k → ¬ ltAt l i
theorem low47 {c : UInt8} (h : low c = 47) : c = 47 := by
  have h1 := low_val c
  rw [h] at h1
  apply UInt8.toNat_inj.1
  have : (47 : UInt8).toNat = 47 := rfl
  rw [this] at h1 ⊢
  split at h1 <;> omega
theorem tagAt_lt {x : List UInt8} {c : UInt8} {t : List UInt8} (h : tagAt (47 :: x) c t = true) : ltAt (c :: t) 0 := by
  simp [tagAt] at h
  obtain ⟨rfl, h⟩ := h
  match t, h with
  | d :: t, h =>
    have e : lowL (d :: t) = low d :: lowL t := rfl
    rw [e, pre_cons] at h
    simp at h
    exact ⟨t, by rw [low47 h.1]; rfl⟩
  | [], h =>
    have e : lowL ([] : List UInt8) = [] := rfl
    rw [e, pre_none] at h
    cases h
theorem tagged_skip {x : List UInt8} : ∀ (k : Nat) (l : List UInt8), (∀ i, i < k → ¬ ltAt l i) → tagged (47 :: x) l = l.take k ++ tagged (47 :: x) (l.drop k)
  | 0, l, _ => by simp
  | k + 1, [], _ => by simp [tagged]
  | k + 1, c :: t, h => by
    have h0 : tagAt (47 :: x) c t = false := by
      cases hc : tagAt (47 :: x) c t with
      | false => rfl
      | true => exact absurd (tagAt_lt hc) (h 0 (by omega))
    rw [tagged_no h0, tagged_skip k t (fun i hi hl => h (i + 1) (by omega) hl)]
    rfl
theorem tagged_none {x l : List UInt8} (h : ∀ i, ¬ ltAt l i) : tagged (47 :: x) l = l := by
  rw [tagged_skip l.length l (fun i _ => h i)]
  simp [tagged]
theorem tagged_at {x l : List UInt8} {k : Nat} (h : ∀ i, i < k → ¬ ltAt l i) (hk : ltAt l k) :
    tagged (47 :: x) l = l.take (k + 1) ++ ((if pre (47 :: x) (lowL (l.drop (k + 1))) then [92] else []) ++ tagged (47 :: x) (l.drop (k + 1))) := by
  obtain ⟨r, hr⟩ := hk
  have h1 : l.drop (k + 1) = 47 :: r := by rw [← List.drop_drop, hr]; rfl
  have h2 : l[k]? = some 60 := by
    have := congrArg (·[0]?) hr
    simpa using this
  rw [tagged_skip k l h, hr, h1, List.take_add_one, h2]
  have e : tagAt (47 :: x) 60 (47 :: r) = pre (47 :: x) (lowL (47 :: r)) := by simp [tagAt]
  cases hp : pre (47 :: x) (lowL (47 :: r)) with
  | true => rw [tagged_yes (e.trans hp)]; simp
  | false => rw [tagged_no (e.trans hp)]; simp
theorem lt_len {l : List UInt8} {k : Nat} (h : ltAt l k) : k + 2 ≤ l.length := by
  obtain ⟨r, hr⟩ := h
  have := congrArg List.length hr
  simp at this
  omega
theorem pre_short {x l : List UInt8} (h : l.length < x.length) : pre x (lowL l) = false := by
  unfold pre
  apply decide_eq_false
  intro e
  have := congrArg List.length e
  simp [lowL] at this
  omega
theorem pre_low {x l : List UInt8} : pre x (lowL l) = decide (lowL (l.take x.length) = x) := by
  unfold pre lowL
  rw [List.map_take]
/-! ### whether a text stands in another one -/
theorem clean_no {tag : List UInt8} : ∀ (l : List UInt8), Clean tag l → ∀ i, pre (60 :: tag) (lowL (l.drop i)) = false
  | [], _, i => by
    have : lowL (List.drop i []) = [] := by simp [lowL]
    rw [this, pre_none]
  | c :: t, h, 0 => by
    have e : lowL ((c :: t).drop 0) = low c :: lowL t := rfl
    rw [e, pre_cons]
    have h1 := h.1
    by_cases hc : low c = 60
    · have h60 : c = 60 := by
        have h2 := low_val c
        rw [hc] at h2
        apply UInt8.toNat_inj.1
        have : (60 : UInt8).toNat = 60 := rfl
        rw [this] at h2 ⊢
        split at h2 <;> omega
      subst h60
      simp [tagAt] at h1
      rw [h1]; simp
    · simp [hc]
  | c :: t, h, i + 1 => clean_no t h.2 i
end Stamp
