/- Plain laws: a set of numbers as bytes. -/
import Derived.Laws.BitsAllLaws
import Derived.Laws.MakeOwn
namespace Stamp
open Go

theorem and_pow (b r : Nat) : b &&& 2 ^ r = if b.testBit r then 2 ^ r else 0 := by
  apply Nat.eq_of_testBit_eq
  intro i
  rw [Nat.testBit_and, Nat.testBit_two_pow]
  by_cases h : b.testBit r = true
  · rw [if_pos h, Nat.testBit_two_pow]
    by_cases e : r = i
    · subst e; simp [h]
    · simp [e]
  · rw [if_neg h, Nat.zero_testBit]
    by_cases e : r = i
    · subst e; simp [h]
    · simp [e]

theorem and7 (z : Nat) (hz : z < 300) : bits .and .u64 (z : Int) 7 = ((z % 8 : Nat) : Int) := by
  have h := u64_and_nat z 7 (by omega) (by omega)
  rw [show ((7 : Nat) : Int) = 7 from rfl] at h
  rw [h, show (7 : Nat) = 2 ^ 3 - 1 from rfl, Nat.and_two_pow_sub_one_eq_mod]
theorem pow8 {r : Nat} (hr : r < 8) : 2 ^ r < 256 := by
  have := Nat.pow_lt_pow_right (a := 2) (by omega) hr
  simpa using this
theorem tst8 (b r : Nat) (hb : b < 256) (hr : r < 8) : (bits .and .u8 (b : Int) ((2 ^ r : Nat) : Int) != 0) = b.testBit r := by
  rw [u8_and_nat b (2 ^ r) hb (pow8 hr), and_pow]
  have h2 : 0 < 2 ^ r := Nat.two_pow_pos r
  cases b.testBit r
  · simp
  · simp only [if_true]
    rw [bne_iff_ne]
    omega
theorem or8 (b r : Nat) (hb : b < 256) (hr : r < 8) : bits .or .u8 (b : Int) ((2 ^ r : Nat) : Int) = ((b ||| 2 ^ r : Nat) : Int) := u8_or_nat b (2 ^ r) hb (pow8 hr)

def setB (bs : List Nat) (z : Nat) : List Nat := bs.set (z / 8) (bs.getD (z / 8) 0 ||| 2 ^ (z % 8))
def fillB (m : Nat) (zs : List Nat) : List Nat := zs.foldl setB (List.replicate m 0)
def u8s (bs : List Nat) : Array Value := (bs.map fun (b : Nat) => Value.int .u8 (b : Int)).toArray

theorem setB_len (bs : List Nat) (z : Nat) : (setB bs z).length = bs.length := by simp [setB]
theorem fillB_snoc (m : Nat) (zs : List Nat) (z : Nat) : fillB m (zs ++ [z]) = setB (fillB m zs) z := by simp [fillB, List.foldl_append]
theorem fillB_ind {m : Nat} {P : List Nat → List Nat → Prop} (h0 : P [] (List.replicate m 0)) (hs : ∀ zs z, P zs (fillB m zs) → P (zs ++ [z]) (setB (fillB m zs) z)) (zs : List Nat) : P zs (fillB m zs) := by
  suffices h : ∀ rev : List Nat, P rev.reverse (fillB m rev.reverse) by have := h zs.reverse; rwa [List.reverse_reverse] at this
  intro rev
  induction rev with
  | nil => exact h0
  | cons z rev ih =>
    rw [List.reverse_cons, fillB_snoc]
    exact hs _ _ ih
theorem fillB_len (m : Nat) (zs : List Nat) : (fillB m zs).length = m :=
  fillB_ind (P := fun _ bs => bs.length = m) (by simp) (fun _ _ h => by rw [setB_len]; exact h) zs
theorem setB_lt {bs : List Nat} (h : ∀ b ∈ bs, b < 256) (z : Nat) : ∀ b ∈ setB bs z, b < 256 := by
  intro b hb
  rcases List.mem_or_eq_of_mem_set hb with h1 | h1
  · exact h b h1
  · rw [h1]
    have hg : bs.getD (z / 8) 0 < 2 ^ 8 := by
      rw [List.getD_eq_getElem?_getD]
      cases hx : bs[z / 8]? with
      | none => simp
      | some x => exact h x (List.mem_of_getElem? hx)
    exact Nat.or_lt_two_pow hg (Nat.pow_lt_pow_right (by omega) (Nat.mod_lt _ (by omega)))
theorem fillB_lt (m : Nat) (zs : List Nat) : ∀ b ∈ fillB m zs, b < 256 :=
  fillB_ind (P := fun _ bs => ∀ b ∈ bs, b < 256) (by intro b hb; rw [List.eq_of_mem_replicate hb]; omega) (fun _ _ h => setB_lt h _) zs

theorem getD_set (bs : List Nat) (i j v : Nat) (hi : i < bs.length) : (bs.set i v).getD j 0 = if i = j then v else bs.getD j 0 := by
  rw [List.getD_eq_getElem?_getD, List.getD_eq_getElem?_getD, List.getElem?_set]
  split
  · simp
  · rfl

theorem fillB_bit (m : Nat) (zs : List Nat) : (∀ z ∈ zs, z / 8 < m) → ∀ i, ((fillB m zs).getD (i / 8) 0).testBit (i % 8) = decide (i ∈ zs) := by
  refine fillB_ind (P := fun zs bs => bs.length = m ∧ ((∀ z ∈ zs, z / 8 < m) → ∀ i, (bs.getD (i / 8) 0).testBit (i % 8) = decide (i ∈ zs))) ⟨by simp, ?_⟩ ?_ zs |>.2
  · intro _ i
    rw [List.getD_eq_getElem?_getD, List.getElem?_replicate]
    split <;> simp
  · intro zs z ⟨hl, ih⟩
    refine ⟨by rw [setB_len]; exact hl, fun hz i => ?_⟩
    have ih' := ih (fun x hx => hz x (by simp [hx]))
    have hzm : z / 8 < m := hz z (by simp)
    unfold setB
    rw [getD_set _ _ _ _ (by rw [hl]; exact hzm)]
    by_cases e : z / 8 = i / 8
    · rw [if_pos e, Nat.testBit_or, Nat.testBit_two_pow, e, ih' i]
      by_cases e2 : z % 8 = i % 8
      · have : z = i := by omega
        subst this
        simp
      · have : i ≠ z := fun h => e2 (by rw [h])
        simp [e2, this]
    · rw [if_neg e, ih' i]
      have : i ≠ z := fun h => e (by rw [h])
      simp [this]

theorem fillB_eq_iff (m : Nat) (zs ms : List Nat) (hz : ∀ z ∈ zs, z / 8 < m) (hm : ∀ z ∈ ms, z / 8 < m) : fillB m zs = fillB m ms ↔ ∀ i, i ∈ zs ↔ i ∈ ms := by
  constructor
  · intro h i
    have h1 := fillB_bit m zs hz i
    have h2 := fillB_bit m ms hm i
    rw [h, h2] at h1
    simpa using h1.symm
  · intro h
    apply List.ext_getElem (by rw [fillB_len, fillB_len])
    intro k h1 h2
    apply Nat.eq_of_testBit_eq
    intro j
    have hk : k < m := by rw [fillB_len] at h1; exact h1
    have e1 : (fillB m zs)[k] = (fillB m zs).getD k 0 := by rw [List.getD_eq_getElem?_getD, List.getElem?_eq_getElem h1]; rfl
    have e2 : (fillB m ms)[k] = (fillB m ms).getD k 0 := by rw [List.getD_eq_getElem?_getD, List.getElem?_eq_getElem h2]; rfl
    by_cases hj : j < 8
    · have b1 := fillB_bit m zs hz (8 * k + j)
      have b2 := fillB_bit m ms hm (8 * k + j)
      rw [show (8 * k + j) / 8 = k from by omega, show (8 * k + j) % 8 = j from by omega] at b1 b2
      rw [e1, e2, b1, b2]
      simp [h]
    · have l1 := fillB_lt m zs _ (List.getElem_mem h1)
      have l2 := fillB_lt m ms _ (List.getElem_mem h2)
      have p : 256 ≤ 2 ^ j := by
        have := Nat.pow_le_pow_right (n := 2) (by omega) (show 8 ≤ j by omega)
        simpa using this
      rw [Nat.testBit_lt_two_pow (by omega), Nat.testBit_lt_two_pow (by omega)]

theorem u8s_at (bs : List Nat) (k : Nat) (h : k < bs.length) : (u8s bs)[k]? = some (.int .u8 ((bs.getD k 0 : Nat) : Int)) := by
  simp [u8s, List.getElem?_eq_getElem h]
theorem u8s_set (bs : List Nat) (k v : Nat) : (u8s bs).setIfInBounds k (.int .u8 (v : Int)) = u8s (bs.set k v) := by
  simp [u8s, List.map_set]
theorem u8s_size (bs : List Nat) : (u8s bs).size = bs.length := by simp [u8s]

/-- which numbers below n are in -/
def inL (n : Nat) (zs : List Nat) : List Bool := (List.range n).map fun i => decide (i ∈ zs)
theorem inL_len (n : Nat) (zs : List Nat) : (inL n zs).length = n := by simp [inL]
theorem inL_at (n : Nat) (zs : List Nat) (i : Nat) (h : i < n) : (inL n zs)[i]? = some (decide (i ∈ zs)) := by simp [inL, h]
theorem inL_snoc (n : Nat) (zs : List Nat) (z : Nat) : (inL n zs).set z true = inL n (zs ++ [z]) := by
  apply List.ext_getElem?
  intro i
  rw [List.getElem?_set]
  by_cases hi : i < n
  · rw [inL_at n _ i hi, inL_at n _ i hi]
    by_cases e : z = i
    · rw [if_pos e, if_pos (by rw [inL_len]; omega)]; simp [e]
    · rw [if_neg e]
      have : i ≠ z := fun h => e h.symm
      simp [this]
  · have h1 : (inL n zs)[i]? = none := by rw [List.getElem?_eq_none_iff, inL_len]; omega
    have h2 : (inL n (zs ++ [z]))[i]? = none := by rw [List.getElem?_eq_none_iff, inL_len]; omega
    rw [h1, h2]
    split
    · rw [if_neg (by rw [inL_len]; omega)]
    · rfl
def bools (l : List Bool) : Array Value := (l.map Value.bool).toArray
theorem bools_at (l : List Bool) (k : Nat) (b : Bool) (h : l[k]? = some b) : (bools l)[k]? = some (.bool b) := by simp [bools, h]
theorem bools_set (l : List Bool) (k : Nat) (b : Bool) : (bools l).setIfInBounds k (.bool b) = bools (l.set k b) := by simp [bools, List.map_set]
theorem bools_size (l : List Bool) : (bools l).size = l.length := by simp [bools]
theorem inL_nil (n : Nat) : bools (inL n []) = madeCells #[.bool false] n := by
  apply Array.ext'
  apply List.ext_getElem?
  intro i
  by_cases hi : i < n
  · simp [bools, inL, madeCells, hi, Nat.mod_one]
  · simp [bools, inL, madeCells, hi]
theorem fill_nil (n : Nat) : u8s (fillB n []) = madeCells #[.int .u8 0] n := by
  apply Array.ext'
  apply List.ext_getElem?
  intro i
  by_cases hi : i < n
  · simp [u8s, fillB, madeCells, hi, Nat.mod_one]
  · simp [u8s, fillB, madeCells, hi]
end Stamp
