/- Plain laws: what steps join to. -/
import Derived.Test.YtmoaeeiggkaicaaMem
namespace Stamp

/-- the last byte of a text, 0 of nothing -/
def lastB (l : List UInt8) : UInt8 := l.getLast?.getD 0
/-- what one step makes of a text -/
def jStep (acc : List UInt8) (x : Int × ByteArray) : List UInt8 :=
  if x.1 = 0 ∨ x.1 = 1 then acc ++ x.2.data.toList
  else if x.1 = 2 then (if acc = [] then acc else if lastB acc = 10 then acc else acc ++ [10])
  else acc
def joinAll (xs : List (Int × ByteArray)) : List UInt8 := xs.foldl jStep []

theorem joinAll_snoc (xs : List (Int × ByteArray)) (x : Int × ByteArray) : joinAll (xs ++ [x]) = jStep (joinAll xs) x := by simp [joinAll]
theorem lastB_snoc (l : List UInt8) (c : UInt8) : lastB (l ++ [c]) = c := by simp [lastB]
theorem lastB_append (a b : List UInt8) : lastB (a ++ b) = if b = [] then lastB a else lastB b := by
  by_cases h : b = []
  · simp [h]
  · rw [if_neg h]; simp [lastB, List.getLast?_append]
    cases hb : b.getLast? with
    | none => exact absurd (List.getLast?_eq_none_iff.1 hb) h
    | some x => simp
/-- how much is added at most -/
def weight (xs : List (Int × ByteArray)) : Nat := (xs.map fun x => x.2.size + 1).sum
theorem jStep_len (acc : List UInt8) (x : Int × ByteArray) : acc.length ≤ (jStep acc x).length ∧ (jStep acc x).length ≤ acc.length + x.2.size + 1 := by
  unfold jStep
  by_cases h1 : x.1 = 0 ∨ x.1 = 1
  · rw [if_pos h1]; simp only [List.length_append, Array.length_toList]; have : x.2.data.size = x.2.size := rfl; omega
  · rw [if_neg h1]
    by_cases h2 : x.1 = 2
    · rw [if_pos h2]
      by_cases h3 : acc = []
      · rw [if_pos h3]; omega
      · rw [if_neg h3]
        by_cases h4 : lastB acc = 10
        · rw [if_pos h4]; omega
        · rw [if_neg h4]; simp
    · rw [if_neg h2]; omega
theorem weight_snoc (xs : List (Int × ByteArray)) (x : Int × ByteArray) : weight (xs ++ [x]) = weight xs + (x.2.size + 1) := by simp [weight]
theorem joinAll_len (xs : List (Int × ByteArray)) : (joinAll xs).length ≤ weight xs := by
  suffices h : ∀ acc, (xs.foldl jStep acc).length ≤ acc.length + weight xs by simpa [joinAll] using h []
  induction xs with
  | nil => intro acc; simp [weight]
  | cons x r ih =>
    intro acc
    have h1 := ih (jStep acc x)
    have h2 := (jStep_len acc x).2
    have e : weight (x :: r) = x.2.size + 1 + weight r := by simp [weight]
    rw [List.foldl_cons]
    omega
theorem weight_append (a b : List (Int × ByteArray)) : weight (a ++ b) = weight a + weight b := by simp [weight]
theorem joinAll_twice (xs : List (Int × ByteArray)) (t e : ByteArray) (ht : t.data.toList = [97]) : joinAll (xs ++ [(0, t)] ++ [(2, e)] ++ [(2, e)]) = joinAll (xs ++ [(0, t)] ++ [(2, e)]) ∧ joinAll (xs ++ [(0, t)] ++ [(2, e)]) = joinAll xs ++ [97, 10] := by
  have h : joinAll (xs ++ [(0, t)] ++ [(2, e)]) = joinAll xs ++ [97, 10] := by
    rw [joinAll_snoc, joinAll_snoc]
    simp [jStep, ht, lastB_snoc]
  refine ⟨?_, h⟩
  rw [joinAll_snoc, h]
  have : lastB (joinAll xs ++ [97, 10]) = 10 := by rw [show joinAll xs ++ [97, 10] = (joinAll xs ++ [97]) ++ [10] by simp, lastB_snoc]
  simp [jStep, this]
end Stamp
