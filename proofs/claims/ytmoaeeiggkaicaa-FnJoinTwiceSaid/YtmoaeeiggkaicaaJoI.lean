/- A slice of steps that came in: what its cells hold. -/
import Derived.Test.YtmoaeeiggkaicaaJoH
import Derived.Deep.SlicePairs
namespace Go.Proofs.Ytmoaeeiggkaicaa
open Go.RowKit Stamp Go.ChangeShapes Go.WideShapes Go.Deep
set_option linter.unusedVariables false

theorem stCells_len (l : List (Int × ByteArray)) : (stCells l).length = 2 * l.length := by
  induction l with
  | nil => rfl
  | cons x l ih => simp [stCells] at ih ⊢; omega
theorem stCells_at {l : List (Int × ByteArray)} {j : Nat} {u : Value} (h : (stCells l)[j]? = some u) : ∃ i x, l[i]? = some x ∧ ((j = i * 2 ∧ u = .int .i64 x.1) ∨ (j = i * 2 + 1 ∧ u = .string x.2)) := by
  induction l generalizing j with
  | nil => cases h
  | cons y l ih =>
    match j, h with
    | 0, h => exact ⟨0, y, rfl, .inl ⟨rfl, by simpa [stCells] using h.symm⟩⟩
    | 1, h => exact ⟨0, y, rfl, .inr ⟨rfl, by simpa [stCells] using h.symm⟩⟩
    | j + 2, h =>
      obtain ⟨i, x, h1, h2⟩ := ih (j := j) (by simpa [stCells] using h)
      refine ⟨i + 1, x, h1, ?_⟩
      rcases h2 with ⟨h2, h3⟩ | ⟨h2, h3⟩
      · exact .inl ⟨by omega, h3⟩
      · exact .inr ⟨by omega, h3⟩
theorem came_steps {H : Type} {enc : TypeId × Value → H} {W : World} {base : Nat} {spare : Nat → Bool} {held : Bool} {fuel : Nat} {A : Option Addr} {len cap : Nat} {y : DataW H × List MemPlace}
    (h : DataW.trod enc Try.prog W base spare held fuel 22 [.slice A len cap] = some y) : ∃ zs : List (Int × ByteArray), zs.length = len ∧ len ≤ cap ∧ cap ≤ maxLen ∧ Holds W W.heap.size A (stCells zs) := by
  rcases open_slice_pairs Try.underlying22 Try.underlying29 (by kernel_rfl) rfl rfl (by kernel_rfl) (by kernel_rfl) h with ⟨hcs, _⟩ | ⟨x, l, c, m, n, V0, V1, D0, D1, P0, P1, hcs, _, hl, hm, hmm, _, hi⟩
  · simp at hcs
    obtain ⟨rfl, rfl, rfl⟩ := hcs
    exact ⟨[], rfl, Nat.le_refl _, Nat.zero_le _, Holds.nil _ _ _⟩
  · simp at hcs
    obtain ⟨rfl, rfl, rfl⟩ := hcs
    have hlm : len ≤ m := by rw [hmm]; split <;> omega
    have hx : ∀ i, ∃ z : Int × ByteArray, i < len → W.cell? (x.add (i * 2)) = some (.int .i64 z.1) ∧ W.cell? (x.add (i * 2 + 1)) = some (.string z.2) := by
      intro i
      by_cases hlt : i < len
      · obtain ⟨c0, c1, t0, t1⟩ := hi i (by omega)
        obtain ⟨k, e0, _, _⟩ := DataW.trod_int Try.underlying3 t0
        obtain ⟨s, e1, _, _⟩ := DataW.trod_string Try.underlying9 t1
        simp only [List.cons.injEq, and_true] at e0 e1
        rw [e0] at c0
        rw [e1] at c1
        exact ⟨(k, s), fun _ => ⟨c0, c1⟩⟩
      · exact ⟨(0, ByteArray.empty), fun h => absurd h hlt⟩
    obtain ⟨Z, hZ⟩ := Classical.axiomOfChoice hx
    refine ⟨(List.range len).map Z, by simp, hl, hm, Holds.of_came fun j u hu => ?_⟩
    obtain ⟨i, z, h1, h2⟩ := stCells_at hu
    rw [List.getElem?_map] at h1
    have hil : i < len := by
      rcases Nat.lt_or_ge i len with h | h
      · exact h
      · rw [List.getElem?_eq_none (by simpa using h)] at h1; cases h1
    rw [List.getElem?_range hil] at h1
    simp at h1
    subst h1
    rcases h2 with ⟨rfl, rfl⟩ | ⟨rfl, rfl⟩
    · exact (hZ i hil).1
    · exact (hZ i hil).2
end Go.Proofs.Ytmoaeeiggkaicaa
