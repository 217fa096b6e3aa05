/- A slice of steps that came in: what its cells hold. -/
import Derived.Test.YtmoaeeiggkaicaaJoH
import Derived.Deep.Slices
import Derived.Deep.Fields
import Derived.ChangeSame
namespace Go.Proofs.Ytmoaeeiggkaicaa
open Go.RowKit Stamp Go.ChangeShapes Go.WideShapes Go.Deep
set_option linter.unusedVariables false

section
variable {H : Type} {enc : TypeId × Value → H} {P : Program} {w : World} {base : Nat} {spare : Nat → Bool} {held : Bool}
theorem open_slice_fields {t e : TypeId} {fs : Array Field} {fuel : Nat} {cs : List Value} {x : DataW H × List MemPlace} (ht : P.underlying t = some (.slice e)) (he : P.underlying e = some (.struct fs))
    (hone : oneCellFields P fs = true) (hC : P.cellsOf e = fs.size) (h : DataW.trod enc P w base spare held fuel t cs = some x) :
    (cs = [.slice none 0 0] ∧ x = (.nil, [])) ∨
    ∃ (a : Addr) (len cap m : Nat) (D : Nat → DataW H) (Pl : Nat → List MemPlace), cs = [.slice (some a) len cap] ∧ base ≤ a.block ∧ len ≤ cap ∧ cap ≤ maxLen ∧ m = (if spare a.block then cap else len) ∧
      x = (.slice ((List.range len).map D) ((List.range (m - len)).map fun j => D (len + j)), MemPlace.row a (m * fs.size) ++ (List.range m).flatMap Pl) ∧
      ∀ i, i < m → ∃ (ys : List (DataW H × List MemPlace)) (n : Nat), D i = .agg (ys.map (·.1)) ∧ Pl i = ys.flatMap (·.2) ∧ ys.length = fs.size ∧
        ∀ (j : Nat) (f : Field), fs[j]? = some f → ∃ (v : Value) (y : DataW H × List MemPlace), w.cell? (a.add (i * fs.size + j)) = some v ∧ ys[j]? = some y ∧ DataW.trod enc P w base spare held n f.type [v] = some y := by
  rcases open_slice ht h with h0 | ⟨a, len, cap, m, n, D, Pl, hcs, hb, hl, hm, hmm, hx, hi⟩
  · exact .inl h0
  · refine .inr ⟨a, len, cap, m, D, Pl, hcs, hb, hl, hm, hmm, by rw [hC] at hx; exact hx, fun i him => ?_⟩
    obtain ⟨cs', hc, ht'⟩ := hi i him
    rw [hC] at hc
    obtain ⟨ys, n', hn', hy, hlen, hyl, hf⟩ := DataW.trod_struct he ht'
    obtain ⟨_, hcl, hat⟩ := World.cells?_some hc
    simp only [Prod.mk.injEq] at hy
    refine ⟨ys, n', hy.1, hy.2, hyl, fun j f hj => ?_⟩
    obtain ⟨ho, hk⟩ := hone_of hone j f hj
    have hjl : j < fs.size := (Array.getElem?_eq_some_iff.1 hj).1
    have hcell := hat j hjl
    have hv : cs'[j]? = some (cs'[j]'(by omega)) := List.getElem?_eq_getElem (by omega)
    have h1 := hf j f hj
    rw [ho, hk] at h1
    have hone' : (cs'.drop j).take 1 = [cs'[j]'(by omega)] := by
      rw [List.drop_eq_getElem_cons (by omega)]
      rfl
    rw [hone'] at h1
    have hys : ys[j]? = some (ys[j]'(by omega)) := List.getElem?_eq_getElem (by omega)
    refine ⟨_, _, ?_, hys, h1.trans hys⟩
    rw [← Go.Deep.add_add, hcell, hv]
end

theorem stCells_len (l : List (Int × ByteArray)) : (stCells l).length = 2 * l.length := by
  induction l with
  | nil => rfl
  | cons x l ih => simp [stCells] at ih ⊢; omega
theorem stCells_at {l : List (Int × ByteArray)} {j : Nat} {u : Value} (h : (stCells l)[j]? = some u) : ∃ i x, l[i]? = some x ∧ ((j = i * 2 ∧ u = .int .i64 x.1) ∨ (j = i * 2 + 1 ∧ u = .string x.2)) := by
  induction l generalizing j with
  | nil => cases h
  | cons y l ih =>
    match j, h with
    | 0, h => exact ⟨0, y, rfl, .inl ⟨rfl, by simpa [stCells] using h.symm⟩⟩
    | 1, h => exact ⟨0, y, rfl, .inr ⟨rfl, by simpa [stCells] using h.symm⟩⟩
    | j + 2, h =>
      obtain ⟨i, x, h1, h2⟩ := ih (j := j) (by simpa [stCells] using h)
      refine ⟨i + 1, x, h1, ?_⟩
      rcases h2 with ⟨h2, h3⟩ | ⟨h2, h3⟩
      · exact .inl ⟨by omega, h3⟩
      · exact .inr ⟨by omega, h3⟩
theorem came_steps {H : Type} {enc : TypeId × Value → H} {W : World} {base : Nat} {spare : Nat → Bool} {held : Bool} {fuel : Nat} {A : Option Addr} {len cap : Nat} {y : DataW H × List MemPlace}
    (h : DataW.trod enc Try.prog W base spare held fuel 22 [.slice A len cap] = some y) : ∃ zs : List (Int × ByteArray), zs.length = len ∧ len ≤ cap ∧ cap ≤ maxLen ∧ Holds W W.heap.size A (stCells zs) := by
  rcases open_slice_fields Try.underlying22 Try.underlying29 (by kernel_rfl) (by kernel_rfl) h with ⟨hcs, _⟩ | ⟨x, l, c, m, D, Pl, hcs, _, hl, hm, hmm, _, hi⟩
  · simp at hcs
    obtain ⟨rfl, rfl, rfl⟩ := hcs
    exact ⟨[], rfl, Nat.le_refl _, Nat.zero_le _, Holds.nil _ _ _⟩
  · simp at hcs
    obtain ⟨rfl, rfl, rfl⟩ := hcs
    have hlm : len ≤ m := by rw [hmm]; split <;> omega
    have hx : ∀ i, ∃ z : Int × ByteArray, i < len → W.cell? (x.add (i * 2)) = some (.int .i64 z.1) ∧ W.cell? (x.add (i * 2 + 1)) = some (.string z.2) := by
      intro i
      by_cases hlt : i < len
      · obtain ⟨ys, n, _, _, _, hf⟩ := hi i (by omega)
        obtain ⟨v0, y0, c0, _, t0⟩ := hf 0 _ rfl
        obtain ⟨v1, y1, c1, _, t1⟩ := hf 1 _ rfl
        obtain ⟨k, e0, _, _⟩ := DataW.trod_int Try.underlying3 t0
        obtain ⟨s, e1, _, _⟩ := DataW.trod_string Try.underlying9 t1
        simp only [List.cons.injEq, and_true] at e0 e1
        subst e0 e1
        exact ⟨(k, s), fun _ => ⟨c0, c1⟩⟩
      · exact ⟨(0, ByteArray.empty), fun h => absurd h hlt⟩
    obtain ⟨Z, hZ⟩ := Classical.axiomOfChoice hx
    refine ⟨(List.range len).map Z, by simp, hl, hm, Holds.of_came fun j u hu => ?_⟩
    obtain ⟨i, z, h1, h2⟩ := stCells_at hu
    rw [List.getElem?_map] at h1
    have hil : i < len := by
      rcases Nat.lt_or_ge i len with h | h
      · exact h
      · rw [List.getElem?_eq_none (by simpa using h)] at h1; cases h1
    rw [List.getElem?_range hil] at h1
    simp at h1
    subst h1
    rcases h2 with ⟨rfl, rfl⟩ | ⟨rfl, rfl⟩
    · exact (hZ i hil).1
    · exact (hZ i hil).2
end Go.Proofs.Ytmoaeeiggkaicaa
