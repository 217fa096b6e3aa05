/- The contracts of Joiner's 'AddString', 'AddBytes', 'EnsureNewlineAtEnd', 'Length', 'LastByte'. -/
import Derived.Test.YtmoaeeiggkaicaaChecked
import Derived.WalkKit
import Derived.Test.YtmoaeeiggkaicaaMem
import Derived.Test.YtmoaeeiggkaicaaApp
import Derived.Test.YtmoaeeiggkaicaaConv
import Derived.Test.YtmoaeeiggkaicaaJoP
import Derived.Deep.RegionHeld3
import Derived.Deep.DrawnRows
import Derived.Lib.IndexBytes
import Derived.Outline
import Derived.Deep.RegionLaw
import Derived.BigRegion
namespace Go.Proofs.Ytmoaeeiggkaicaa
open Go.RowKit Stamp
set_option linter.unusedVariables false
attribute [local go_sem ↓] Go.wp_at_zero Go.wp_at_succ

theorem own_form2 {w : World} {base : Nat} {e : TypeId} {size : Nat} {v : Value} {n : Nat} {xs : List Value} (h : w.ownsRow base e size v n xs) :
    ∃ A c, v = .slice A n c ∧ n ≤ c ∧ c ≤ maxLen ∧ Holds w w.heap.size A xs := by
  have hl := h.1
  rcases h.2 with ⟨rfl, rfl⟩ | ⟨g, cap, cur, rfl, _, hg, hnc, hm, hs, ht⟩
  · refine ⟨none, 0, rfl, Nat.le_refl _, Nat.zero_le _, fun hx => ?_⟩
    rw [hl] at hx; simp at hx
  · refine ⟨_, cap, rfl, hnc, hm, fun hx => ⟨g, 0, rfl, ?_, fun j u hu => ?_⟩⟩
    · rcases Nat.lt_or_ge g w.heap.size with h1 | h1
      · exact h1
      · rw [Array.getElem?_eq_none h1] at hg; cases hg
    · rw [Nat.zero_add, cell_of_row w g j cur e (0, 0) hg]
      rw [← ht, List.getElem?_take] at hu
      split at hu
      · simpa using hu
      · cases hu

structure Itm where
  A : Option Addr
  l : List UInt8
  c : Nat
  off : Nat
def sCells (l : List (ByteArray × Nat)) : List Value := l.flatMap fun x => [.string x.1, .int .u32 (x.2 : Int)]
def bCells (l : List Itm) : List Value := l.flatMap fun x => [.slice x.A x.l.length x.c, .int .u32 (x.off : Int)]
theorem sCells_snoc (l : List (ByteArray × Nat)) (x : ByteArray × Nat) : sCells (l ++ [x]) = sCells l ++ [.string x.1, .int .u32 (x.2 : Int)] := by simp [sCells]
theorem bCells_snoc (l : List Itm) (x : Itm) : bCells (l ++ [x]) = bCells l ++ [.slice x.A x.l.length x.c, .int .u32 (x.off : Int)] := by simp [bCells]
/-- a row of bytes that stands in memory -/
def Dat (w : World) (x : Itm) : Prop := ∃ (g : Nat) (cs : Array Value) (fz : Nat × Nat), x.A = some ⟨g, 0, none⟩ ∧ w.heap[g]? = some (.cells cs 5 fz) ∧ ∀ (i : Nat) (u : Value), (bytesV x.l)[i]? = some u → cs[i]? = some u
/-- rows of bytes stand -/
def K5 (w w' : World) : Prop := ∀ (g : Nat) (cs : Array Value) (fz : Nat × Nat), w.heap[g]? = some (.cells cs 5 fz) → w'.heap[g]? = some (.cells cs 5 fz)
theorem K5.refl (w : World) : K5 w w := fun _ _ _ h => h
theorem K5.trans {a b c : World} (h : K5 a b) (k : K5 b c) : K5 a c := fun g cs fz hg => k g cs fz (h g cs fz hg)
theorem K5.dat {w w' : World} {x : Itm} (h : K5 w w') (hd : Dat w x) : Dat w' x := by
  obtain ⟨g, cs, fz, h1, h2, h3⟩ := hd
  exact ⟨g, cs, fz, h1, h _ _ _ h2, h3⟩
theorem K5.drew (w : World) : K5 w w.drew := fun _ _ _ h => h
theorem K5.alloc (w : World) (o : Obj) : K5 w (w.alloc o) := fun g cs fz h => by
  have hlt := (Array.getElem?_eq_some_iff.1 h).1
  exact (Below.heap_alloc w o g hlt).trans h
theorem K5.set {w : World} {j : Nat} {t : TypeId} {cs : Array Value} (h : Blk w j t cs) (ht : t ≠ 5) (i : Nat) (u : Value) : K5 w (w.setCell ⟨j, i, none⟩ u) := fun g c fz hg => by
  have hne : g ≠ j := by
    rintro rfl
    unfold Blk at h
    rw [h] at hg
    injection hg with hg; injection hg with _ ht2
    exact ht ht2
  exact (Below.heap_setCell w _ u g hne).trans hg
theorem own_ne5 {w : World} {base : Nat} {e : TypeId} {size n : Nat} {v : Value} {xs : List Value} (h : w.ownsRow base e size v n xs) (he : e ≠ 5) {g : Nat} {cs : Array Value} {fz : Nat × Nat} (hg : w.heap[g]? = some (.cells cs 5 fz)) : some g ≠ v.ownBlock := by
  rcases h.2 with ⟨rfl, _⟩ | ⟨g', cap, cur, rfl, _, hh, _⟩
  · simp [Value.ownBlock]
  · intro e1
    have : g = g' := by simpa [Value.ownBlock] using e1
    subst this
    rw [hh] at hg
    injection hg with hg; injection hg with _ ht
    exact he ht
theorem K5.grown {w w' : World} {base : Nat} {e : TypeId} {size n : Nat} {v : Value} {xs : List Value} (h : w.ownsRow base e size v n xs) (he : e ≠ 5) (hg : w.grownBy w' v.ownBlock) : K5 w w' := fun g cs fz hh =>
  (hg.block g (Array.getElem?_eq_some_iff.1 hh).1 (own_ne5 h he hh)).trans hh

/-- a Joiner behind some steps: what it holds is acc -/
structure JS (w : World) (B j : Nat) (acc : List UInt8) (ss : List (ByteArray × Nat)) (bb : List Itm) : Prop where
  st : ∃ vs vb, Blk w j 41 #[vs, vb, .int .u32 (acc.length : Int), .int .u8 ((lastB acc).toNat : Int)] ∧ w.ownsRow B 47 2 vs ss.length (sCells ss) ∧ w.ownsRow B 45 2 vb bb.length (bCells bb)
  hB : B ≤ j
  dat : ∀ x ∈ bb, Dat w x

theorem infoJS : (Try.prog.info? 47).map (fun i => (i.zero, i.size, i.bytes)) = some (some (.agg #[.string ByteArray.empty, .int .u32 0]), 2, 24) := by kernel_rfl
theorem infoJB : (Try.prog.info? 45).map (fun i => (i.zero, i.size, i.bytes)) = some (some (.agg #[.slice none 0 0, .int .u32 0]), 2, 32) := by kernel_rfl
theorem oneCell_p {a : Value} {b : Int} {k : IntKind} (ha : a.oneCell' = true) : ∀ u ∈ [a, Value.int k b], u.oneCell' = true := by
  intro u hu
  simp only [List.mem_cons, List.not_mem_nil, or_false] at hu
  rcases hu with rfl | rfl
  · exact ha
  · rfl
theorem Holds.pair (w : World) (x y : Value) (t : TypeId) {g : Nat} (hg : g = w.heap.size) : Holds (w.alloc (.cells #[x, y] t)) (g + 1) (some ⟨g, 0, none⟩) [x, y] := by
  subst hg
  exact fun _ => ⟨w.heap.size, 0, rfl, by omega, fun j u hu => cell_new w #[x, y] t w.heap.size (0 + j) u rfl (by rw [Nat.zero_add]; simpa using hu)⟩

set_option maxHeartbeats 400000 in
theorem Length_calls (w : World) (B j : Nat) (acc : List UInt8) (ss : List (ByteArray × Nat)) (bb : List Itm) (h : JS w B j acc ss bb) : Calls Try.prog 13 #[.pointer (some ⟨j, 0, none⟩)] w fun e w' => e = .returned (.int .u32 (acc.length : Int)) ∧ w' = w := by
  obtain ⟨vs, vb, hb, _, _⟩ := h.st
  have c2 : w.cell? ⟨j, 2, none⟩ = some (.int .u32 (acc.length : Int)) := by rw [hb.cell]; rfl
  clear hb h
  go_enter Try.func13, Try.ntmps13
  go_wp2
  go_ret
  exact ⟨rfl, rfl⟩
set_option maxHeartbeats 400000 in
theorem Last_calls (w : World) (B j : Nat) (acc : List UInt8) (ss : List (ByteArray × Nat)) (bb : List Itm) (h : JS w B j acc ss bb) : Calls Try.prog 14 #[.pointer (some ⟨j, 0, none⟩)] w fun e w' => e = .returned (.int .u8 ((lastB acc).toNat : Int)) ∧ w' = w := by
  obtain ⟨vs, vb, hb, _, _⟩ := h.st
  have c2 : w.cell? ⟨j, 3, none⟩ = some (.int .u8 ((lastB acc).toNat : Int)) := by rw [hb.cell]; rfl
  clear hb h
  go_enter Try.func14, Try.ntmps14
  go_wp2
  go_ret
  exact ⟨rfl, rfl⟩

/-- what is added -/
theorem blk_cells {w : World} {j : Nat} {vs vb : Value} {n last : Int} (hb : Blk w j 41 #[vs, vb, .int .u32 n, .int .u8 last]) :
    w.cell? ⟨j, 0, none⟩ = some vs ∧ w.cell? ⟨j, 1, none⟩ = some vb ∧ w.cell? ⟨j, 2, none⟩ = some (.int .u32 n) ∧ w.cell? ⟨j, 3, none⟩ = some (.int .u8 last) ∧ (∀ i, w.frozen? ⟨j, i, none⟩ = false) := by
  exact ⟨by rw [hb.cell]; rfl, by rw [hb.cell]; rfl, by rw [hb.cell]; rfl, by rw [hb.cell]; rfl, fun i => hb.frozen i⟩

theorem own_set {w : World} {base : Nat} {e : TypeId} {size n : Nat} {v : Value} {xs : List Value} (h : w.ownsRow base e size v n xs) {j : Nat} {t : TypeId} {cs : Array Value} (hb : Blk w j t cs) (hne : e ≠ t) (i : Nat) (u : Value) :
    (w.setCell ⟨j, i, none⟩ u).ownsRow base e size v n xs :=
  h.kept (row := some j) (grown_setCell w ⟨j, i, none⟩ u) (.inr (fun e1 => own_blk_ne h hb hne e1.symm))
theorem own_own_ne {w : World} {b1 b2 : Nat} {e1 e2 : TypeId} {s1 s2 n1 n2 : Nat} {v1 v2 : Value} {x1 x2 : List Value} (h1 : w.ownsRow b1 e1 s1 v1 n1 x1) (h2 : w.ownsRow b2 e2 s2 v2 n2 x2) (hne : e1 ≠ e2) : v1.ownBlock = none ∨ v1.ownBlock ≠ v2.ownBlock := by
  rcases h1.2 with ⟨rfl, _⟩ | ⟨g1, c1, cur1, rfl, _, hg1, _⟩
  · exact .inl rfl
  · right
    rcases h2.2 with ⟨rfl, _⟩ | ⟨g2, c2, cur2, rfl, _, hg2, _⟩
    · simp [Value.ownBlock]
    · intro e
      have : g1 = g2 := by simpa [Value.ownBlock] using e
      subst this
      rw [hg1] at hg2
      injection hg2 with hg2; injection hg2 with _ ht
      exact hne ht
theorem lastB_at {s : ByteArray} (h : 0 < s.size) : ∃ hk : s.size - 1 < s.size, s[s.size - 1] = lastB s.data.toList := by
  have hk : s.size - 1 < s.size := by omega
  refine ⟨hk, ?_⟩
  have h1 := Lib.data_getElem? s _ hk
  have e : s.data.toList.length = s.size := by simp
  unfold lastB
  rw [List.getLast?_eq_getElem?, e, h1]; rfl
end Go.Proofs.Ytmoaeeiggkaicaa
