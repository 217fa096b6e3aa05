/- Words for memory: a slice value that reads as a list of values, one cell each, nil let in. -/
import Derived.Below
import Derived.Laws.OwnMore
import Derived.Laws.Rows
import Derived.Deep.AppendLies
import Derived.Deep.Draws
import Derived.Laws.Strings
import Derived.Lib.Hide
namespace Stamp
open Go Go.RowKit

theorem addr_block (a : Addr) (n : Nat) : (a.add n).block = a.block := by unfold Addr.add; split <;> rfl
theorem addr_add (a : Addr) (i j : Nat) : (a.add i).add j = a.add (i + j) := by
  unfold Addr.add
  by_cases hi : i = 0 <;> by_cases hj : j = 0 <;> simp [hi, hj, Nat.add_assoc]
theorem addr_flat (b off i : Nat) : (⟨b, off, none⟩ : Addr).add i = ⟨b, off + i, none⟩ := by
  unfold Addr.add
  split
  · rename_i h; subst h; rfl
  · rfl

/-- the slice value '.slice A n c' holds the values xs, a cell each; its block lies below block number B -/
def Holds (w : World) (B : Nat) (A : Option Addr) (xs : List Value) : Prop :=
  0 < xs.length → ∃ b off, A = some ⟨b, off, none⟩ ∧ b < B ∧ ∀ j u, xs[j]? = some u → w.cell? ⟨b, off + j, none⟩ = some u

section
variable {w w' : World} {B B' : Nat} {A : Option Addr} {xs : List Value}
theorem Holds.nil (w : World) (B : Nat) (A : Option Addr) : Holds w B A [] := fun h => absurd h (by simp)
theorem Holds.keep (h : Holds w B A xs) (hk : ∀ p : Addr, p.block < B → w'.cell? p = w.cell? p) : Holds w' B A xs := fun hx => by
  obtain ⟨b, off, e, hb, hc⟩ := h hx
  exact ⟨b, off, e, hb, fun j u hu => (hk _ hb).trans (hc j u hu)⟩
theorem Holds.more (h : Holds w B A xs) (hB : B ≤ B') : Holds w B' A xs := fun hx => by
  obtain ⟨b, off, e, hb, hc⟩ := h hx
  exact ⟨b, off, e, by omega, hc⟩
theorem Holds.below (h : Holds w B A xs) (hb : Below B w w') : Holds w' B A xs := h.keep fun _ hp => hb.cell hp
theorem Holds.drew (h : Holds w B A xs) : Holds w.drew B A xs := h
theorem Holds.drewN (h : Holds w B A xs) (k : Nat) : Holds (w.drewN k) B A xs := h
theorem Holds.alloc (h : Holds w B A xs) (hB : B ≤ w.heap.size) (o : Obj) : Holds (w.alloc o) B A xs := h.keep fun p hp => World.cell?_alloc_lt w o p (by omega)
theorem Holds.at_ (h : Holds w B A xs) {k : Nat} (hk : k < xs.length) : ∃ b off u, A = some ⟨b, off, none⟩ ∧ b < B ∧ xs[k]? = some u ∧ w.cell? ⟨b, off + k, none⟩ = some u := by
  obtain ⟨b, off, e, hb, hc⟩ := h (by omega)
  exact ⟨b, off, xs[k], e, hb, List.getElem?_eq_getElem hk, hc k _ (List.getElem?_eq_getElem hk)⟩
theorem Holds.atMap {α : Type} {f : α → Value} {l : List α} (h : Holds w B A (l.map f)) {k : Nat} (hk : k < l.length) :
    ∃ b off u, A = some ⟨b, off, none⟩ ∧ b < B ∧ l[k]? = some u ∧ w.cell? ⟨b, off + k, none⟩ = some (f u) := by
  obtain ⟨b, off, e, hb, hc⟩ := h (by rw [List.length_map]; omega)
  exact ⟨b, off, l[k], e, hb, List.getElem?_eq_getElem hk, hc k _ (by rw [List.getElem?_map, List.getElem?_eq_getElem hk]; rfl)⟩
theorem Holds.of_own {base : Nat} {e : TypeId} {n c : Nat} (h : w.ownsRow base e 1 (.slice A n c) n xs) : Holds w w.heap.size A xs := fun hx => by
  have hn : 0 < n := by have := h.1; omega
  obtain ⟨g, cap, hv, _, hlt⟩ := h.form hn
  have hA : A = some ⟨g, 0, none⟩ := by injection hv
  subst hA
  exact ⟨g, 0, rfl, hlt, fun j u hu => by have := h.cells (g := g) rfl j u hu; rwa [addr_flat] at this⟩
end

theorem own_form {w : World} {base : Nat} {e : TypeId} {v : Value} {n : Nat} {xs : List Value} (h : w.ownsRow base e 1 v n xs) :
    ∃ A c, v = .slice A n c ∧ n ≤ c ∧ c ≤ maxLen ∧ Holds w w.heap.size A xs := by
  rcases h.2 with ⟨rfl, rfl⟩ | ⟨g, cap, cur, rfl, _, _, hnc, hm, _⟩
  · exact ⟨none, 0, rfl, Nat.le_refl _, Nat.zero_le _, Holds.of_own h⟩
  · exact ⟨_, cap, rfl, hnc, hm, Holds.of_own h⟩

theorem lt_of_cell {w : World} {p : Addr} {v : Value} (h : w.cell? p = some v) : p.block < w.heap.size := by
  rcases Nat.lt_or_ge p.block w.heap.size with hl | hg
  · exact hl
  · simp [World.cell?, Array.getElem?_eq_none hg] at h

theorem cell_new (w : World) (cs : Array Value) (t : TypeId) (g i : Nat) (v : Value) (hg : g = w.heap.size) (h : cs[i]? = some v) : (w.alloc (.cells cs t)).cell? ⟨g, i, none⟩ = some v := by
  subst hg
  rw [cell_of_row _ _ i cs t (0, 0) (heap_alloc_new w _), h]
theorem cell_old (w : World) (o : Obj) (p : Addr) (v : Value) (hp : p.block < w.heap.size) (h : w.cell? p = some v) : (w.alloc o).cell? p = some v := (World.cell?_alloc_lt w o p hp).trans h

theorem own_new (w : World) (base : Nat) (e : TypeId) (size g : Nat) (hg : g = w.heap.size) (hb : base ≤ g) : (w.alloc (.cells #[] e)).ownsRow base e size (.slice (some ⟨g, 0, none⟩) 0 0) 0 [] := by
  subst hg
  exact World.ownsRow_made w #[] 0 hb (by decide) (by simp)

/-- what the kit's opening of a slice that came in hands over -/
theorem Holds.of_came {w : World} {x : Addr} {vs : List Value} (h : ∀ i u, vs[i]? = some u → w.cell? (x.add i) = some u) : Holds w w.heap.size (some x) vs := fun hx => by
  obtain ⟨b, off, spot⟩ := x
  have h0 := h 0 vs[0] (List.getElem?_eq_getElem hx)
  have hs : spot = none := by simpa [Addr.add] using World.cell?_spot h0
  subst hs
  exact ⟨b, off, rfl, lt_of_cell h0, fun j u hu => by have := h j u hu; rwa [addr_flat] at this⟩

theorem came_ints {w : World} {x : Addr} {k : IntKind} {zs : List Int} {len : Nat} (h : ∀ i, i < zs.length → w.cell? (x.add i) = some (.int k (zs.getD i 0))) :
    Holds w w.heap.size (some x) ((zs.take len).map (Value.int k)) := by
  refine Holds.of_came fun i u hu => ?_
  rw [List.getElem?_map, List.getElem?_take] at hu
  split at hu
  · rcases Nat.lt_or_ge i zs.length with hl | hg
    · rw [List.getElem?_eq_getElem hl] at hu
      simp only [Option.map_some, Option.some.injEq] at hu
      rw [h i hl, ← hu]
      simp [List.getD_eq_getElem?_getD, List.getElem?_eq_getElem hl]
    · rw [List.getElem?_eq_none hg] at hu; cases hu
  · cases hu

theorem came_strings {w : World} {x : Addr} {ss : List ByteArray} {len : Nat} (h : ∀ i, i < ss.length → w.cell? (x.add i) = some (.string (ss.getD i ByteArray.empty))) :
    Holds w w.heap.size (some x) ((ss.take len).map Value.string) := by
  refine Holds.of_came fun i u hu => ?_
  rw [List.getElem?_map, List.getElem?_take] at hu
  split at hu
  · rcases Nat.lt_or_ge i ss.length with hl | hg
    · rw [List.getElem?_eq_getElem hl] at hu
      simp only [Option.map_some, Option.some.injEq] at hu
      rw [h i hl, ← hu]
      simp [List.getD_eq_getElem?_getD, List.getElem?_eq_getElem hl]
    · rw [List.getElem?_eq_none hg] at hu; cases hu
  · cases hu

theorem below_drewN {B : Nat} {a w : World} (h : Below B a w) (n : Nat) : Below B a (w.drewN n) := ⟨h.os, h.tape, h.output, h.size, h.block⟩

/-- block g is just the cells cs of element type t, none of them frozen -/
def Blk (w : World) (g : Nat) (t : TypeId) (cs : Array Value) : Prop := w.heap[g]? = some (.cells cs t (0, 0))
section
variable {w w' : World} {g : Nat} {t : TypeId} {cs : Array Value}
theorem Blk.lt (h : Blk w g t cs) : g < w.heap.size := by
  rcases Nat.lt_or_ge g w.heap.size with hl | hg
  · exact hl
  · unfold Blk at h; rw [Array.getElem?_eq_none hg] at h; cases h
theorem Blk.cell (h : Blk w g t cs) (i : Nat) : w.cell? ⟨g, i, none⟩ = cs[i]? := cell_of_row w g i cs t (0, 0) h
theorem Blk.frozen (h : Blk w g t cs) (i : Nat) : w.frozen? ⟨g, i, none⟩ = false := by
  unfold Blk at h
  simp [World.frozen?, h]
theorem Blk.new (w : World) (t : TypeId) (cs : Array Value) : Blk (w.alloc (.cells cs t)) w.heap.size t cs := heap_alloc_new w _
theorem Blk.newAt (w : World) (t : TypeId) (cs : Array Value) {g : Nat} (hg : g = w.heap.size) : Blk (w.alloc (.cells cs t)) g t cs := by subst hg; exact heap_alloc_new w _
theorem Blk.drewN (h : Blk w g t cs) (n : Nat) : Blk (w.drewN n) g t cs := h
theorem Blk.alloc (h : Blk w g t cs) (o : Obj) : Blk (w.alloc o) g t cs := (Below.heap_alloc w o g h.lt).trans h
theorem Blk.put (h : Blk w g t cs) (i : Nat) (u : Value) : Blk (w.setCell ⟨g, i, none⟩ u) g t (cs.setIfInBounds i u) := by
  unfold Blk at h ⊢
  simp [World.setCell, Array.getElem?_modify, h]
theorem Blk.far (h : Blk w g t cs) {p : Addr} (hp : g ≠ p.block) (u : Value) : Blk (w.setCell p u) g t cs := (Below.heap_setCell w p u g hp).trans h
theorem Blk.below {B : Nat} (h : Blk w g t cs) (hb : Below B w w') (hg : g < B) : Blk w' g t cs := (hb.block g hg).trans h
theorem Blk.grown {row : Option Nat} (h : Blk w g t cs) (hb : w.grownBy w' row) (hg : some g ≠ row) : Blk w' g t cs := (hb.block g h.lt hg).trans h
theorem Blk.holds (h : Blk w g t cs) : Holds w (g + 1) (some ⟨g, 0, none⟩) cs.toList := fun _ =>
  ⟨g, 0, rfl, by omega, fun j u hu => by rw [h.cell]; simpa using hu⟩
theorem Blk.own {base n : Nat} (h : Blk w g t cs) (hb : base ≤ g) (hn : n ≤ maxLen) (hs : cs.size = n) : w.ownsRow base t 1 (.slice (some ⟨g, 0, none⟩) n n) n cs.toList :=
  ⟨by simp [hs], .inr ⟨g, n, cs, rfl, hb, h, Nat.le_refl _, hn, by omega, by rw [List.take_of_length_le (by simp [hs])]⟩⟩
end
theorem grown_setCell (w : World) (p : Addr) (u : Value) : w.grownBy (w.setCell p u) (some p.block) :=
  ⟨rfl, rfl, rfl, by simp [World.setCell], fun k _ hne => Below.heap_setCell w p u k (fun e => hne (by rw [e]))⟩
theorem grown_trans {a b c : World} {row : Option Nat} (h : a.grownBy b row) (k : b.grownBy c row) : a.grownBy c row :=
  ⟨k.os.trans h.os, k.tape.trans h.tape, k.output.trans h.output, Nat.le_trans h.size k.size, fun i hi hne => (k.block i (Nat.lt_of_lt_of_le hi h.size) hne).trans (h.block i hi hne)⟩
theorem below_of_grown {B : Nat} {a w w' : World} {g : Nat} (h : Below B a w) (hg : w.grownBy w' (some g)) (hB : B ≤ w.heap.size) (hr : B ≤ g) : Below B a w' :=
  h.grown hg hB (fun k hk => by injection hk with hk; omega)

theorem own_below {w w' : World} {base : Nat} {e : TypeId} {size n : Nat} {v : Value} {xs : List Value} (h : w.ownsRow base e size v n xs) (hb : Below w.heap.size w w') : w'.ownsRow base e size v n xs := by
  have hg : w.grownBy w' none := ⟨hb.os, hb.tape, hb.output, hb.size, fun k hk _ => hb.block k hk⟩
  refine h.kept hg ?_
  cases hv : v.ownBlock with
  | none => exact .inl rfl
  | some g => exact .inr (by simp)

theorem own_blk_ne {w : World} {g : Nat} {t : TypeId} {cs : Array Value} {base : Nat} {e : TypeId} {size n : Nat} {v : Value} {xs : List Value} (h : w.ownsRow base e size v n xs) (hg : Blk w g t cs) (hne : e ≠ t) : some g ≠ v.ownBlock := by
  rcases h.2 with ⟨rfl, _⟩ | ⟨g', cap, cur, rfl, _, hh, _⟩
  · simp [Value.ownBlock]
  · intro he
    have : g = g' := by simpa [Value.ownBlock] using he
    subst this
    unfold Blk at hg
    rw [hg] at hh
    injection hh with hh
    injection hh with _ ht
    exact hne ht.symm

/-- whether two lists are the same, as a Bool that the walk leaves alone -/
def same {α : Type} [DecidableEq α] (a b : List α) : Bool := decide (a = b)
theorem same_self {α : Type} [DecidableEq α] (a : List α) : same a a = true := by simp [same]
theorem same_true {α : Type} [DecidableEq α] {a b : List α} : same a b = true ↔ a = b := by simp [same]
theorem same_false {α : Type} [DecidableEq α] {a b : List α} (h : a ≠ b) : same a b = false := by simp [same, h]
theorem same_false_len {α : Type} [DecidableEq α] {a b : List α} (h : a.length ≠ b.length) : same a b = false := same_false (fun e => h (by rw [e]))
theorem same_false_at {α : Type} [DecidableEq α] {a b : List α} {k : Nat} {x y : α} (ha : a[k]? = some x) (hb : b[k]? = some y) (h : x ≠ y) : same a b = false :=
  same_false (fun e => h (by subst e; rw [ha] at hb; exact Option.some.inj hb))
theorem take_same {α : Type} {a b : List α} {k : Nat} {x : α} (h : a.take k = b.take k) (ha : a[k]? = some x) (hb : b[k]? = some x) : a.take (k + 1) = b.take (k + 1) := by
  rw [List.take_add_one, List.take_add_one, h, ha, hb]
theorem same_of_take {α : Type} [DecidableEq α] {a b : List α} {k : Nat} (h : a.take k = b.take k) (ha : a.length ≤ k) (hb : b.length ≤ k) : same a b = true := by
  rw [List.take_of_length_le ha, List.take_of_length_le hb] at h
  rw [h, same_self]

theorem bytes_eq {s t : ByteArray} : s.toList = t.toList ↔ s = t := by
  rw [Go.ByteArray.toList_eq, Go.ByteArray.toList_eq]
  constructor
  · intro h
    cases s; cases t
    simp only [ByteArray.mk.injEq]
    exact Array.ext' h
  · intro h; rw [h]
theorem bytes_beq (s t : ByteArray) : (s.toList == t.toList) = decide (s = t) := by
  rw [Bool.eq_iff_iff, beq_iff_eq, decide_eq_true_iff, bytes_eq]
theorem bytes_ne {s t : ByteArray} (h : s ≠ t) : (s.toList == t.toList) = false := by rw [bytes_beq]; simp [h]

/-- the length of the text in a slot: for a loop's measure -/
def strLen : Value → Nat | .string s => s.size | _ => 0

theorem ret_bool {a b : Bool} (h : a = b) : Ending.returned (.bool a) = .returned (.bool b) := by rw [h]
theorem ret_int {k : IntKind} {a b : Int} (h : a = b) : Ending.returned (.int k a) = .returned (.int k b) := by rw [h]

end Stamp
