/- The contract of Joiner's 'Done'. -/
import Derived.Test.YtmoaeeiggkaicaaJoC
import Derived.Shelf.Spec.SlicesInsert
import Derived.Lib.BufferWrite
import Derived.Laws.CopyRow
import Derived.Deep.RegionLaw
import Derived.BigRegion
namespace Go.Proofs.Ytmoaeeiggkaicaa
open Go.RowKit Stamp
set_option linter.unusedVariables false
attribute [local go_sem ↓] Go.wp_at_zero Go.wp_at_succ

theorem bytesV_len (l : List UInt8) : (bytesV l).length = l.length := by simp [bytesV]
theorem Dat.holds {w : World} {x : Itm} (h : Dat w x) : Holds w w.heap.size x.A (bytesV x.l) := fun _ => by
  obtain ⟨g, cs, fz, e1, e2, e3⟩ := h
  exact ⟨g, 0, e1, (Array.getElem?_eq_some_iff.1 e2).1, fun i u hu => by rw [Nat.zero_add, cell_of_row w g i cs 5 fz e2]; exact e3 i u hu⟩
theorem cov_single {acc l : List UInt8} (h : Cov acc [(l, 0)]) : l = acc := by
  obtain ⟨h1, h2⟩ := h
  have hp := h1 (l, 0) (by simp)
  have e : acc.take l.length = l := by simpa using hp.1
  rcases Nat.lt_or_ge l.length acc.length with hl | hl
  · obtain ⟨p, hm, _, h4⟩ := h2 l.length hl
    rw [List.mem_singleton.1 hm] at h4
    simp at h4
  · rw [← e]; exact List.take_of_length_le hl

/-- what 'Done' hands back -/
def DonePost (acc : List UInt8) (w : World) (e : Ending) (w' : World) : Prop :=
  ∃ A c, e = .returned (.slice A acc.length c) ∧ Holds w' w'.heap.size A (bytesV acc) ∧ Below w.heap.size w w'

/-- the cells of the rows that the Joiner holds -/
theorem Holds.sc {w : World} {B : Nat} {A : Option Addr} {l : List (ByteArray × Nat)} (h : Holds w B A (sCells l)) {i : Nat} {x : ByteArray × Nat} (hx : l[i]? = some x) :
    ∃ b off, A = some ⟨b, off, none⟩ ∧ b < B ∧ w.cell? ⟨b, off + i * 2, none⟩ = some (.string x.1) ∧ w.cell? ⟨b, off + (i * 2 + 1), none⟩ = some (.int .u32 (x.2 : Int)) := by
  have hl : ∀ (l : List (ByteArray × Nat)) (i : Nat) (x : ByteArray × Nat), l[i]? = some x → (sCells l)[i * 2]? = some (.string x.1) ∧ (sCells l)[i * 2 + 1]? = some (.int .u32 (x.2 : Int)) := by
    intro l
    induction l with
    | nil => intro i x h; cases h
    | cons y l ih =>
      intro i x h
      match i, h with
      | 0, h => simp at h; subst h; exact ⟨rfl, rfl⟩
      | i + 1, h =>
        have := ih i x (by simpa using h)
        rw [show (i + 1) * 2 = i * 2 + 2 by omega, show i * 2 + 2 + 1 = i * 2 + 1 + 2 by omega]
        exact this
  obtain ⟨h1, h2⟩ := hl l i x hx
  obtain ⟨b, off, e, hb, hc⟩ := h (by
    rcases Nat.eq_zero_or_pos (sCells l).length with h0 | h0
    · rw [List.eq_nil_of_length_eq_zero h0] at h1; cases h1
    · exact h0)
  exact ⟨b, off, e, hb, hc _ _ h1, hc _ _ h2⟩
theorem Holds.bc {w : World} {B : Nat} {A : Option Addr} {l : List Itm} (h : Holds w B A (bCells l)) {i : Nat} {x : Itm} (hx : l[i]? = some x) :
    ∃ b off, A = some ⟨b, off, none⟩ ∧ b < B ∧ w.cell? ⟨b, off + i * 2, none⟩ = some (.slice x.A x.l.length x.c) ∧ w.cell? ⟨b, off + (i * 2 + 1), none⟩ = some (.int .u32 (x.off : Int)) := by
  have hl : ∀ (l : List Itm) (i : Nat) (x : Itm), l[i]? = some x → (bCells l)[i * 2]? = some (.slice x.A x.l.length x.c) ∧ (bCells l)[i * 2 + 1]? = some (.int .u32 (x.off : Int)) := by
    intro l
    induction l with
    | nil => intro i x h; cases h
    | cons y l ih =>
      intro i x h
      match i, h with
      | 0, h => simp at h; subst h; exact ⟨rfl, rfl⟩
      | i + 1, h =>
        have := ih i x (by simpa using h)
        rw [show (i + 1) * 2 = i * 2 + 2 by omega, show i * 2 + 2 + 1 = i * 2 + 1 + 2 by omega]
        exact this
  obtain ⟨h1, h2⟩ := hl l i x hx
  obtain ⟨b, off, e, hb, hc⟩ := h (by
    rcases Nat.eq_zero_or_pos (bCells l).length with h0 | h0
    · rw [List.eq_nil_of_length_eq_zero h0] at h1; cases h1
    · exact h0)
  exact ⟨b, off, e, hb, hc _ _ h1, hc _ _ h2⟩

set_option maxRecDepth 100000 in
set_option maxHeartbeats 1000000 in
theorem Done_fast (w : World) (B j : Nat) (acc : List UInt8) (x : Itm) (h : JS w B j acc [] [x]) (h0 : x.off = 0) (hC : Cov acc (pieces [] [x])) :
    Calls Try.prog 15 #[.pointer (some ⟨j, 0, none⟩)] w (DonePost acc w) := by
  have hl : x.l = acc := cov_single (by simpa [pieces, h0] using hC)
  obtain ⟨vs, vb, hb, h1, h2⟩ := h.st
  obtain ⟨A1, c1, rfl, _, _, _⟩ := own_form2 h1
  obtain ⟨A2, c2, rfl, _, _, hh⟩ := own_form2 h2
  obtain ⟨b, off, rfl, hbl, g1, g2⟩ := Holds.bc hh (i := 0) (x := x) rfl
  obtain ⟨k0, k1, k2, k3, _⟩ := blk_cells hb
  have hd := Lib.hid (h.dat x (by simp)).holds
  have f1 : w.cell? ⟨b, off, none⟩ = some (.slice x.A acc.length x.c) := by simpa [hl] using g1
  have f2 : w.cell? ⟨b, off + 1, none⟩ = some (.int .u32 0) := by simpa [h0] using g2
  have HL := Lib.hid hl
  clear g1 g2 hb h1 h2 hh h hC hl h0
  simp only [List.length_nil, List.length_cons, Nat.zero_add] at k0 k1
  go_enter Try.func15, Try.ntmps15
  go_wp2
  go_ret
  exact ⟨x.A, x.c, rfl, by rw [← HL.out]; exact hd.out, Below.refl _ _⟩

/-- the buffer agrees with acc wherever a piece of those that are done lies -/
def Buf (w : World) (g : Nat) (acc : List UInt8) (done : List (List UInt8 × Nat)) : Prop :=
  ∃ cs : List Value, Blk w g 5 cs.toArray ∧ cs.length = acc.length ∧ ∀ p ∈ done, ∀ i, p.2 ≤ i → i < p.2 + p.1.length → cs[i]? = (bytesV acc)[i]?
theorem Buf.finish {w : World} {g : Nat} {acc : List UInt8} {ps : List (List UInt8 × Nat)} (h : Buf w g acc ps) (hC : Cov acc ps) : Holds w w.heap.size (some ⟨g, 0, none⟩) (bytesV acc) := by
  obtain ⟨cs, h1, h2, h3⟩ := h
  have e : cs = bytesV acc := by
    apply List.ext_getElem?
    intro i
    rcases Nat.lt_or_ge i acc.length with hi | hi
    · obtain ⟨p, hp, h4, h5⟩ := hC.2 i hi
      exact h3 p hp i h4 h5
    · rw [List.getElem?_eq_none (by omega), List.getElem?_eq_none (by rw [bytesV_len]; exact hi)]
  subst e
  exact fun _ => ⟨g, 0, rfl, h1.lt, fun i u hu => by rw [Nat.zero_add, h1.cell]; simpa using hu⟩
/-- what a copy of a piece makes of the buffer's cells -/
def spl (cs : List Value) (off : Nat) (l : List UInt8) : List Value := cs.take off ++ bytesV l ++ cs.drop (off + l.length)
theorem spl_len {cs : List Value} {off : Nat} {l : List UInt8} (h : off + l.length ≤ cs.length) : (spl cs off l).length = cs.length := by
  simp [spl, bytesV_len]; omega
theorem spl_at {acc l : List UInt8} {off : Nat} {cs : List Value} (hp : PartOf acc l off) (hl : cs.length = acc.length) (i : Nat) : (spl cs off l)[i]? = if off ≤ i ∧ i < off + l.length then (bytesV acc)[i]? else cs[i]? := by
  obtain ⟨h1, h2⟩ := hp
  have ht : (cs.take off).length = off := by rw [List.length_take]; omega
  unfold spl
  by_cases ha : i < off
  · rw [if_neg (by omega), List.append_assoc, List.getElem?_append_left (by omega), List.getElem?_take, if_pos ha]
  · by_cases hb : i < off + l.length
    · rw [if_pos ⟨by omega, hb⟩, List.getElem?_append_left (by rw [List.length_append, ht, bytesV_len]; omega), List.getElem?_append_right (by omega), ht]
      have : (bytesV acc)[i]? = (((bytesV acc).drop off).take l.length)[i - off]? := by
        rw [List.getElem?_take, if_pos (by omega), List.getElem?_drop]; congr 1; omega
      rw [this]
      have e : ((bytesV acc).drop off).take l.length = bytesV l := by
        unfold bytesV
        rw [← List.map_drop, ← List.map_take, h1]
      rw [e]
    · rw [if_neg (by omega), List.getElem?_append_right (by rw [List.length_append, ht, bytesV_len]; omega), List.length_append, ht, bytesV_len, List.getElem?_drop]
      congr 1; omega
theorem agree_more {acc l : List UInt8} {off : Nat} {cs : List Value} {done : List (List UInt8 × Nat)} (hp : PartOf acc l off) (hl : cs.length = acc.length) (h : ∀ p ∈ done, ∀ i, p.2 ≤ i → i < p.2 + p.1.length → cs[i]? = (bytesV acc)[i]?) :
    ∀ p ∈ done ++ [(l, off)], ∀ i, p.2 ≤ i → i < p.2 + p.1.length → (spl cs off l)[i]? = (bytesV acc)[i]? := by
  intro p hm i h1 h2
  rw [spl_at hp hl]
  by_cases hc : off ≤ i ∧ i < off + l.length
  · rw [if_pos hc]
  · rw [if_neg hc]
    rcases List.mem_append.1 hm with hm | hm
    · exact h p hm i h1 h2
    · rw [List.mem_singleton.1 hm] at h1 h2
      exact absurd ⟨h1, h2⟩ hc
end Go.Proofs.Ytmoaeeiggkaicaa
