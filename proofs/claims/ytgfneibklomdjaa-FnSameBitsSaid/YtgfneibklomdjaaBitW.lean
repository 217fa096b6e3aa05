/- The contracts of the bit set's functions. -/
import Derived.Test.YtgfneibklomdjaaChecked
import Derived.WalkKit
import Derived.BigQuiet
import Derived.Deep.QuietTactic
import Derived.Deep.OwnRows
import Derived.Test.YtgfneibklomdjaaApp
import Derived.Test.YtgfneibklomdjaaBitP
import Derived.Test.YtgfneibklomdjaaPoints
namespace Go.Proofs.Ytgfneibklomdjaa
open Go.RowKit Stamp
set_option linter.unusedVariables false

theorem has27 (g m z : Nat) (b : Nat) (w : World) (hz : z < 300) (hm : z / 8 < m) (hm2 : m ≤ 38) (hb : b < 256) (hc : w.cell? ⟨g, z / 8, none⟩ = some (.int .u8 (b : Int))) (hg : g < w.heap.size) :
   Calls Try.prog 27 #[.agg #[.slice (some ⟨g, 0, none⟩) m m], .int .u64 (z : Int)] w fun e w' => e = .returned (.bool (b.testBit (z % 8))) ∧ Below w.heap.size w w' := by
  have hand := and7 z hz
  have ht := tst8 b (z % 8) hb (Nat.mod_lt _ (by omega))
  have hi : ((z : Int) / 8) < (m : Int) := by omega
  have hi0 : (0 : Int) ≤ (z : Int) / 8 := by omega
  have htn : ((z : Int) / 8).toNat = z / 8 := by omega
  rcases (show z % 8 = 0 ∨ z % 8 = 1 ∨ z % 8 = 2 ∨ z % 8 = 3 ∨ z % 8 = 4 ∨ z % 8 = 5 ∨ z % 8 = 6 ∨ z % 8 = 7 by omega) with h | h | h | h | h | h | h | h
  all_goals
    rw [h] at hand ht ⊢
    simp only [Nat.reducePow, Int.cast_ofNat_Int] at hand ht
    have HT := Lib.hid ht
    clear h ht
    go_enter Try.func27, Try.ntmps27
    go_wp2
    go_ret
    refine ⟨ret_bool ?_, (Below.refl _ _).alloc (Nat.le_refl _) _⟩
    first | rfl | exact HT.out | (have := HT.out; simp at this ⊢; first | exact this | (rw [← this]; done) | skip)

def SetPost (g : Nat) (bs : List Nat) (z : Nat) (w : World) (e : Ending) (w' : World) : Prop :=
  (∃ v, e = .returned v) ∧ Blk w' g 5 (u8s (setB bs z)) ∧ w.grownBy w' (some g)

set_option maxHeartbeats 400000 in
theorem set33 (g m z : Nat) (bs : List Nat) (w : World) (hz : z < 300) (hm : z / 8 < m) (hm2 : m ≤ 38) (hl : bs.length = m) (hb : ∀ b ∈ bs, b < 256) (hk : Blk w g 5 (u8s bs)) :
   Calls Try.prog 33 #[.agg #[.slice (some ⟨g, 0, none⟩) m m], .int .u64 (z : Int)] w (SetPost g bs z w) := by
  have hlt : z / 8 < bs.length := by omega
  have hc : w.cell? ⟨g, z / 8, none⟩ = some (.int .u8 ((bs.getD (z / 8) 0 : Nat) : Int)) := (hk.cell _).trans (u8s_at bs _ hlt)
  have hf := hk.frozen (z / 8)
  have hgl := hk.lt
  have hget : bs.getD (z / 8) 0 < 256 := by
    rw [List.getD_eq_getElem?_getD, List.getElem?_eq_getElem hlt]; exact hb _ (List.getElem_mem hlt)
  have hand := and7 z hz
  have ho := or8 (bs.getD (z / 8) 0) (z % 8) hget (Nat.mod_lt _ (by omega))
  have hend : Hid (∀ u, u = Value.int .u8 ((bs.getD (z / 8) 0 ||| 2 ^ (z % 8) : Nat) : Int) → Blk ((w.setCell ⟨g, z / 8, none⟩ u).alloc (.cells #[.slice (some ⟨g, 0, none⟩) m m] 46)) g 5 (u8s (setB bs z))) := Lib.hid (fun u hu => by
    subst hu
    have := hk.put (z / 8) (.int .u8 ((bs.getD (z / 8) 0 ||| 2 ^ (z % 8) : Nat) : Int))
    rw [u8s_set] at this
    exact this.alloc _)
  have Hk := Lib.hid hk
  clear hk
  generalize hbe : bs.getD (z / 8) 0 = b at *
  have Hbe := Lib.hid hbe
  clear hbe
  have hi : ((z : Int) / 8) < (m : Int) := by omega
  have hi0 : (0 : Int) ≤ (z : Int) / 8 := by omega
  have htn : ((z : Int) / 8).toNat = z / 8 := by omega
  have Hl := Lib.hid hl
  clear hl
  rcases (show z % 8 = 0 ∨ z % 8 = 1 ∨ z % 8 = 2 ∨ z % 8 = 3 ∨ z % 8 = 4 ∨ z % 8 = 5 ∨ z % 8 = 6 ∨ z % 8 = 7 by omega) with h | h | h | h | h | h | h | h
  all_goals
    rw [h] at hand ho hend
    simp only [Nat.reducePow, Int.cast_ofNat_Int] at hand ho
    have HO := Lib.hid ho
    clear h ho
    go_enter Try.func33, Try.ntmps33
    go_wp2
    go_end0
    exact ⟨⟨_, rfl⟩, hend.out _ (congrArg (Value.int IntKind.u8) HO.out), grown_trans (grown_setCell _ _ _) (World.grownBy_alloc _ _ _)⟩

def BitsPost (m : Nat) (zs : List Nat) (w : World) (e : Ending) (w' : World) : Prop :=
  ∃ g, e = .returned (.agg #[.slice (some ⟨g, 0, none⟩) m m]) ∧ w.heap.size ≤ g ∧ Blk w' g 5 (u8s (fillB m zs)) ∧ Below w.heap.size w w'

theorem new32 (n : Nat) (w : World) (hn : n ≤ 300) : Calls Try.prog 32 #[.int .u64 (n : Int)] w (BitsPost ((n + 7) / 8) [] w) := by
  have hmk := fun W => run_make_row' (P := Try.prog) 44 5 (.int .u8 0) 1 Try.underlying44 (by kernel_rfl) rfl .u64 .u64 ((n + 7) / 8) (by omega) (by omega) W
  rw [show ((((n + 7) / 8 : Nat)) : Int) = ((n : Int) + 7) / 8 from by omega] at hmk
  go_enter Try.func32, Try.ntmps32
  go_wp2
  refine bodyPost_ret (v := .agg #[.slice (some ⟨w.heap.size + 1, 0, none⟩) ((n + 7) / 8) ((n + 7) / 8)]) (by simp [results, Try.results32, go_sem]) rfl ?_
  refine ⟨w.heap.size + 1, rfl, by omega, ?_, ((Below.refl _ _).alloc (Nat.le_refl _) _).alloc (by simp) _⟩
  rw [fill_nil]
  have := Blk.new (w.alloc (.cells #[.slice (some ⟨w.heap.size + 1, 0, none⟩) ((n + 7) / 8) ((n + 7) / 8)] 46)) 5 (madeCells #[.int .u8 0] ((n + 7) / 8))
  simpa using this

set_option maxHeartbeats 400000 in
theorem bits25 (n : Nat) (A : Option Addr) (c : Nat) (zs : List Nat) (hz : ∀ z ∈ zs, z < n) (hn : n ≤ 300) (hlen : zs.length ≤ maxLen) (w : World) (W : Nat) (hW : W ≤ w.heap.size) (ha : Holds w W A (zs.map natI)) :
    Calls Try.prog 25 #[.int .i64 (n : Int), .slice A zs.length c] w (BitsPost ((n + 7) / 8) zs w) := by
  unfold maxLen at hlen
  have Hz := Lib.hid hz
  clear hz
  go_enter Try.func25, Try.ntmps25
  go_wp2_with fail
  refine (new32 n _ hn).mono ?_
  rintro e w1 ⟨g, rfl, hg, hk, hb⟩
  have hB4 : Blk w1 w.heap.size 46 #[.slice none 0 0] := (Blk.new w 46 #[.slice none 0 0]).below hb (by simp)
  have hb1 : Below w.heap.size w w1 := ((Below.refl _ w).alloc (Nat.le_refl _) _).trans (hb.mono (by simp))
  have hg1 := hk.lt
  simp at hg
  have hs1 := hB4.lt
  clear hb
  go_wp2
  generalize hw2 : w1.alloc (Obj.cells #[Value.slice (some ⟨g, 0, none⟩) ((n + 7) / 8) ((n + 7) / 8)] 46) = w2
  have hk2 : Blk w2 g 5 (u8s (fillB ((n + 7) / 8) [])) := by rw [← hw2]; exact hk.alloc _
  have hB42 : Blk w2 w.heap.size 46 #[.slice none 0 0] := by rw [← hw2]; exact hB4.alloc _
  have hB52 : Blk w2 w1.heap.size 46 #[.slice (some ⟨g, 0, none⟩) ((n + 7) / 8) ((n + 7) / 8)] := by rw [← hw2]; exact Blk.new _ _ _
  have hb2 : Below w.heap.size w w2 := by rw [← hw2]; exact hb1.alloc hb1.size _
  clear hw2 hk hB4 hb1
  go_loopw [13] (fun i wr => ∃ k : Nat, k ≤ zs.length ∧ i = .int .i64 k ∧ Blk wr g 5 (u8s (fillB ((n + 7) / 8) (zs.take k))) ∧ Blk wr w.heap.size 46 #[.slice none 0 0] ∧ Blk wr w1.heap.size 46 #[.slice (some ⟨g, 0, none⟩) ((n + 7) / 8) ((n + 7) / 8)] ∧ Below w.heap.size w wr) (fun i _ => zs.length - (intOf i).toNat)
  case atStart => exact ⟨0, Nat.zero_le _, rfl, hk2, hB42, hB52, hb2⟩
  case round =>
    clear hk2 hB42 hB52 hb2
    obtain ⟨k, hk, rfl, hkg, hk4, hk5, hb⟩ := hrel
    have c5 : wr.cell? ⟨w1.heap.size, 0, none⟩ = some (.slice (some ⟨g, 0, none⟩) ((n + 7) / 8) ((n + 7) / 8)) := hk5.cell 0
    by_cases hlt : k < zs.length
    · obtain ⟨b1, o1, z, rfl, hbl, hx, hc1⟩ := ha.atMap (k := k) hlt
      have hc2 : wr.cell? ⟨b1, o1 + k, none⟩ = some (.int .i64 (z : Int)) := (hb.cell (by omega : b1 < w.heap.size)).trans hc1
      have hzn := Hz.out z (List.mem_of_getElem? hx)
      have HX := Lib.hid hx
      have HK := Lib.hid (show fillB ((n + 7) / 8) (zs.take (k + 1)) = setB (fillB ((n + 7) / 8) (zs.take k)) z by rw [List.take_add_one, hx]; exact fillB_snoc _ _ _)
      clear hx hc1 ha
      go_wp2_with fail
      refine (set33 g ((n + 7) / 8) z (fillB ((n + 7) / 8) (zs.take k)) wr (by omega) (by omega) (by omega) (fillB_len _ _) (fillB_lt _ _) hkg).mono ?_
      rintro e w3 ⟨⟨v, rfl⟩, hk', hg'⟩
      rw [← HK.out] at hk'
      have hk4' := hk4.grown hg' (by simp; omega)
      have hk5' := hk5.grown hg' (by simp; omega)
      have hb' := below_of_grown hb hg' hb.size (by omega)
      clear hk4 hk5 hb hg' hkg
      go_wp2
      go_roundw
      case rel => exact ⟨k + 1, by omega, by go_num, hk', hk4', hk5', hb'⟩
      case measure => simp [intOf]; omega
    · have HT := Lib.hid (show zs.take k = zs from List.take_of_length_le (by omega))
      have c4 : wr.cell? ⟨w.heap.size, 0, none⟩ = some (.slice none 0 0) := hk4.cell 0
      have f4 := hk4.frozen 0
      go_wp2
      refine bodyPost_ret (v := .agg #[.slice (some ⟨g, 0, none⟩) ((n + 7) / 8) ((n + 7) / 8)]) (by simp [results, Try.results25, go_sem, c4]) rfl ⟨g, rfl, by omega, ?_, hb.setCell (by simp) _⟩
      rw [HT.out] at hkg
      exact hkg.far (by simp; omega) _
end Go.Proofs.Ytgfneibklomdjaa
