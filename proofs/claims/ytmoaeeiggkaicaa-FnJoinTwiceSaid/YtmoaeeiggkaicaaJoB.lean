/- The contracts of Joiner's 'AddString', 'AddBytes'. -/
import Derived.Test.YtmoaeeiggkaicaaJoA
import Derived.Deep.RegionLaw
import Derived.BigRegion
namespace Go.Proofs.Ytmoaeeiggkaicaa
open Go.RowKit Stamp
set_option linter.unusedVariables false
attribute [local go_sem ↓] Go.wp_at_zero Go.wp_at_succ

set_option maxRecDepth 100000 in
set_option maxHeartbeats 4000000 in
theorem AddS (w : World) (B j : Nat) (acc : List UInt8) (ss : List (ByteArray × Nat)) (bb : List Itm) (s : ByteArray) (h : JS w B j acc ss bb) (hsz : s.size ≤ 16777216) (hn : acc.length ≤ 33554432) (hk : ss.length ≤ 33554432) (hBw : B ≤ w.heap.size) :
    Calls Try.prog 16 #[.pointer (some ⟨j, 0, none⟩), .string s] w fun e w' => e = .returned (.tuple #[]) ∧ JS w' B j (acc ++ s.data.toList) (ss ++ [(s, acc.length)]) bb ∧ Below B w w' := by
  obtain ⟨i0, hi0, hz0, hz1, hz2⟩ := info_parts infoJS
  obtain ⟨vs, vb, hb, ho1, ho2⟩ := h.st
  have hjB := h.hB
  have hdat := Lib.hid h.dat
  have hsl : Hid (s.data.toList.length = s.size) := Lib.hid (by simp)
  clear h
  obtain ⟨n, Hn⟩ : ∃ n, Hid (n = acc.length) := ⟨_, Lib.hid rfl⟩
  obtain ⟨la, Hla⟩ : ∃ la, Hid (la = (lastB acc).toNat) := ⟨_, Lib.hid rfl⟩
  obtain ⟨k, Hk⟩ : ∃ k, Hid (k = ss.length) := ⟨_, Lib.hid rfl⟩
  obtain ⟨k2, Hk2⟩ : ∃ k2, Hid (k2 = bb.length) := ⟨_, Lib.hid rfl⟩
  obtain ⟨xs, Hxs⟩ : ∃ xs, Hid (xs = (sCells ss)) := ⟨_, Lib.hid rfl⟩
  obtain ⟨ys, Hys⟩ : ∃ ys, Hid (ys = (bCells bb)) := ⟨_, Lib.hid rfl⟩
  rw [← Hn.out, ← Hla.out] at hb
  rw [← Hk.out, ← Hxs.out] at ho1
  rw [← Hk2.out, ← Hys.out] at ho2
  rw [← Hn.out] at hn
  rw [← Hk.out] at hk
  obtain ⟨A0, cp0, rfl, hcpA, hcpB, _⟩ := own_form2 ho1
  have hbl := blk_cells hb
  obtain ⟨c0, c1, c2, c3, fz⟩ := hbl
  have f3 := fz 3
  clear fz
  have hjl0 := hb.lt
  obtain ⟨n2, Hn2⟩ : ∃ n2, Hid (n2 = n + s.size) := ⟨_, Lib.hid rfl⟩
  have hn2 : (n : Int) + (s.size : Int) = (n2 : Int) := by rw [Hn2.out]; simp
  by_cases h0 : 0 < s.size
  · have h0' : (0 : Int) < (s.size : Int) := by omega
    obtain ⟨hk0, hx⟩ := lastB_at h0
    have Hx := Lib.hid hx
    clear hx
    obtain ⟨la2, Hla2⟩ : ∃ la2, Hid (la2 = s[s.size - 1].toNat) := ⟨_, Lib.hid rfl⟩
    have hla2 : (s[s.size - 1].toNat : Int) = (la2 : Int) := by rw [Hla2.out]
    have hbW := hb.put 3 (.int .u8 (la2 : Int))
    have hoW := own_set ho1 hb (by decide) 3 (.int .u8 (la2 : Int))
    have hoW2 := own_set ho2 hb (by decide) 3 (.int .u8 (la2 : Int))
    have hkW := K5.set hb (by decide) 3 (.int .u8 (la2 : Int))
    have hbelW := (Below.refl B w).setCell (p := ⟨j, 3, none⟩) hjB (.int .u8 (la2 : Int))
    go_enter Try.func16, Try.ntmps16
    go_wp2
    generalize hW : w.setCell ⟨j, 3, none⟩ (.int .u8 (la2 : Int)) = W at *
    clear hW c0 c1 c2 c3 f3 hb ho1 ho2
    have hBW : B ≤ W.heap.size := Nat.le_trans hBw hbelW.size
    have hbW : Blk W j 41 #[.slice A0 k cp0, vb, .int .u32 (n : Int), .int .u8 (la2 : Int)] := hbW
    have HkW := Lib.hid hkW
    have HbelW := Lib.hid hbelW
    clear hkW hbelW
    have hbW2 := hbW
    obtain ⟨c0, c1, c2, c3, fz⟩ := blk_cells hbW2
    have hjl := hbW2.lt
    have f0 := fz 0
    have f2 := fz 2
    clear fz
    have nw0 := World.new_ne W ⟨j, 0, none⟩ c0
    have nw2 := World.new_ne W ⟨j, 2, none⟩ c2
    go_region_law (refine step_append_holds _ (by rfl) (.tmp 19) (.tmp 26) _ (by rfl) B 47 i0 _ 2 24 Try.underlying38 hi0 hz0 hz1 hz2 rfl (by omega) (.slice A0 k cp0) k xs (by rfl) (World.ownsRow.alloc (w := W.drew) hoW _) (W.heap.size + 1) (some ⟨W.heap.size, 0, none⟩) 1 1 [.string s, .int .u32 (n : Int)] (by rfl) (by rfl) (Holds.pair W.drew _ _ _ rfl) (oneCell_p rfl) (by simp only [maxLen]; omega) (by omega) (by simp; omega) ?_; intro v1 w4 hown4 hg4 hat4; have hb4 : Blk w4 j 41 #[.slice A0 k cp0, vb, .int .u32 (n : Int), .int .u8 (la2 : Int)] := Blk.grown (Blk.alloc (w := W.drew) hbW2 (.cells #[.string s, .int .u32 (n : Int)] 47)) hg4 (own_blk_ne (w := W.drew.alloc (.cells #[.string s, .int .u32 (n : Int)] 47)) (World.ownsRow.alloc (w := W.drew) hoW _) (Blk.alloc (w := W.drew) hbW2 _) (by decide)); have q5 := blk_cells hb4; obtain ⟨q0, q1, q2, q3, qf⟩ := q5; have qf0 := qf 0; have qf2 := qf 2; have q6 := own_form2 hown4; obtain ⟨A1, cp1, rfl, hcp1, hcp2, _⟩ := q6)
    all_goals
      have ho4 : w4.ownsRow B 45 2 vb k2 ys := World.ownsRow.kept (World.ownsRow.alloc (w := W.drew) hoW2 (.cells #[.string s, .int .u32 (n : Int)] 47)) hg4 (own_own_ne (World.ownsRow.alloc (w := W.drew) hoW2 (.cells #[.string s, .int .u32 (n : Int)] 47)) (World.ownsRow.alloc (w := W.drew) hoW (.cells #[.string s, .int .u32 (n : Int)] 47)) (by decide))
      have hk5 : K5 W w4 := ((K5.drew W).trans (K5.alloc _ _)).trans (K5.grown (World.ownsRow.alloc (w := W.drew) hoW (.cells #[.string s, .int .u32 (n : Int)] 47)) (by decide) hg4)
      have hbel : Below B W w4 := Below.grown (((Below.refl B W).drew).alloc hBW _) hg4 (by simp; omega) (own_row_ge hoW)
      clear hg4 hat4 c0 c1 c2 c3 f0 f2 nw0 nw2
      have hb5 := hb4.put 0 (.slice A1 (k + 1) cp1)
      have hown5 := own_set hown4 hb4 (by decide) 0 (.slice A1 (k + 1) cp1)
      have ho5 := own_set ho4 hb4 (by decide) 0 (.slice A1 (k + 1) cp1)
      have hk6 := hk5.trans (K5.set hb4 (by decide) 0 (.slice A1 (k + 1) cp1))
      have hbel5 := hbel.setCell (p := ⟨j, 0, none⟩) hjB (.slice A1 (k + 1) cp1)
      have hb6 := hb5.put 2 (.int .u32 (n2 : Int))
      have hown6 := own_set hown5 hb5 (by decide) 2 (.int .u32 (n2 : Int))
      have ho6 := own_set ho5 hb5 (by decide) 2 (.int .u32 (n2 : Int))
      have hk7 := hk6.trans (K5.set hb5 (by decide) 2 (.int .u32 (n2 : Int)))
      have hbel6 := hbel5.setCell (p := ⟨j, 2, none⟩) hjB (.int .u32 (n2 : Int))
      clear hb5 hown5 ho5 hk6 hbel5 hk5 hbel ho4 hown4
      have H1 := Lib.hid hb6
      have H2 := Lib.hid hown6
      have H3 := Lib.hid ho6
      have H4 := Lib.hid hk7
      have H5 := Lib.hid hbel6
      clear hb6 hown6 ho6 hk7 hbel6
      go_wp2
      go_end0
      refine ⟨rfl, ⟨⟨.slice A1 (k + 1) cp1, vb, ?_, ?_, ?_⟩, hjB, ?_⟩, HbelW.out.trans H5.out⟩
      · have e1 : ((acc ++ s.data.toList).length : Int) = (n2 : Int) := by rw [Hn2.out, Hn.out, List.length_append, hsl.out]
        have e2 : ((lastB (acc ++ s.data.toList)).toNat : Int) = (la2 : Int) := by rw [lastB_append]; rw [if_neg (by intro e; have := hsl.out; rw [e] at this; simp at this; omega), Hla2.out, Hx.out]
        rw [e1, e2]; exact H1.out
      · rw [List.length_append, sCells_snoc, ← Hk.out, ← Hxs.out, ← Hn.out]; exact H2.out
      · rw [← Hk2.out, ← Hys.out]; exact H3.out
      · intro y hy; exact (HkW.out.trans H4.out).dat (hdat.out y hy)
  · have h0' : ¬ (0 : Int) < (s.size : Int) := by omega
    go_enter Try.func16, Try.ntmps16
    go_wp2
    have hbW := hb
    have hoW := ho1
    have hoW2 := ho2
    have hBW := hBw
    have HkW := Lib.hid (K5.refl w)
    have HbelW := Lib.hid (Below.refl B w)
    clear c0 c1 c2 c3 f3 hb ho1 ho2
    have hbW2 := hbW
    obtain ⟨c0, c1, c2, c3, fz⟩ := blk_cells hbW2
    have hjl := hbW2.lt
    have f0 := fz 0
    have f2 := fz 2
    clear fz
    have nw0 := World.new_ne w ⟨j, 0, none⟩ c0
    have nw2 := World.new_ne w ⟨j, 2, none⟩ c2
    go_region_law (refine step_append_holds _ (by rfl) (.tmp 19) (.tmp 26) _ (by rfl) B 47 i0 _ 2 24 Try.underlying38 hi0 hz0 hz1 hz2 rfl (by omega) (.slice A0 k cp0) k xs (by rfl) (World.ownsRow.alloc (w := w.drew) hoW _) (w.heap.size + 1) (some ⟨w.heap.size, 0, none⟩) 1 1 [.string s, .int .u32 (n : Int)] (by rfl) (by rfl) (Holds.pair w.drew _ _ _ rfl) (oneCell_p rfl) (by simp only [maxLen]; omega) (by omega) (by simp; omega) ?_; intro v1 w4 hown4 hg4 hat4; have hb4 : Blk w4 j 41 #[.slice A0 k cp0, vb, .int .u32 (n : Int), .int .u8 (la : Int)] := Blk.grown (Blk.alloc (w := w.drew) hbW2 (.cells #[.string s, .int .u32 (n : Int)] 47)) hg4 (own_blk_ne (w := w.drew.alloc (.cells #[.string s, .int .u32 (n : Int)] 47)) (World.ownsRow.alloc (w := w.drew) hoW _) (Blk.alloc (w := w.drew) hbW2 _) (by decide)); have q5 := blk_cells hb4; obtain ⟨q0, q1, q2, q3, qf⟩ := q5; have qf0 := qf 0; have qf2 := qf 2; have q6 := own_form2 hown4; obtain ⟨A1, cp1, rfl, hcp1, hcp2, _⟩ := q6)
    all_goals
      have ho4 : w4.ownsRow B 45 2 vb k2 ys := World.ownsRow.kept (World.ownsRow.alloc (w := w.drew) hoW2 (.cells #[.string s, .int .u32 (n : Int)] 47)) hg4 (own_own_ne (World.ownsRow.alloc (w := w.drew) hoW2 (.cells #[.string s, .int .u32 (n : Int)] 47)) (World.ownsRow.alloc (w := w.drew) hoW (.cells #[.string s, .int .u32 (n : Int)] 47)) (by decide))
      have hk5 : K5 w w4 := ((K5.drew w).trans (K5.alloc _ _)).trans (K5.grown (World.ownsRow.alloc (w := w.drew) hoW (.cells #[.string s, .int .u32 (n : Int)] 47)) (by decide) hg4)
      have hbel : Below B w w4 := Below.grown (((Below.refl B w).drew).alloc hBW _) hg4 (by simp; omega) (own_row_ge hoW)
      clear hg4 hat4 c0 c1 c2 c3 f0 f2 nw0 nw2
      have hb5 := hb4.put 0 (.slice A1 (k + 1) cp1)
      have hown5 := own_set hown4 hb4 (by decide) 0 (.slice A1 (k + 1) cp1)
      have ho5 := own_set ho4 hb4 (by decide) 0 (.slice A1 (k + 1) cp1)
      have hk6 := hk5.trans (K5.set hb4 (by decide) 0 (.slice A1 (k + 1) cp1))
      have hbel5 := hbel.setCell (p := ⟨j, 0, none⟩) hjB (.slice A1 (k + 1) cp1)
      have hb6 := hb5.put 2 (.int .u32 (n2 : Int))
      have hown6 := own_set hown5 hb5 (by decide) 2 (.int .u32 (n2 : Int))
      have ho6 := own_set ho5 hb5 (by decide) 2 (.int .u32 (n2 : Int))
      have hk7 := hk6.trans (K5.set hb5 (by decide) 2 (.int .u32 (n2 : Int)))
      have hbel6 := hbel5.setCell (p := ⟨j, 2, none⟩) hjB (.int .u32 (n2 : Int))
      clear hb5 hown5 ho5 hk6 hbel5 hk5 hbel ho4 hown4
      have H1 := Lib.hid hb6
      have H2 := Lib.hid hown6
      have H3 := Lib.hid ho6
      have H4 := Lib.hid hk7
      have H5 := Lib.hid hbel6
      clear hb6 hown6 ho6 hk7 hbel6
      go_wp2
      go_end0
      refine ⟨rfl, ⟨⟨.slice A1 (k + 1) cp1, vb, ?_, ?_, ?_⟩, hjB, ?_⟩, HbelW.out.trans H5.out⟩
      · have e1 : ((acc ++ s.data.toList).length : Int) = (n2 : Int) := by rw [Hn2.out, Hn.out, List.length_append, hsl.out]
        have e2 : ((lastB (acc ++ s.data.toList)).toNat : Int) = (la : Int) := by rw [lastB_append]; rw [if_pos (List.eq_nil_of_length_eq_zero (by have := hsl.out; omega)), Hla.out]
        rw [e1, e2]; exact H1.out
      · rw [List.length_append, sCells_snoc, ← Hk.out, ← Hxs.out, ← Hn.out]; exact H2.out
      · rw [← Hk2.out, ← Hys.out]; exact H3.out
      · intro y hy; exact (HkW.out.trans H4.out).dat (hdat.out y hy)

set_option maxRecDepth 100000 in
set_option maxHeartbeats 4000000 in
theorem AddB (w : World) (B j : Nat) (acc : List UInt8) (ss : List (ByteArray × Nat)) (bb : List Itm) (A : Option Addr) (l : List UInt8) (c : Nat) (hD : Dat w ⟨A, l, c, acc.length⟩) (h : JS w B j acc ss bb) (hsz : l.length ≤ 16777216) (hn : acc.length ≤ 33554432) (hk : bb.length ≤ 33554432) (hBw : B ≤ w.heap.size) :
    Calls Try.prog 17 #[.pointer (some ⟨j, 0, none⟩), .slice A l.length c] w fun e w' => e = .returned (.tuple #[]) ∧ JS w' B j (acc ++ l) ss (bb ++ [⟨A, l, c, acc.length⟩]) ∧ Below B w w' := by
  obtain ⟨i0, hi0, hz0, hz1, hz2⟩ := info_parts infoJB
  obtain ⟨vs, vb, hb, ho1, ho2⟩ := h.st
  have hjB := h.hB
  have hdat := Lib.hid h.dat
  have hsl : Hid (l.length = l.length) := Lib.hid (by simp)
  clear h
  obtain ⟨n, Hn⟩ : ∃ n, Hid (n = acc.length) := ⟨_, Lib.hid rfl⟩
  obtain ⟨la, Hla⟩ : ∃ la, Hid (la = (lastB acc).toNat) := ⟨_, Lib.hid rfl⟩
  obtain ⟨k, Hk⟩ : ∃ k, Hid (k = bb.length) := ⟨_, Lib.hid rfl⟩
  obtain ⟨k2, Hk2⟩ : ∃ k2, Hid (k2 = ss.length) := ⟨_, Lib.hid rfl⟩
  obtain ⟨xs, Hxs⟩ : ∃ xs, Hid (xs = (bCells bb)) := ⟨_, Lib.hid rfl⟩
  obtain ⟨ys, Hys⟩ : ∃ ys, Hid (ys = (sCells ss)) := ⟨_, Lib.hid rfl⟩
  rw [← Hn.out, ← Hla.out] at hb
  rw [← Hk2.out, ← Hys.out] at ho1
  rw [← Hk.out, ← Hxs.out] at ho2
  rw [← Hn.out] at hn hD
  rw [← Hk.out] at hk
  obtain ⟨A0, cp0, rfl, hcpA, hcpB, _⟩ := own_form2 ho2
  have hbl := blk_cells hb
  obtain ⟨c0, c1, c2, c3, fz⟩ := hbl
  have f3 := fz 3
  clear fz
  have hjl0 := hb.lt
  obtain ⟨n2, Hn2⟩ : ∃ n2, Hid (n2 = n + l.length) := ⟨_, Lib.hid rfl⟩
  have hn2 : (n : Int) + (l.length : Int) = (n2 : Int) := by rw [Hn2.out]; simp
  by_cases h0 : 0 < l.length
  · have h0' : (0 : Int) < (l.length : Int) := by omega
    have hD2 := hD
    obtain ⟨g, csx, fzx, hA, hgx, hcx⟩ := hD2
    have hll : l[l.length - 1]? = some (lastB l) := by
      unfold lastB
      rw [List.getLast?_eq_getElem?]
      rw [List.getElem?_eq_getElem (by omega)]; rfl
    obtain ⟨la2, Hla2⟩ : ∃ la2, Hid (la2 = (lastB l).toNat) := ⟨_, Lib.hid rfl⟩
    have hcl : w.cell? ⟨g, l.length - 1, none⟩ = some (.int .u8 (la2 : Int)) := by
      have := hcx (l.length - 1) (.int .u8 ((lastB l).toNat : Int)) (by unfold bytesV; rw [List.getElem?_map, hll]; rfl)
      rw [Hla2.out, cell_of_row w g (l.length - 1) csx 5 fzx hgx]; exact this
    simp only at hA
    subst hA
    clear hll hgx hcx
    have hbW := hb.put 3 (.int .u8 (la2 : Int))
    have hoW := own_set ho2 hb (by decide) 3 (.int .u8 (la2 : Int))
    have hoW2 := own_set ho1 hb (by decide) 3 (.int .u8 (la2 : Int))
    have hkW := K5.set hb (by decide) 3 (.int .u8 (la2 : Int))
    have hbelW := (Below.refl B w).setCell (p := ⟨j, 3, none⟩) hjB (.int .u8 (la2 : Int))
    go_enter Try.func17, Try.ntmps17
    go_wp2
    generalize hW : w.setCell ⟨j, 3, none⟩ (.int .u8 (la2 : Int)) = W at *
    clear hW c0 c1 c2 c3 f3 hb ho1 ho2 hcl
    have hBW : B ≤ W.heap.size := Nat.le_trans hBw hbelW.size
    have hbW : Blk W j 41 #[vs, .slice A0 k cp0, .int .u32 (n : Int), .int .u8 (la2 : Int)] := hbW
    have HkW := Lib.hid hkW
    have HbelW := Lib.hid hbelW
    clear hkW hbelW
    have hbW2 := hbW
    obtain ⟨c0, c1, c2, c3, fz⟩ := blk_cells hbW2
    have hjl := hbW2.lt
    have f0 := fz 1
    have f2 := fz 2
    clear fz
    have nw0 := World.new_ne W ⟨j, 1, none⟩ c1
    have nw2 := World.new_ne W ⟨j, 2, none⟩ c2
    go_region_law (refine step_append_holds _ (by rfl) (.tmp 20) (.tmp 27) _ (by rfl) B 45 i0 _ 2 32 Try.underlying39 hi0 hz0 hz1 hz2 rfl (by omega) (.slice A0 k cp0) k xs (by rfl) (World.ownsRow.alloc (w := W.drew) hoW _) (W.heap.size + 1) (some ⟨W.heap.size, 0, none⟩) 1 1 [.slice (some ⟨g, 0, none⟩) l.length c, .int .u32 (n : Int)] (by rfl) (by rfl) (Holds.pair W.drew _ _ _ rfl) (oneCell_p rfl) (by simp only [maxLen]; omega) (by omega) (by simp; omega) ?_; intro v1 w4 hown4 hg4 hat4; have hb4 : Blk w4 j 41 #[vs, .slice A0 k cp0, .int .u32 (n : Int), .int .u8 (la2 : Int)] := Blk.grown (Blk.alloc (w := W.drew) hbW2 (.cells #[.slice (some ⟨g, 0, none⟩) l.length c, .int .u32 (n : Int)] 45)) hg4 (own_blk_ne (w := W.drew.alloc (.cells #[.slice (some ⟨g, 0, none⟩) l.length c, .int .u32 (n : Int)] 45)) (World.ownsRow.alloc (w := W.drew) hoW _) (Blk.alloc (w := W.drew) hbW2 _) (by decide)); have q5 := blk_cells hb4; obtain ⟨q0, q1, q2, q3, qf⟩ := q5; have qf0 := qf 1; have qf2 := qf 2; have q6 := own_form2 hown4; obtain ⟨A1, cp1, rfl, hcp1, hcp2, _⟩ := q6)
    all_goals
      have ho4 : w4.ownsRow B 47 2 vs k2 ys := World.ownsRow.kept (World.ownsRow.alloc (w := W.drew) hoW2 (.cells #[.slice (some ⟨g, 0, none⟩) l.length c, .int .u32 (n : Int)] 45)) hg4 (own_own_ne (World.ownsRow.alloc (w := W.drew) hoW2 (.cells #[.slice (some ⟨g, 0, none⟩) l.length c, .int .u32 (n : Int)] 45)) (World.ownsRow.alloc (w := W.drew) hoW (.cells #[.slice (some ⟨g, 0, none⟩) l.length c, .int .u32 (n : Int)] 45)) (by decide))
      have hk5 : K5 W w4 := ((K5.drew W).trans (K5.alloc _ _)).trans (K5.grown (World.ownsRow.alloc (w := W.drew) hoW (.cells #[.slice (some ⟨g, 0, none⟩) l.length c, .int .u32 (n : Int)] 45)) (by decide) hg4)
      have hbel : Below B W w4 := Below.grown (((Below.refl B W).drew).alloc hBW _) hg4 (by simp; omega) (own_row_ge hoW)
      clear hg4 hat4 c0 c1 c2 c3 f0 f2 nw0 nw2
      have hb5 := hb4.put 1 (.slice A1 (k + 1) cp1)
      have hown5 := own_set hown4 hb4 (by decide) 1 (.slice A1 (k + 1) cp1)
      have ho5 := own_set ho4 hb4 (by decide) 1 (.slice A1 (k + 1) cp1)
      have hk6 := hk5.trans (K5.set hb4 (by decide) 1 (.slice A1 (k + 1) cp1))
      have hbel5 := hbel.setCell (p := ⟨j, 1, none⟩) hjB (.slice A1 (k + 1) cp1)
      have hb6 := hb5.put 2 (.int .u32 (n2 : Int))
      have hown6 := own_set hown5 hb5 (by decide) 2 (.int .u32 (n2 : Int))
      have ho6 := own_set ho5 hb5 (by decide) 2 (.int .u32 (n2 : Int))
      have hk7 := hk6.trans (K5.set hb5 (by decide) 2 (.int .u32 (n2 : Int)))
      have hbel6 := hbel5.setCell (p := ⟨j, 2, none⟩) hjB (.int .u32 (n2 : Int))
      clear hb5 hown5 ho5 hk6 hbel5 hk5 hbel ho4 hown4
      have H1 := Lib.hid hb6
      have H2 := Lib.hid hown6
      have H3 := Lib.hid ho6
      have H4 := Lib.hid hk7
      have H5 := Lib.hid hbel6
      clear hb6 hown6 ho6 hk7 hbel6
      go_wp2
      go_end0
      refine ⟨rfl, ⟨⟨vs, .slice A1 (k + 1) cp1, ?_, ?_, ?_⟩, hjB, ?_⟩, HbelW.out.trans H5.out⟩
      · have e1 : ((acc ++ l).length : Int) = (n2 : Int) := by rw [Hn2.out, Hn.out, List.length_append]
        have e2 : ((lastB (acc ++ l)).toNat : Int) = (la2 : Int) := by rw [lastB_append]; rw [if_neg (by intro e; rw [e] at h0; simp at h0), Hla2.out]
        rw [e1, e2]; exact H1.out
      · rw [← Hk2.out, ← Hys.out]; exact H3.out
      · rw [List.length_append, bCells_snoc, ← Hk.out, ← Hxs.out, ← Hn.out]; exact H2.out
      · intro y hy
        rcases List.mem_append.1 hy with hy | hy
        · exact (HkW.out.trans H4.out).dat (hdat.out y hy)
        · rw [List.mem_singleton.1 hy, ← Hn.out]; exact (HkW.out.trans H4.out).dat hD
  · have h0' : ¬ (0 : Int) < (l.length : Int) := by omega
    go_enter Try.func17, Try.ntmps17
    go_wp2
    have hbW := hb
    have hoW := ho2
    have hoW2 := ho1
    have hBW := hBw
    have HkW := Lib.hid (K5.refl w)
    have HbelW := Lib.hid (Below.refl B w)
    clear c0 c1 c2 c3 f3 hb ho1 ho2
    have hbW2 := hbW
    obtain ⟨c0, c1, c2, c3, fz⟩ := blk_cells hbW2
    have hjl := hbW2.lt
    have f0 := fz 1
    have f2 := fz 2
    clear fz
    have nw0 := World.new_ne w ⟨j, 1, none⟩ c1
    have nw2 := World.new_ne w ⟨j, 2, none⟩ c2
    go_region_law (refine step_append_holds _ (by rfl) (.tmp 20) (.tmp 27) _ (by rfl) B 45 i0 _ 2 32 Try.underlying39 hi0 hz0 hz1 hz2 rfl (by omega) (.slice A0 k cp0) k xs (by rfl) (World.ownsRow.alloc (w := w.drew) hoW _) (w.heap.size + 1) (some ⟨w.heap.size, 0, none⟩) 1 1 [.slice A l.length c, .int .u32 (n : Int)] (by rfl) (by rfl) (Holds.pair w.drew _ _ _ rfl) (oneCell_p rfl) (by simp only [maxLen]; omega) (by omega) (by simp; omega) ?_; intro v1 w4 hown4 hg4 hat4; have hb4 : Blk w4 j 41 #[vs, .slice A0 k cp0, .int .u32 (n : Int), .int .u8 (la : Int)] := Blk.grown (Blk.alloc (w := w.drew) hbW2 (.cells #[.slice A l.length c, .int .u32 (n : Int)] 45)) hg4 (own_blk_ne (w := w.drew.alloc (.cells #[.slice A l.length c, .int .u32 (n : Int)] 45)) (World.ownsRow.alloc (w := w.drew) hoW _) (Blk.alloc (w := w.drew) hbW2 _) (by decide)); have q5 := blk_cells hb4; obtain ⟨q0, q1, q2, q3, qf⟩ := q5; have qf0 := qf 1; have qf2 := qf 2; have q6 := own_form2 hown4; obtain ⟨A1, cp1, rfl, hcp1, hcp2, _⟩ := q6)
    all_goals
      have ho4 : w4.ownsRow B 47 2 vs k2 ys := World.ownsRow.kept (World.ownsRow.alloc (w := w.drew) hoW2 (.cells #[.slice A l.length c, .int .u32 (n : Int)] 45)) hg4 (own_own_ne (World.ownsRow.alloc (w := w.drew) hoW2 (.cells #[.slice A l.length c, .int .u32 (n : Int)] 45)) (World.ownsRow.alloc (w := w.drew) hoW (.cells #[.slice A l.length c, .int .u32 (n : Int)] 45)) (by decide))
      have hk5 : K5 w w4 := ((K5.drew w).trans (K5.alloc _ _)).trans (K5.grown (World.ownsRow.alloc (w := w.drew) hoW (.cells #[.slice A l.length c, .int .u32 (n : Int)] 45)) (by decide) hg4)
      have hbel : Below B w w4 := Below.grown (((Below.refl B w).drew).alloc hBW _) hg4 (by simp; omega) (own_row_ge hoW)
      clear hg4 hat4 c0 c1 c2 c3 f0 f2 nw0 nw2
      have hb5 := hb4.put 1 (.slice A1 (k + 1) cp1)
      have hown5 := own_set hown4 hb4 (by decide) 1 (.slice A1 (k + 1) cp1)
      have ho5 := own_set ho4 hb4 (by decide) 1 (.slice A1 (k + 1) cp1)
      have hk6 := hk5.trans (K5.set hb4 (by decide) 1 (.slice A1 (k + 1) cp1))
      have hbel5 := hbel.setCell (p := ⟨j, 1, none⟩) hjB (.slice A1 (k + 1) cp1)
      have hb6 := hb5.put 2 (.int .u32 (n2 : Int))
      have hown6 := own_set hown5 hb5 (by decide) 2 (.int .u32 (n2 : Int))
      have ho6 := own_set ho5 hb5 (by decide) 2 (.int .u32 (n2 : Int))
      have hk7 := hk6.trans (K5.set hb5 (by decide) 2 (.int .u32 (n2 : Int)))
      have hbel6 := hbel5.setCell (p := ⟨j, 2, none⟩) hjB (.int .u32 (n2 : Int))
      clear hb5 hown5 ho5 hk6 hbel5 hk5 hbel ho4 hown4
      have H1 := Lib.hid hb6
      have H2 := Lib.hid hown6
      have H3 := Lib.hid ho6
      have H4 := Lib.hid hk7
      have H5 := Lib.hid hbel6
      clear hb6 hown6 ho6 hk7 hbel6
      go_wp2
      go_end0
      refine ⟨rfl, ⟨⟨vs, .slice A1 (k + 1) cp1, ?_, ?_, ?_⟩, hjB, ?_⟩, HbelW.out.trans H5.out⟩
      · have e1 : ((acc ++ l).length : Int) = (n2 : Int) := by rw [Hn2.out, Hn.out, List.length_append]
        have e2 : ((lastB (acc ++ l)).toNat : Int) = (la : Int) := by rw [lastB_append]; rw [if_pos (List.eq_nil_of_length_eq_zero (by omega)), Hla.out]
        rw [e1, e2]; exact H1.out
      · rw [← Hk2.out, ← Hys.out]; exact H3.out
      · rw [List.length_append, bCells_snoc, ← Hk.out, ← Hxs.out, ← Hn.out]; exact H2.out
      · intro y hy
        rcases List.mem_append.1 hy with hy | hy
        · exact (HkW.out.trans H4.out).dat (hdat.out y hy)
        · rw [List.mem_singleton.1 hy, ← Hn.out]; exact (HkW.out.trans H4.out).dat hD
end Go.Proofs.Ytmoaeeiggkaicaa
