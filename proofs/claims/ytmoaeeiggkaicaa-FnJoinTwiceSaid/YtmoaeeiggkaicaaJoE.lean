/- The contract of Joiner's 'Done', the slow way. -/
import Derived.Test.YtmoaeeiggkaicaaJoD
import Derived.Deep.DeepCutAuto
namespace Go.Proofs.Ytmoaeeiggkaicaa
open Go.RowKit Stamp
set_option linter.unusedVariables false
attribute [local go_sem ↓] Go.wp_at_zero Go.wp_at_succ

theorem infoU8 : (Try.prog.info? 5).map (fun i => (i.zero, i.size, i.bytes)) = some (some (.int .u8 0), 1, 1) := by kernel_rfl

theorem below_setRow {B g : Nat} {a w : World} (h : Below B a w) (hg : B ≤ g) (cs : Array Value) : Below B a (w.setRow g cs) := by
  refine ⟨h.os, h.tape, h.output, ?_, fun k hk => ?_⟩
  · rw [size_setRow]; exact h.size
  · rw [← h.block k hk]
    unfold World.setRow
    simp only [Array.getElem?_modify]
    rw [if_neg (by omega)]

set_option maxRecDepth 100000 in
set_option maxHeartbeats 4000000 in
theorem Done_slow (w : World) (B j : Nat) (acc : List UInt8) (ss : List (ByteArray × Nat)) (bb : List Itm) (h : JS w B j acc ss bb) (hn : ¬ (ss = [] ∧ ∃ x, bb = [x] ∧ x.off = 0)) (hC : Cov acc (pieces ss bb)) (hal : acc.length ≤ 33554432) (hsl : ss.length ≤ 33554432) (hbl : bb.length ≤ 33554432) :
    Calls Try.prog 15 #[.pointer (some ⟨j, 0, none⟩)] w (DonePost acc w) := by
  obtain ⟨i0, hi0, hz0, hz1, hz2⟩ := info_parts infoU8
  obtain ⟨vs, vb, hb, h1, h2⟩ := h.st
  obtain ⟨A1, c1, rfl, _, _, hh1⟩ := own_form2 h1
  obtain ⟨A2, c2, rfl, _, _, hh2⟩ := own_form2 h2
  obtain ⟨k0, k1, k2, k3, _⟩ := blk_cells hb
  have hjl := hb.lt
  have HC := Lib.hid hC
  have HD := Lib.hid h.dat
  obtain ⟨n, Hn⟩ : ∃ n, Hid (n = acc.length) := ⟨_, Lib.hid rfl⟩
  rw [← Hn.out] at k2 hal
  clear hb h1 h2 h hC
  go_enter Try.func15, Try.ntmps15
  go_upto_region 1 with fail
  go_cut [31] (fun v wx => v = .bool false ∧ wx = w)
  case first =>
    by_cases e1 : ss = []
    · have t1 : ((ss.length : Int) == 0) = true := by rw [e1]; rfl
      by_cases e2 : bb.length = 1
      · obtain ⟨x, hx⟩ : ∃ x, bb = [x] := by
          match bb, e2 with
          | [x], _ => exact ⟨x, rfl⟩
        have t2 : ((bb.length : Int) == 1) = true := by rw [e2]; rfl
        have hx0 : bb[0]? = some x := by rw [hx]; rfl
        obtain ⟨b, off, rfl, hbl, g1, g2⟩ := Holds.bc hh2 (i := 0) (x := x) hx0
        have f2 : w.cell? ⟨b, off + 1, none⟩ = some (.int .u32 (x.off : Int)) := by simpa using g2
        have f1 : w.cell? ⟨b, off, none⟩ = some (.slice x.A x.l.length x.c) := by simpa using g1
        have t3 : ((x.off : Int) == 0) = false := by
          have : x.off ≠ 0 := fun h => hn ⟨e1, x, hx, h⟩
          simp; omega
        have t4 : (0 : Int) < (bb.length : Int) := by omega
        clear hx hx0 g1 g2 e1 e2 hn
        go_wp2
        go_meet
        exact ⟨rfl, rfl⟩
      · have t2 : ((bb.length : Int) == 1) = false := by simp; omega
        clear e1 e2 hn
        go_wp2
        go_meet
        exact ⟨rfl, rfl⟩
    · have t1 : ((ss.length : Int) == 0) = false := by
        have : ss.length ≠ 0 := fun h => e1 (List.eq_nil_of_length_eq_zero h)
        simp; exact e1
      clear e1 hn
      go_wp2
      go_meet
      exact ⟨rfl, rfl⟩
  case rest =>
    obtain ⟨rfl, rfl⟩ := hcut
    clear hn
    have hmk := run_make (P := Try.prog) wc 36 5 i0 (.int .u8 0) Try.underlying36 hi0 hz0 .u32 .u32 (n : Int) (n : Int) (by omega) (by omega) (by rw [hz2]; omega) (by omega)
    simp only [hz1, Int.toNat_natCast, Nat.mul_one] at hmk
    go_wp2
    obtain ⟨g0, hg0⟩ : ∃ g0, g0 = wc.heap.size := ⟨_, rfl⟩
    have hB0 : Hid (Buf (wc.alloc (.cells (madeCells #[Value.int IntKind.u8 0] n) 5)) wc.heap.size acc ((ss.take 0).map (fun x => (x.1.data.toList, x.2)))) := Lib.hid
      ⟨(madeCells #[Value.int IntKind.u8 0] n).toList, by rw [Array.toArray_toList]; exact Blk.new wc 5 _, by rw [Array.length_toList, ← Hn.out]; simp [size_madeCells], by simp⟩
    go_loopw [49] (fun i wr => ∃ k : Nat, k ≤ ss.length ∧ i = .int .i64 k ∧ Hid (Buf wr wc.heap.size acc ((ss.take k).map (fun x => (x.1.data.toList, x.2)))) ∧ Below wc.heap.size wc wr) (fun i _ => ss.length - (intOf i).toNat)
    case atStart => exact ⟨0, Nat.zero_le _, rfl, hB0, (Below.refl _ _).alloc (Nat.le_refl _) _⟩
    case round =>
      clear hB0 hmk
      obtain ⟨k, hk, rfl, hBf, hb⟩ := hrel
      have hbs := hb.size
      by_cases hlt : k < ss.length
      · have hlt' : (k : Int) < (ss.length : Int) := by omega
        obtain ⟨⟨s, off⟩, hx⟩ : ∃ x, ss[k]? = some x := ⟨_, List.getElem?_eq_getElem hlt⟩
        obtain ⟨b, o, rfl, hbl, g1, g2⟩ := Holds.sc hh1 hx
        have f1 : wr.cell? ⟨b, o + k * 2, none⟩ = some (.string s) := (hb.cell (p := ⟨b, o + k * 2, none⟩) hbl).trans g1
        have f2 : wr.cell? ⟨b, o + k * 2 + 1, none⟩ = some (.int .u32 (off : Int)) := (hb.cell (p := ⟨b, o + (k * 2 + 1), none⟩) hbl).trans g2
        have hpt : PartOf acc s.data.toList off := HC.out.1 (s.data.toList, off) (List.mem_append.2 (.inl (List.mem_map.2 ⟨(s, off), List.mem_of_getElem? hx, rfl⟩)))
        have hsz : s.data.toList.length = s.size := by simp
        have hof : off + s.size ≤ n := by have := hpt.2; rw [hsz, ← Hn.out] at this; exact this
        obtain ⟨cs, hcs, hcl, hca⟩ := hBf.out
        have HT := Lib.hid (show (ss.take (k + 1)).map (fun x => (x.1.data.toList, x.2)) = (ss.take k).map (fun x => (x.1.data.toList, x.2)) ++ [(s.data.toList, off)] by rw [take_ext hx]; simp)
        have HB2 := Lib.hid (⟨by rw [spl_len (by rw [hcl, hsz, ← Hn.out]; exact hof)]; exact hcl, agree_more hpt hcl hca⟩ : (spl cs off s.data.toList).length = acc.length ∧ _)
        have hb2 := hb.alloc hbs (.cells #[.string s, .int .u32 (off : Int)] 47)
        have hcs2 : Blk (wr.alloc (.cells #[.string s, .int .u32 (off : Int)] 47)).drew wc.heap.size 5 cs.toArray := (hcs.alloc _).drewN 1
        have Hcs2 := Lib.hid hcs2
        have Hcl := Lib.hid (show cs.length = n by rw [hcl, Hn.out])
        have HBf := hBf
        clear hx g1 g2 hpt hcs hcl hca hcs2 hBf hsz
        have hi1 : (Try.prog.info? 5).map (·.size) = some 1 := by kernel_rfl
        by_cases h0 : 0 < s.size
        · have o1 : (0 : Int) ≤ (off : Int) := by omega
          have o2 : (off : Int) < (n : Int) := by omega
          have o3 : off ≤ n := by omega
          have o4 : ¬ n = off := by omega
          have o5 : ¬ off = n := by omega
          have Hcp := Lib.hid (fun ty => Lib.run_copy_row_string (P := Try.prog) (wr.alloc (.cells #[.string s, .int .u32 (off : Int)] 47)).drew 36 9 ty 5 wc.heap.size off (n - off) (n - off) s cs.toArray 5 Try.underlying36 hi1 Hcs2.out (by omega) (by rw [List.size_toArray, Hcl.out]; omega))
          go_wp2
          go_region_law (refine Go.Proofs.step_copy_runI (by rfl) (.tmp 56) (.tmp 58) 36 9 (by rfl) (.slice (some ⟨wc.heap.size, off, none⟩) (n - off) (n - off)) (.string s) (by simp [Act.eval, Act.put]) (by simp [Act.eval, Act.put]) (Hcp.out _) ?_)
          all_goals
            have e : (List.take off cs ++ (Lib.byteCells s.data.toList ++ List.drop (off + s.size) cs)).toArray = (spl cs off s.data.toList).toArray := by
              unfold spl
              rw [show s.data.toList.length = s.size by simp, List.append_assoc]; rfl
            rw [e]
            have hB3 : Hid (Buf ((wr.alloc (.cells #[.string s, .int .u32 (off : Int)] 47)).drew.setRow wc.heap.size (spl cs off s.data.toList).toArray) wc.heap.size acc ((ss.take (k + 1)).map (fun x => (x.1.data.toList, x.2)))) := Lib.hid (by
              rw [HT.out]; exact ⟨_, setRow_heap _ _ _ _ _ _ Hcs2.out, HB2.out.1, HB2.out.2⟩)
            have hb3 := below_setRow (hb2.drew) (Nat.le_refl _) (spl cs off s.data.toList).toArray
            generalize (wr.alloc (.cells #[.string s, .int .u32 (off : Int)] 47)).drew.setRow wc.heap.size (spl cs off s.data.toList).toArray = W5 at *
            clear e
            go_wp2
            go_roundw
            case rel => exact ⟨k + 1, by omega, by go_num, hB3, hb3⟩
            case measure => simp [intOf]; omega
        · have hB3 : Hid (∀ W5, Buf W5 wc.heap.size acc ((ss.take k).map (fun x => (x.1.data.toList, x.2))) → Buf W5 wc.heap.size acc ((ss.take (k + 1)).map (fun x => (x.1.data.toList, x.2)))) := Lib.hid (fun W5 ⟨c5, q1, q2, q3⟩ => by
            rw [HT.out]
            refine ⟨c5, q1, q2, fun p hp i hi1 hi2 => ?_⟩
            rcases List.mem_append.1 hp with hp | hp
            · exact q3 p hp i hi1 hi2
            · rw [List.mem_singleton.1 hp] at hi1 hi2
              have : s.data.toList.length = s.size := by simp
              simp only at hi1 hi2
              omega)
          have hsz0 : s.size = 0 := by omega
          have hi2 : ((Try.prog.info? 5).map (·.size)).isSome = true := by kernel_rfl
          have Hcp := Lib.hid (fun ty W d dl dc => Lib.run_copy_empty_string (P := Try.prog) W 36 9 ty 5 d dl dc s Try.underlying36 hi2 hsz0)
          have o1 : (0 : Int) ≤ (off : Int) := by omega
          have o3 : off ≤ n := by omega
          have HB5 := Lib.hid (show Buf (wr.alloc (.cells #[.string s, .int .u32 (off : Int)] 47)).drew wc.heap.size acc ((ss.take k).map (fun x => (x.1.data.toList, x.2))) by
            obtain ⟨c5, q1, q2, q3⟩ := HBf.out
            exact ⟨c5, (q1.alloc _).drewN 1, q2, q3⟩)
          clear hsz0 h0
          by_cases o6 : off = n
          · have o7 : n = off := o6.symm
            clear o7
            subst o6
            go_wp2
            go_region_law (refine Go.Proofs.step_copy_runI (by rfl) (.tmp 56) (.tmp 58) 36 9 (by rfl) (.slice (some ⟨wc.heap.size, 0, none⟩) 0 0) (.string s) (by simp [Act.eval, Act.put]) (by simp [Act.eval, Act.put]) (Hcp.out _ _ _ _ _) ?_)
            all_goals
              go_wp2
              go_roundw
              case rel => exact ⟨k + 1, by omega, by go_num, Lib.hid (hB3.out _ HB5.out), hb2.drew⟩
              case measure => simp [intOf]; omega
          · have o4 : ¬ n = off := by omega
            have o2 : (off : Int) < (n : Int) := by omega
            go_wp2
            go_region_law (refine Go.Proofs.step_copy_runI (by rfl) (.tmp 56) (.tmp 58) 36 9 (by rfl) (.slice (some ⟨wc.heap.size, off, none⟩) (n - off) (n - off)) (.string s) (by simp [Act.eval, Act.put]) (by simp [Act.eval, Act.put]) (Hcp.out _ _ _ _ _) ?_)
            all_goals
              go_wp2
              go_roundw
              case rel => exact ⟨k + 1, by omega, by go_num, Lib.hid (hB3.out _ HB5.out), hb2.drew⟩
              case measure => simp [intOf]; omega
      · obtain rfl : k = ss.length := by omega
        have hB1 : Hid (Buf wr wc.heap.size acc (ss.map (fun x => (x.1.data.toList, x.2)) ++ (bb.take 0).map (fun x => (x.l, x.off)))) := Lib.hid (by have := hBf.out; rw [List.take_length] at this; simpa using this)
        have k1' : wr.cell? ⟨j, 1, none⟩ = some (.slice A2 bb.length c2) := (hb.cell (p := ⟨j, 1, none⟩) hjl).trans k1
        clear hBf
        go_wp2
        go_loopw [66] (fun i wr => ∃ k : Nat, k ≤ bb.length ∧ i = .int .i64 k ∧ Hid (Buf wr wc.heap.size acc (ss.map (fun x => (x.1.data.toList, x.2)) ++ (bb.take k).map (fun x => (x.l, x.off)))) ∧ Below wc.heap.size wc wr) (fun i _ => bb.length - (intOf i).toNat)
        case atStart => exact ⟨0, Nat.zero_le _, rfl, hB1, hb⟩
        case round =>
          clear hB1 k1' hb hbs
          obtain ⟨k, hk, rfl, hBf, hb⟩ := hrel
          have hbs := hb.size
          by_cases hlt : k < bb.length
          · have hlt' : (k : Int) < (bb.length : Int) := by omega
            obtain ⟨⟨xA, l, xc, off⟩, hx⟩ : ∃ x, bb[k]? = some x := ⟨_, List.getElem?_eq_getElem hlt⟩
            obtain ⟨b, o, rfl, hbl, g1, g2⟩ := Holds.bc hh2 hx
            have f1 : wr.cell? ⟨b, o + k * 2, none⟩ = some (.slice xA l.length xc) := (hb.cell (p := ⟨b, o + k * 2, none⟩) hbl).trans g1
            have f2 : wr.cell? ⟨b, o + k * 2 + 1, none⟩ = some (.int .u32 (off : Int)) := (hb.cell (p := ⟨b, o + (k * 2 + 1), none⟩) hbl).trans g2
            have hmem := List.mem_of_getElem? hx
            have hpt : PartOf acc l off := HC.out.1 (l, off) (List.mem_append.2 (.inr (List.mem_map.2 ⟨_, hmem, rfl⟩)))
            have hof : off + l.length ≤ n := by have := hpt.2; rw [← Hn.out] at this; exact this
            obtain ⟨cs, hcs, hcl, hca⟩ := hBf.out
            obtain ⟨gx, cx, fx, ex, hgx, hcx⟩ := HD.out _ hmem
            simp only at ex
            subst ex
            have hgl : gx < wc.heap.size := (Array.getElem?_eq_some_iff.1 hgx).1
            have HT := Lib.hid (show ss.map (fun x => (x.1.data.toList, x.2)) ++ (bb.take (k + 1)).map (fun x => (x.l, x.off)) = (ss.map (fun x => (x.1.data.toList, x.2)) ++ (bb.take k).map (fun x => (x.l, x.off))) ++ [(l, off)] by rw [take_ext hx]; simp)
            have HB2 := Lib.hid (⟨by rw [spl_len (by rw [hcl, ← Hn.out]; exact hof)]; exact hcl, agree_more hpt hcl hca⟩ : (spl cs off l).length = acc.length ∧ _)
            have hb2 := hb.alloc hbs (.cells #[.slice (some ⟨gx, 0, none⟩) l.length xc, .int .u32 (off : Int)] 45)
            have Hcs2 := Lib.hid (show Blk (wr.alloc (.cells #[.slice (some ⟨gx, 0, none⟩) l.length xc, .int .u32 (off : Int)] 45)).drew wc.heap.size 5 cs.toArray from (hcs.alloc _).drewN 1)
            have Hsrc := Lib.hid (show ∀ i v, (bytesV l)[i]? = some v → (wr.alloc (.cells #[.slice (some ⟨gx, 0, none⟩) l.length xc, .int .u32 (off : Int)] 45)).drew.cell? ((⟨gx, 0, none⟩ : Addr).add i) = some v from fun i v hv => by
              rw [addr_flat, Nat.zero_add]
              have := hcx i v hv
              have q := (hb2.cell (p := ⟨gx, i, none⟩) hgl).trans (cell_of_row wc gx i cx 5 fx hgx)
              exact q.trans this)
            have Hcl := Lib.hid (show cs.length = n by rw [hcl, Hn.out])
            have HBf := hBf
            clear hx g1 g2 hpt hcs hcl hca hBf hgx hcx hmem hgl
            have hi1 : (Try.prog.info? 5).map (·.size) = some 1 := by kernel_rfl
            have o1 : (0 : Int) ≤ (off : Int) := by omega
            have o3 : off ≤ n := by omega
            by_cases o6 : off = n
            · have hB3 : Hid (Buf (wr.alloc (.cells #[.slice (some ⟨gx, 0, none⟩) l.length xc, .int .u32 (off : Int)] 45)).drew wc.heap.size acc (ss.map (fun x => (x.1.data.toList, x.2)) ++ (bb.take (k + 1)).map (fun x => (x.l, x.off)))) := Lib.hid (by
                rw [HT.out]
                obtain ⟨c5, q1, q2, q3⟩ := HBf.out
                refine ⟨c5, (q1.alloc _).drewN 1, q2, fun p hp i hi1 hi2 => ?_⟩
                rcases List.mem_append.1 hp with hp | hp
                · exact q3 p hp i hi1 hi2
                · rw [List.mem_singleton.1 hp] at hi1 hi2
                  simp only at hi1 hi2
                  omega)
              have Hcp := Lib.hid (show ∀ ty, (Builtin.copy_ #[36, 36] ty #[.slice (some ⟨wc.heap.size, 0, none⟩) 0 0, .slice (some ⟨gx, 0, none⟩) l.length xc]).run Try.prog (wr.alloc (.cells #[.slice (some ⟨gx, 0, none⟩) l.length xc, .int .u32 (off : Int)] 45)).drew = .ok (goInt 0) (wr.alloc (.cells #[.slice (some ⟨gx, 0, none⟩) l.length xc, .int .u32 (off : Int)] 45)).drew from fun ty => by
                have h := run_copy_row (P := Try.prog) (wr.alloc (.cells #[.slice (some ⟨gx, 0, none⟩) l.length xc, .int .u32 (off : Int)] 45)).drew 36 36 ty 5 wc.heap.size 0 0 0 ⟨gx, 0, none⟩ l.length xc cs.toArray 5 [] Try.underlying36 hi1 Hcs2.out (by simp) (by intro i v hv; simp at hv) (by simp) (by simp)
                have e : (cs.toArray.toList.take 0 ++ [] ++ cs.toArray.toList.drop (0 + ([] : List Value).length)).toArray = cs.toArray := by simp
                rw [e, setRow_self _ _ _ _ _ Hcs2.out] at h
                exact h)
              subst o6
              go_wp2
              go_region_law (refine Go.Proofs.step_copy_runI (by rfl) (.tmp 73) (.tmp 75) 36 36 (by rfl) (.slice (some ⟨wc.heap.size, 0, none⟩) 0 0) (.slice (some ⟨gx, 0, none⟩) l.length xc) (by simp [Act.eval, Act.put]) (by simp [Act.eval, Act.put]) (Hcp.out _) ?_)
              all_goals
                go_wp2
                go_roundw
                case rel => exact ⟨k + 1, by omega, by go_num, hB3, hb2.drew⟩
                case measure => simp [intOf]; omega
            · have o2 : (off : Int) < (n : Int) := by omega
              have o4 : ¬ n = off := by omega
              have Hcp := Lib.hid (fun ty => run_copy_row (P := Try.prog) (wr.alloc (.cells #[.slice (some ⟨gx, 0, none⟩) l.length xc, .int .u32 (off : Int)] 45)).drew 36 36 ty 5 wc.heap.size off (n - off) (n - off) ⟨gx, 0, none⟩ l.length xc cs.toArray 5 (bytesV l) Try.underlying36 hi1 Hcs2.out (by rw [bytesV_len]; exact (Nat.min_eq_left (by omega)).symm) Hsrc.out (by rw [List.size_toArray, Hcl.out, bytesV_len]; omega) (fun v hv => by obtain ⟨y, _, rfl⟩ := List.mem_map.1 hv; rfl))
              go_wp2
              go_region_law (refine Go.Proofs.step_copy_runI (by rfl) (.tmp 73) (.tmp 75) 36 36 (by rfl) (.slice (some ⟨wc.heap.size, off, none⟩) (n - off) (n - off)) (.slice (some ⟨gx, 0, none⟩) l.length xc) (by simp [Act.eval, Act.put]) (by simp [Act.eval, Act.put]) (Hcp.out _) ?_)
              all_goals
                have e : (List.take off cs ++ (bytesV l ++ List.drop (off + (bytesV l).length) cs)).toArray = (spl cs off l).toArray := by
                  unfold spl
                  rw [bytesV_len, List.append_assoc]
                rw [e]
                have hB3 : Hid (Buf ((wr.alloc (.cells #[.slice (some ⟨gx, 0, none⟩) l.length xc, .int .u32 (off : Int)] 45)).drew.setRow wc.heap.size (spl cs off l).toArray) wc.heap.size acc (ss.map (fun x => (x.1.data.toList, x.2)) ++ (bb.take (k + 1)).map (fun x => (x.l, x.off)))) := Lib.hid (by
                  rw [HT.out]; exact ⟨_, setRow_heap _ _ _ _ _ _ Hcs2.out, HB2.out.1, HB2.out.2⟩)
                have hb3 := below_setRow (hb2.drew) (Nat.le_refl _) (spl cs off l).toArray
                generalize (wr.alloc (.cells #[.slice (some ⟨gx, 0, none⟩) l.length xc, .int .u32 (off : Int)] 45)).drew.setRow wc.heap.size (spl cs off l).toArray = W5 at *
                clear e
                go_wp2
                go_roundw
                case rel => exact ⟨k + 1, by omega, by go_num, hB3, hb3⟩
                case measure => simp [intOf]; omega
          · obtain rfl : k = bb.length := by omega
            have hfin := Lib.hid (hBf.out.finish (by rw [List.take_length]; exact HC.out))
            go_wp2
            go_ret
            exact ⟨_, n, by rw [← Hn.out]; rfl, hfin.out, hb⟩
end Go.Proofs.Ytmoaeeiggkaicaa
