/- The walks of 'laws.FnBits' and 'laws.FnSameBits'. -/
import Derived.Test.YtgfneibklomdjaaBitV
namespace Go.Proofs.Ytgfneibklomdjaa
open Go.RowKit Stamp
set_option linter.unusedVariables false

set_option maxHeartbeats 2000000 in
theorem bits_walk (n : Int) (hwf : (Lit.int .i64 n).wf = true) (A : Option Addr) (len c : Nat) (xs : List Int) (hx : xs.length = len) (hc : len ≤ c) (hm : c ≤ maxLen) (hf : ∀ x ∈ xs, (Lit.int .i64 x).wf = true)
    (w : World) (ha : Holds w w.heap.size A (xs.map (Value.int .i64))) :
    Calls Try.prog 7 #[.int .i64 n, .slice A len c] w fun e w' => e = .returned (.bool true) ∧ Below w.heap.size w w' := by
  subst hx
  simp only [Lit.wf, Bool.and_eq_true, decide_eq_true_eq] at hwf
  have hwf1 : -9223372036854775808 ≤ n := hwf.1
  have hwf2 : n ≤ 9223372036854775807 := hwf.2
  have Hf := Lib.hid hf
  clear hwf hf
  by_cases h1 : 2147483647 < xs.length
  · have h1' : (2147483647 : Int) < (xs.length : Int) := by omega
    go_enter Try.func7, Try.ntmps7
    go_wp2
    go_ret
    exact ⟨rfl, Below.refl _ _⟩
  · have h1' : ¬ (2147483647 : Int) < (xs.length : Int) := by omega
    go_enter Try.func7, Try.ntmps7
    go_wp2_with fail
    refine (within_core n hwf1 hwf2 A c xs (by omega) Hf.out w w.heap.size (Nat.le_refl _) ha).mono ?_
    rintro e w1 ⟨N, zs, A1, c1, rfl, hN1, hN2, _, hzl, hzN, hh, hb1⟩
    have hmk := fun W => run_make_row' (P := Try.prog) 32 4 (.bool false) 1 Try.underlying32 (by kernel_rfl) rfl .i64 .i64 N (by omega) (by omega) W
    have HZ := Lib.hid hzl
    have HN := Lib.hid hzN
    have hzm : zs.length ≤ maxLen := by unfold maxLen; omega
    have hzm2 : zs.length ≤ 2147483647 := by omega
    clear hzl hzN ha
    go_wp2
    generalize hw2 : w1.alloc (Obj.cells (madeCells #[Value.bool false] N) 4) = w2
    have hk2 : Blk w2 w1.heap.size 4 (bools (inL N [])) := by rw [← hw2, inL_nil]; exact Blk.new _ _ _
    have hb2 : Below w1.heap.size w1 w2 := by rw [← hw2]; exact (Below.refl _ _).alloc (Nat.le_refl _) _
    clear hw2 hmk
    go_loopw [23] (fun i wr => ∃ k : Nat, k ≤ zs.length ∧ i = .int .i64 k ∧ Blk wr w1.heap.size 4 (bools (inL N (zs.take k))) ∧ Below w1.heap.size w1 wr) (fun i _ => zs.length - (intOf i).toNat)
    case atStart => exact ⟨0, Nat.zero_le _, rfl, hk2, hb2⟩
    case round =>
      clear hk2 hb2
      obtain ⟨k, hk, rfl, hkw, hb2⟩ := hrel
      by_cases hlt : k < zs.length
      · obtain ⟨b1, o1, z, rfl, hbl, hxz, hcz⟩ := hh.atMap (k := k) hlt
        have hcz2 : wr.cell? ⟨b1, o1 + k, none⟩ = some (.int .i64 (z : Int)) := (hb2.cell hbl).trans hcz
        have hzlt := HN.out z (List.mem_of_getElem? hxz)
        have hi0 : (0 : Int) ≤ (z : Int) := by omega
        have hi1 : (z : Int) < (N : Int) := by omega
        have hcw : wr.cell? ⟨w1.heap.size, z, none⟩ = some (.bool (decide (z ∈ zs.take k))) := (hkw.cell z).trans (bools_at _ _ _ (inL_at N _ z hzlt))
        have hfw := hkw.frozen z
        have hkw2 := hkw.put z (.bool true)
        rw [bools_set, inL_snoc] at hkw2
        have HK := Lib.hid (show zs.take (k + 1) = zs.take k ++ [z] by rw [List.take_add_one, hxz]; rfl)
        have hb3 := hb2.setCell (p := ⟨w1.heap.size, z, none⟩) (Nat.le_refl _) (.bool true)
        clear hxz hcz hh hkw hb2
        go_wp2
        go_roundw
        case rel => exact ⟨k + 1, by omega, by go_num, by rw [HK.out]; exact hkw2, hb3⟩
        case measure => simp [intOf]; omega
      · have HT := Lib.hid (show zs.take k = zs from List.take_of_length_le (by omega))
        rw [HT.out] at hkw
        go_wp2_with fail
        refine (Bits17 N A1 c1 zs HN.out hN2 hzm wr w1.heap.size hb2.size (hh.below hb2)).mono ?_
        rintro e w5 ⟨A2, c2, rfl, hh5, hb5⟩
        have hL := inL_len N zs
        have hkw5 := hkw.below hb5 hkw.lt
        have hb15 : Below w.heap.size w w5 := (hb1.trans (hb2.mono hb1.size)).trans (hb5.mono (by have := hb1.size; have := hb2.size; omega))
        clear hkw hb5 hb2 hh
        rw [hL]
        go_wp2
        go_loopw [40] (fun i wr => ∃ k q : Nat, k ≤ N ∧ i = .int .i64 k ∧ wr = w5.drewN q) (fun i _ => N - (intOf i).toNat)
        case atStart => exact ⟨0, 0, Nat.zero_le _, rfl, rfl⟩
        case round =>
          obtain ⟨k2, q, hk2, rfl, rfl⟩ := hrel
          by_cases hlt2 : k2 < N
          · obtain ⟨b2, o2, y, rfl, hbl2, hy, hcy⟩ := hh5.atMap (k := k2) (by rw [hL]; exact hlt2)
            rw [inL_at N zs k2 hlt2] at hy
            obtain rfl : y = decide (k2 ∈ zs) := (Option.some.inj hy).symm
            have hcw : w5.cell? ⟨w1.heap.size, k2, none⟩ = some (.bool (decide (k2 ∈ zs))) := (hkw5.cell k2).trans (bools_at _ _ _ (inL_at N _ k2 hlt2))
            have hj0 : (0 : Int) ≤ (k2 : Int) := by omega
            have hj1 : (k2 : Int) < (N : Int) := by omega
            generalize decide (k2 ∈ zs) = y at *
            clear hy hh5
            go_wp2
            go_quiet (fail)
            go_wp2
            go_roundw
            case rel => exact ⟨k2 + 1, _, by omega, by go_num, rfl⟩
            case measure => simp [intOf]; omega
          · go_wp2_with fail
            have hn : Holds ((w5.drewN q).alloc (Obj.cells #[Value.int IntKind.i64 0] 3)) ((w5.drewN q).heap.size + 1) (some ⟨w5.heap.size, 0, none⟩) ([0].map natI) := Holds.one (w5.drewN q) _ 3
            refine (Bits17 1 (some ⟨w5.heap.size, 0, none⟩) 1 [0] (by simp) (by omega) (by simp [maxLen]) _ (w5.heap.size + 1) (by simp) hn).mono ?_
            rintro e w6 ⟨A3, c3, rfl, hh6, hb6⟩
            obtain ⟨b3, o3, y, rfl, hbl3, hy, hcy⟩ := hh6.atMap (k := 0) (by rw [inL_len]; omega)
            obtain rfl : y = true := by rw [inL_at 1 [0] 0 (by omega)] at hy; simpa using hy.symm
            have hL1 := inL_len 1 [0]
            have hb16 : Below w.heap.size w w6 := ((below_drewN hb15 q).alloc hb15.size _).trans (hb6.mono (by have := hb15.size; simp; omega))
            have hcy2 : w6.cell? ⟨b3, o3, none⟩ = some (.bool true) := hcy
            clear hy hh6 hb6 hcy
            rw [hL1]
            go_wp2
            go_ret
            exact ⟨rfl, hb16⟩

theorem sm_step {us vs : List Bool} {k : Nat} {x y : Bool} (hb : true = same (us.take k) (vs.take k)) (hx : us[k]? = some x) (hy : vs[k]? = some y) : (x == y) = same (us.take (k + 1)) (vs.take (k + 1)) := by
  have h := same_true.1 hb.symm
  rw [List.take_add_one, List.take_add_one, h, hx, hy, Bool.eq_iff_iff, same_true, beq_iff_eq]
  simp
theorem sm_stay {us vs : List Bool} {k : Nat} (hb : false = same (us.take k) (vs.take k)) : false = same (us.take (k + 1)) (vs.take (k + 1)) := by
  symm
  refine same_false fun e => ?_
  have e2 := congrArg (List.take k) e
  rw [List.take_take, List.take_take, show min k (k + 1) = k from by omega] at e2
  rw [e2, same_self] at hb
  cases hb
theorem inL_eq_iff (N : Nat) (zs ms : List Nat) (hz : ∀ z ∈ zs, z < N) (hm : ∀ z ∈ ms, z < N) : inL N zs = inL N ms ↔ ∀ i, i ∈ zs ↔ i ∈ ms := by
  constructor
  · intro h i
    by_cases hi : i < N
    · have h1 := inL_at N zs i hi
      rw [h, inL_at N ms i hi] at h1
      simpa using h1.symm
    · exact ⟨fun h => absurd (hz i h) hi, fun h => absurd (hm i h) hi⟩
  · intro h
    simp [inL, h]
theorem both_same (N : Nat) (zs ms : List Nat) (hz : ∀ z ∈ zs, z < N) (hm : ∀ z ∈ ms, z < N) : same (fillB ((N + 7) / 8) zs) (fillB ((N + 7) / 8) ms) = same (inL N zs) (inL N ms) := by
  rw [Bool.eq_iff_iff, same_true, same_true, inL_eq_iff N zs ms hz hm, fillB_eq_iff _ zs ms (fun z h => by have := hz z h; omega) (fun z h => by have := hm z h; omega)]
theorem twice_same (N : Nat) (zs : List Nat) (hz : ∀ z ∈ zs, z < N) : same (fillB ((N + 7) / 8) zs) (fillB ((N + 7) / 8) (zs ++ zs)) = true := by
  rw [same_true, fillB_eq_iff _ zs (zs ++ zs) (fun z h => by have := hz z h; omega) (fun z h => by have := hz z (by simpa using h); omega)]
  simp

set_option maxHeartbeats 4000000 in
theorem sameBits_walk (n : Int) (hwf : (Lit.int .i64 n).wf = true) (A : Option Addr) (len c : Nat) (xs : List Int) (hx : xs.length = len) (hc : len ≤ c) (hm : c ≤ maxLen) (hf : ∀ x ∈ xs, (Lit.int .i64 x).wf = true)
    (B : Option Addr) (len2 d : Nat) (ys : List Int) (hy : ys.length = len2) (hd : len2 ≤ d) (hm2 : d ≤ maxLen) (hf2 : ∀ x ∈ ys, (Lit.int .i64 x).wf = true)
    (w : World) (ha : Holds w w.heap.size A (xs.map (Value.int .i64))) (hb : Holds w w.heap.size B (ys.map (Value.int .i64))) :
    Calls Try.prog 6 #[.int .i64 n, .slice A len c, .slice B len2 d] w fun e w' => e = .returned (.bool true) ∧ Below w.heap.size w w' := by
  subst hx
  subst hy
  simp only [Lit.wf, Bool.and_eq_true, decide_eq_true_eq] at hwf
  have hwf1 : -9223372036854775808 ≤ n := hwf.1
  have hwf2 : n ≤ 9223372036854775807 := hwf.2
  have Hf := Lib.hid hf
  have Hf2 := Lib.hid hf2
  clear hwf hf hf2
  obtain ⟨i0, hi0, hz0, hz1', hz2'⟩ := info_parts infoInt
  by_cases h1 : 2147483647 < xs.length
  · have h1' : (2147483647 : Int) < (xs.length : Int) := by omega
    go_enter Try.func6, Try.ntmps6
    go_wp2
    go_ret
    exact ⟨rfl, Below.refl _ _⟩
  · have h1' : ¬ (2147483647 : Int) < (xs.length : Int) := by omega
    by_cases h2 : 2147483647 < ys.length
    · have h2' : (2147483647 : Int) < (ys.length : Int) := by omega
      go_enter Try.func6, Try.ntmps6
      go_wp2
      go_ret
      exact ⟨rfl, Below.refl _ _⟩
    · have h2' : ¬ (2147483647 : Int) < (ys.length : Int) := by omega
      go_enter Try.func6, Try.ntmps6
      go_wp2_with fail
      refine (within_core n hwf1 hwf2 A c xs (by omega) Hf.out w w.heap.size (Nat.le_refl _) ha).mono ?_
      rintro e w1 ⟨N, zs, A1, c1, rfl, hN1, hN2, _, hzl, hzN, hh, hb1⟩
      have hs1 := hb1.size
      have HZ := Lib.hid hzl
      clear hzl
      go_wp2_with fail
      refine (within_core (N : Int) (by omega) (by omega) B d ys (by omega) Hf2.out w1 w.heap.size hs1 (hb.below hb1)).mono ?_
      rintro e w2 ⟨N', ms, A2, c2, rfl, _, _, hNN, hml, hmN, hh2, hb2⟩
      obtain rfl : N' = N := by have := hNN (by omega) (by omega); omega
      have hmk := fun W => run_make_row' (P := Try.prog) 32 4 (.bool false) 1 Try.underlying32 (by kernel_rfl) rfl .i64 .i64 N' (by omega) (by omega) W
      have hs2 := hb2.size
      have HM := Lib.hid hml
      have HN := Lib.hid hzN
      have HN2 := Lib.hid hmN
      have hzm : zs.length ≤ maxLen := by rw [HZ.out]; unfold maxLen; omega
      have hzm2 : zs.length ≤ 2147483647 := by rw [HZ.out]; omega
      have hmm : ms.length ≤ maxLen := by unfold maxLen; omega
      have hmm2 : ms.length ≤ 2147483647 := by omega
      have hh1 := (hh.below hb2).more hb2.size
      have hb12 := hb1.trans (hb2.mono hs1)
      clear hzN ha hml hmN hb hNN hh hb1 hb2
      go_wp2
      go_region
      · generalize hw3 : ((w2.alloc (Obj.cells (madeCells #[Value.bool false] N') 4)).alloc (Obj.cells (madeCells #[Value.bool false] N') 4)).drew = w3
        have hkA : Blk w3 (w2.heap.size) 4 (bools (inL N' [])) := by rw [← hw3, inL_nil]; exact ((Blk.new w2 _ _).alloc _)
        have hkB : Blk w3 (w2.heap.size + 1) 4 (bools (inL N' [])) := by rw [← hw3, inL_nil]; exact (Blk.newAt (w2.alloc (Obj.cells (madeCells #[Value.bool false] N') 4)) 4 (madeCells #[Value.bool false] N') (g := w2.heap.size + 1) (by simp))
        have hb3 : Below w2.heap.size w2 w3 := by rw [← hw3]; exact (((Below.refl _ _).alloc (Nat.le_refl _) _).alloc (by simp) _).drew
        clear hw3 hmk
        go_wp2
        go_loopw [41] (fun i wr => ∃ k : Nat, k ≤ zs.length ∧ i = .int .i64 k ∧ Blk wr (w2.heap.size) 4 (bools (inL N' (zs.take k))) ∧ Blk wr (w2.heap.size + 1) 4 (bools (inL N' [])) ∧ Below w2.heap.size w2 wr) (fun i _ => zs.length - (intOf i).toNat)
        case atStart => exact ⟨0, Nat.zero_le _, rfl, hkA, hkB, hb3⟩
        case round =>
          clear hkA hkB hb3
          obtain ⟨k, hk, rfl, hkA, hkB, hb3⟩ := hrel
          by_cases hlt : k < zs.length
          · obtain ⟨b1, o1, z, rfl, hbl, hxz, hcz⟩ := hh1.atMap (k := k) hlt
            have hcz2 : wr.cell? ⟨b1, o1 + k, none⟩ = some (.int .i64 (z : Int)) := (hb3.cell hbl).trans hcz
            have hzlt := HN.out z (List.mem_of_getElem? hxz)
            have hi0 : (0 : Int) ≤ (z : Int) := by omega
            have hi1 : (z : Int) < (N' : Int) := by omega
            have hcw : wr.cell? ⟨w2.heap.size, z, none⟩ = some (.bool (decide (z ∈ zs.take k))) := (hkA.cell z).trans (bools_at _ _ _ (inL_at N' _ z hzlt))
            have hfw := hkA.frozen z
            have hkA2 := hkA.put z (.bool true)
            have hkB2 := hkB.far (p := ⟨w2.heap.size, z, none⟩) (by simp) (.bool true)
            rw [bools_set, inL_snoc] at hkA2
            have HK := Lib.hid (show zs.take (k + 1) = zs.take k ++ [z] by rw [List.take_add_one, hxz]; rfl)
            have hb4 := hb3.setCell (p := ⟨w2.heap.size, z, none⟩) (by simp) (.bool true)
            clear hxz hcz hh1 hh2 hkA hkB hb3
            go_wp2
            go_roundw
            case rel => exact ⟨k + 1, by omega, by go_num, by rw [HK.out]; exact hkA2, hkB2, hb4⟩
            case measure => simp [intOf]; omega
          · have HT := Lib.hid (show zs.take k = zs from List.take_of_length_le (by omega))
            rw [HT.out] at hkA
            clear HT
            go_wp2
            go_loopw [51] (fun i wr2 => ∃ k : Nat, k ≤ ms.length ∧ i = .int .i64 k ∧ Blk wr2 (w2.heap.size) 4 (bools (inL N' zs)) ∧ Blk wr2 (w2.heap.size + 1) 4 (bools (inL N' (ms.take k))) ∧ Below w2.heap.size w2 wr2) (fun i _ => ms.length - (intOf i).toNat)
            case atStart => exact ⟨0, Nat.zero_le _, rfl, hkA, hkB, hb3⟩
            case round =>
              clear hkA hkB hb3
              obtain ⟨k', hk', rfl, hkA, hkB, hb3⟩ := hrel
              by_cases hlt' : k' < ms.length
              · obtain ⟨b1, o1, z, rfl, hbl, hxz, hcz⟩ := hh2.atMap (k := k') hlt'
                have hcz2 : wr.cell? ⟨b1, o1 + k', none⟩ = some (.int .i64 (z : Int)) := (hb3.cell hbl).trans hcz
                have hzlt := HN2.out z (List.mem_of_getElem? hxz)
                have hi0 : (0 : Int) ≤ (z : Int) := by omega
                have hi1 : (z : Int) < (N' : Int) := by omega
                have hcw : wr.cell? ⟨w2.heap.size + 1, z, none⟩ = some (.bool (decide (z ∈ ms.take k'))) := (hkB.cell z).trans (bools_at _ _ _ (inL_at N' _ z hzlt))
                have hfw := hkB.frozen z
                have hkB2 := hkB.put z (.bool true)
                have hkA2 := hkA.far (p := ⟨w2.heap.size + 1, z, none⟩) (by simp) (.bool true)
                rw [bools_set, inL_snoc] at hkB2
                have HK := Lib.hid (show ms.take (k' + 1) = ms.take k' ++ [z] by rw [List.take_add_one, hxz]; rfl)
                have hb4 := hb3.setCell (p := ⟨w2.heap.size + 1, z, none⟩) (by simp) (.bool true)
                clear hxz hcz hh1 hh2 hkA hkB hb3
                go_wp2
                go_roundw
                case rel => exact ⟨k' + 1, by omega, by go_num, hkA2, by rw [HK.out]; exact hkB2, hb4⟩
                case measure => simp [intOf]; omega
              · have HT := Lib.hid (show ms.take k' = ms from List.take_of_length_le (by omega))
                rw [HT.out] at hkB
                clear HT
                go_wp2
                generalize hu : inL N' zs = us at *
                generalize hv : inL N' ms = vs at *
                have HU := Lib.hid hu
                have HV := Lib.hid hv
                have hul : us.length = N' := by rw [← hu]; exact inL_len _ _
                have hvl : vs.length = N' := by rw [← hv]; exact inL_len _ _
                have HUL := Lib.hid hul
                have HVL := Lib.hid hvl
                clear hu hv hul hvl
                obtain ⟨w4, rfl⟩ : ∃ w4 : World, w4 = wr := ⟨_, rfl⟩
                go_loopw [7, 61] (fun s i wr => ∃ (k q : Nat) (b : Bool), k ≤ N' ∧ i = .int .i64 k ∧ s = .bool b ∧ Hid (b = same (us.take k) (vs.take k)) ∧ wr = w4.drewN q) (fun _ i _ => N' - (intOf i).toNat)
                case atStart => exact ⟨0, 0, true, Nat.zero_le _, rfl, rfl, Lib.hid (by simp [same]), rfl⟩
                case round =>
                  obtain ⟨k2, q, b, hk2, rfl, rfl, hB, rfl⟩ := hrel
                  by_cases hlt2 : k2 < N'
                  · cases b
                    · have hf : false = false := rfl
                      go_wp2
                      go_quiet (fail)
                      go_wp2
                      go_roundw
                      case rel => exact ⟨k2 + 1, _, false, by omega, by go_num, rfl, Lib.hid (sm_stay hB.out), rfl⟩
                      case measure => simp [intOf]; omega
                    · obtain ⟨x, hx1⟩ : ∃ x, us[k2]? = some x := ⟨_, List.getElem?_eq_getElem (by rw [HUL.out]; exact hlt2)⟩
                      obtain ⟨y, hy1⟩ : ∃ y, vs[k2]? = some y := ⟨_, List.getElem?_eq_getElem (by rw [HVL.out]; exact hlt2)⟩
                      have cA : w4.cell? ⟨w2.heap.size, k2, none⟩ = some (.bool x) := (hkA.cell k2).trans (bools_at _ _ _ hx1)
                      have cB : w4.cell? ⟨w2.heap.size + 1, k2, none⟩ = some (.bool y) := (hkB.cell k2).trans (bools_at _ _ _ hy1)
                      have HS := Lib.hid (sm_step hB.out hx1 hy1)
                      have i0 : (0 : Int) ≤ (k2 : Int) := by omega
                      have i1 : (k2 : Int) < (N' : Int) := by omega
                      clear hx1 hy1 hB
                      go_wp2
                      go_quiet (fail)
                      go_wp2
                      go_roundw
                      case rel => exact ⟨k2 + 1, _, _, by omega, by go_num, rfl, Lib.hid HS.out, rfl⟩
                      case measure => simp [intOf]; omega
                  · have hkn : k2 = N' := by omega
                    have hBB : Hid (b = same (fillB ((N' + 7) / 8) zs) (fillB ((N' + 7) / 8) ms)) := Lib.hid (by
                      rw [both_same N' zs ms HN.out HN2.out, HU.out, HV.out]
                      have := hB.out
                      rw [hkn, List.take_of_length_le (by rw [HUL.out]; exact Nat.le_refl _), List.take_of_length_le (by rw [HVL.out]; exact Nat.le_refl _)] at this
                      exact this)
                    have hb24 : Below w.heap.size w w4 := hb12.trans (hb3.mono hb12.size)
                    clear hkn hB hkA hkB
                    have hlA := (hh1.below hb3)
                    have hlB := (hh2.below hb3)
                    have hs34 := hb3.size
                    clear hb3 hh1 hh2
                    go_wp2_with fail
                    refine (SameBits16 N' A1 A2 c1 c2 zs ms HN.out HN2.out hN2 hzm hmm _ w2.heap.size (by simpa using hs34) (hlA.drewN q) (hlB.drewN q)).mono ?_
                    rintro e w5 ⟨rfl, hb5⟩
                    rw [← hBB.out]
                    have hlA5 := (hlA.drewN q).below (hb5.mono (by simpa using hs34))
                    have hb25 : Below w.heap.size w w5 := (below_drewN hb24 q).trans (hb5.mono (by have := hb24.size; simpa using this))
                    have hs5 := hb25.size
                    have hs55 : w2.heap.size ≤ w5.heap.size := by have := hb5.size; simp at this; omega
                    clear hlA hlB hb5 hb24 hBB hb12
                    go_wp2_with (first
                      | (at_builtin
                         refine wpList_append_holds _ rfl (.tmp 86) (.tmp 87) _ rfl w5.heap.size 3 i0 _ 1 8 Try.underlying29 hi0 hz0 hz1' hz2' rfl (by omega) (.slice (some ⟨w5.heap.size, 0, none⟩) 0 0) 0 [] rfl (own_new _ _ _ _ _ rfl (Nat.le_refl _)) w2.heap.size A1 zs.length c1 (zs.map natI) rfl (by simp) (hlA5.alloc hs55 _) oneCell_nat (by simp only [maxLen]; omega) (by omega) (by simp) ?_
                         intro v1 w6 hown6 hg6 hat6
                         have hb56 : Below w5.heap.size w5 w6 := Below.grown ((Below.refl _ _).alloc (Nat.le_refl _) _) hg6 (by simp) (fun k hk => by simp [Value.ownBlock] at hk; omega)
                         rw [Nat.zero_add, List.nil_append] at hown6
                         have hlA6 := hlA5.below (hb56.mono hs55)
                         clear hg6 hat6)
                      | (at_builtin
                         refine wpList_append_holds _ rfl (.tmp 88) (.tmp 89) _ rfl w5.heap.size 3 i0 _ 1 8 Try.underlying29 hi0 hz0 hz1' hz2' rfl (by omega) v1 zs.length (zs.map natI) rfl hown6 w2.heap.size A1 zs.length c1 (zs.map natI) rfl (by simp) hlA6 oneCell_nat (by simp only [maxLen]; omega) (by omega) hb56.size ?_
                         intro v2 w7 hown7 hg7 hat7
                         have hb57 : Below w5.heap.size w5 w7 := Below.grown hb56 hg7 hb56.size (own_row_ge hown6)
                         clear hg7 hat7 hown6))
                    rw [← List.map_append, ← List.length_append] at hown7
                    obtain ⟨A7, c7, rfl, hc7, _, hh7⟩ := own_form hown7
                    refine (SameBits16 N' A1 A7 c1 c7 zs (zs ++ zs) HN.out (fun z h => HN.out z (by simpa using h)) hN2 hzm (by unfold maxLen; simp; omega) w7 w7.heap.size (Nat.le_refl _) ((hlA5.below (hb57.mono hs55)).more (by have := hb57.size; omega)) hh7).mono ?_
                    rintro e w8 ⟨rfl, hb8⟩
                    have ht := twice_same N' zs HN.out
                    have hb28 := (hb25.trans (hb57.mono hs5)).trans (hb8.mono (by have := hb57.size; omega))
                    go_wp2
                    go_ret
                    exact ⟨rfl, hb28⟩
      · generalize hw3 : ((w2.alloc (Obj.cells (madeCells #[Value.bool false] N') 4)).alloc (Obj.cells (madeCells #[Value.bool false] N') 4)).drew = w3
        have hkA : Blk w3 (w2.heap.size + 1) 4 (bools (inL N' [])) := by rw [← hw3, inL_nil]; exact (Blk.newAt (w2.alloc (Obj.cells (madeCells #[Value.bool false] N') 4)) 4 (madeCells #[Value.bool false] N') (g := w2.heap.size + 1) (by simp))
        have hkB : Blk w3 (w2.heap.size) 4 (bools (inL N' [])) := by rw [← hw3, inL_nil]; exact ((Blk.new w2 _ _).alloc _)
        have hb3 : Below w2.heap.size w2 w3 := by rw [← hw3]; exact (((Below.refl _ _).alloc (Nat.le_refl _) _).alloc (by simp) _).drew
        clear hw3 hmk
        go_wp2
        go_loopw [41] (fun i wr => ∃ k : Nat, k ≤ zs.length ∧ i = .int .i64 k ∧ Blk wr (w2.heap.size + 1) 4 (bools (inL N' (zs.take k))) ∧ Blk wr (w2.heap.size) 4 (bools (inL N' [])) ∧ Below w2.heap.size w2 wr) (fun i _ => zs.length - (intOf i).toNat)
        case atStart => exact ⟨0, Nat.zero_le _, rfl, hkA, hkB, hb3⟩
        case round =>
          clear hkA hkB hb3
          obtain ⟨k, hk, rfl, hkA, hkB, hb3⟩ := hrel
          by_cases hlt : k < zs.length
          · obtain ⟨b1, o1, z, rfl, hbl, hxz, hcz⟩ := hh1.atMap (k := k) hlt
            have hcz2 : wr.cell? ⟨b1, o1 + k, none⟩ = some (.int .i64 (z : Int)) := (hb3.cell hbl).trans hcz
            have hzlt := HN.out z (List.mem_of_getElem? hxz)
            have hi0 : (0 : Int) ≤ (z : Int) := by omega
            have hi1 : (z : Int) < (N' : Int) := by omega
            have hcw : wr.cell? ⟨w2.heap.size + 1, z, none⟩ = some (.bool (decide (z ∈ zs.take k))) := (hkA.cell z).trans (bools_at _ _ _ (inL_at N' _ z hzlt))
            have hfw := hkA.frozen z
            have hkA2 := hkA.put z (.bool true)
            have hkB2 := hkB.far (p := ⟨w2.heap.size + 1, z, none⟩) (by simp) (.bool true)
            rw [bools_set, inL_snoc] at hkA2
            have HK := Lib.hid (show zs.take (k + 1) = zs.take k ++ [z] by rw [List.take_add_one, hxz]; rfl)
            have hb4 := hb3.setCell (p := ⟨w2.heap.size + 1, z, none⟩) (by simp) (.bool true)
            clear hxz hcz hh1 hh2 hkA hkB hb3
            go_wp2
            go_roundw
            case rel => exact ⟨k + 1, by omega, by go_num, by rw [HK.out]; exact hkA2, hkB2, hb4⟩
            case measure => simp [intOf]; omega
          · have HT := Lib.hid (show zs.take k = zs from List.take_of_length_le (by omega))
            rw [HT.out] at hkA
            clear HT
            go_wp2
            go_loopw [51] (fun i wr2 => ∃ k : Nat, k ≤ ms.length ∧ i = .int .i64 k ∧ Blk wr2 (w2.heap.size + 1) 4 (bools (inL N' zs)) ∧ Blk wr2 (w2.heap.size) 4 (bools (inL N' (ms.take k))) ∧ Below w2.heap.size w2 wr2) (fun i _ => ms.length - (intOf i).toNat)
            case atStart => exact ⟨0, Nat.zero_le _, rfl, hkA, hkB, hb3⟩
            case round =>
              clear hkA hkB hb3
              obtain ⟨k', hk', rfl, hkA, hkB, hb3⟩ := hrel
              by_cases hlt' : k' < ms.length
              · obtain ⟨b1, o1, z, rfl, hbl, hxz, hcz⟩ := hh2.atMap (k := k') hlt'
                have hcz2 : wr.cell? ⟨b1, o1 + k', none⟩ = some (.int .i64 (z : Int)) := (hb3.cell hbl).trans hcz
                have hzlt := HN2.out z (List.mem_of_getElem? hxz)
                have hi0 : (0 : Int) ≤ (z : Int) := by omega
                have hi1 : (z : Int) < (N' : Int) := by omega
                have hcw : wr.cell? ⟨w2.heap.size, z, none⟩ = some (.bool (decide (z ∈ ms.take k'))) := (hkB.cell z).trans (bools_at _ _ _ (inL_at N' _ z hzlt))
                have hfw := hkB.frozen z
                have hkB2 := hkB.put z (.bool true)
                have hkA2 := hkA.far (p := ⟨w2.heap.size, z, none⟩) (by simp) (.bool true)
                rw [bools_set, inL_snoc] at hkB2
                have HK := Lib.hid (show ms.take (k' + 1) = ms.take k' ++ [z] by rw [List.take_add_one, hxz]; rfl)
                have hb4 := hb3.setCell (p := ⟨w2.heap.size, z, none⟩) (by simp) (.bool true)
                clear hxz hcz hh1 hh2 hkA hkB hb3
                go_wp2
                go_roundw
                case rel => exact ⟨k' + 1, by omega, by go_num, hkA2, by rw [HK.out]; exact hkB2, hb4⟩
                case measure => simp [intOf]; omega
              · have HT := Lib.hid (show ms.take k' = ms from List.take_of_length_le (by omega))
                rw [HT.out] at hkB
                clear HT
                go_wp2
                generalize hu : inL N' zs = us at *
                generalize hv : inL N' ms = vs at *
                have HU := Lib.hid hu
                have HV := Lib.hid hv
                have hul : us.length = N' := by rw [← hu]; exact inL_len _ _
                have hvl : vs.length = N' := by rw [← hv]; exact inL_len _ _
                have HUL := Lib.hid hul
                have HVL := Lib.hid hvl
                clear hu hv hul hvl
                obtain ⟨w4, rfl⟩ : ∃ w4 : World, w4 = wr := ⟨_, rfl⟩
                go_loopw [7, 61] (fun s i wr => ∃ (k q : Nat) (b : Bool), k ≤ N' ∧ i = .int .i64 k ∧ s = .bool b ∧ Hid (b = same (us.take k) (vs.take k)) ∧ wr = w4.drewN q) (fun _ i _ => N' - (intOf i).toNat)
                case atStart => exact ⟨0, 0, true, Nat.zero_le _, rfl, rfl, Lib.hid (by simp [same]), rfl⟩
                case round =>
                  obtain ⟨k2, q, b, hk2, rfl, rfl, hB, rfl⟩ := hrel
                  by_cases hlt2 : k2 < N'
                  · cases b
                    · have hf : false = false := rfl
                      go_wp2
                      go_quiet (fail)
                      go_wp2
                      go_roundw
                      case rel => exact ⟨k2 + 1, _, false, by omega, by go_num, rfl, Lib.hid (sm_stay hB.out), rfl⟩
                      case measure => simp [intOf]; omega
                    · obtain ⟨x, hx1⟩ : ∃ x, us[k2]? = some x := ⟨_, List.getElem?_eq_getElem (by rw [HUL.out]; exact hlt2)⟩
                      obtain ⟨y, hy1⟩ : ∃ y, vs[k2]? = some y := ⟨_, List.getElem?_eq_getElem (by rw [HVL.out]; exact hlt2)⟩
                      have cA : w4.cell? ⟨w2.heap.size + 1, k2, none⟩ = some (.bool x) := (hkA.cell k2).trans (bools_at _ _ _ hx1)
                      have cB : w4.cell? ⟨w2.heap.size, k2, none⟩ = some (.bool y) := (hkB.cell k2).trans (bools_at _ _ _ hy1)
                      have HS := Lib.hid (sm_step hB.out hx1 hy1)
                      have i0 : (0 : Int) ≤ (k2 : Int) := by omega
                      have i1 : (k2 : Int) < (N' : Int) := by omega
                      clear hx1 hy1 hB
                      go_wp2
                      go_quiet (fail)
                      go_wp2
                      go_roundw
                      case rel => exact ⟨k2 + 1, _, _, by omega, by go_num, rfl, Lib.hid HS.out, rfl⟩
                      case measure => simp [intOf]; omega
                  · have hkn : k2 = N' := by omega
                    have hBB : Hid (b = same (fillB ((N' + 7) / 8) zs) (fillB ((N' + 7) / 8) ms)) := Lib.hid (by
                      rw [both_same N' zs ms HN.out HN2.out, HU.out, HV.out]
                      have := hB.out
                      rw [hkn, List.take_of_length_le (by rw [HUL.out]; exact Nat.le_refl _), List.take_of_length_le (by rw [HVL.out]; exact Nat.le_refl _)] at this
                      exact this)
                    have hb24 : Below w.heap.size w w4 := hb12.trans (hb3.mono hb12.size)
                    clear hkn hB hkA hkB
                    have hlA := (hh1.below hb3)
                    have hlB := (hh2.below hb3)
                    have hs34 := hb3.size
                    clear hb3 hh1 hh2
                    go_wp2_with fail
                    refine (SameBits16 N' A1 A2 c1 c2 zs ms HN.out HN2.out hN2 hzm hmm _ w2.heap.size (by simpa using hs34) (hlA.drewN q) (hlB.drewN q)).mono ?_
                    rintro e w5 ⟨rfl, hb5⟩
                    rw [← hBB.out]
                    have hlA5 := (hlA.drewN q).below (hb5.mono (by simpa using hs34))
                    have hb25 : Below w.heap.size w w5 := (below_drewN hb24 q).trans (hb5.mono (by have := hb24.size; simpa using this))
                    have hs5 := hb25.size
                    have hs55 : w2.heap.size ≤ w5.heap.size := by have := hb5.size; simp at this; omega
                    clear hlA hlB hb5 hb24 hBB hb12
                    go_wp2_with (first
                      | (at_builtin
                         refine wpList_append_holds _ rfl (.tmp 86) (.tmp 87) _ rfl w5.heap.size 3 i0 _ 1 8 Try.underlying29 hi0 hz0 hz1' hz2' rfl (by omega) (.slice (some ⟨w5.heap.size, 0, none⟩) 0 0) 0 [] rfl (own_new _ _ _ _ _ rfl (Nat.le_refl _)) w2.heap.size A1 zs.length c1 (zs.map natI) rfl (by simp) (hlA5.alloc hs55 _) oneCell_nat (by simp only [maxLen]; omega) (by omega) (by simp) ?_
                         intro v1 w6 hown6 hg6 hat6
                         have hb56 : Below w5.heap.size w5 w6 := Below.grown ((Below.refl _ _).alloc (Nat.le_refl _) _) hg6 (by simp) (fun k hk => by simp [Value.ownBlock] at hk; omega)
                         rw [Nat.zero_add, List.nil_append] at hown6
                         have hlA6 := hlA5.below (hb56.mono hs55)
                         clear hg6 hat6)
                      | (at_builtin
                         refine wpList_append_holds _ rfl (.tmp 88) (.tmp 89) _ rfl w5.heap.size 3 i0 _ 1 8 Try.underlying29 hi0 hz0 hz1' hz2' rfl (by omega) v1 zs.length (zs.map natI) rfl hown6 w2.heap.size A1 zs.length c1 (zs.map natI) rfl (by simp) hlA6 oneCell_nat (by simp only [maxLen]; omega) (by omega) hb56.size ?_
                         intro v2 w7 hown7 hg7 hat7
                         have hb57 : Below w5.heap.size w5 w7 := Below.grown hb56 hg7 hb56.size (own_row_ge hown6)
                         clear hg7 hat7 hown6))
                    rw [← List.map_append, ← List.length_append] at hown7
                    obtain ⟨A7, c7, rfl, hc7, _, hh7⟩ := own_form hown7
                    refine (SameBits16 N' A1 A7 c1 c7 zs (zs ++ zs) HN.out (fun z h => HN.out z (by simpa using h)) hN2 hzm (by unfold maxLen; simp; omega) w7 w7.heap.size (Nat.le_refl _) ((hlA5.below (hb57.mono hs55)).more (by have := hb57.size; omega)) hh7).mono ?_
                    rintro e w8 ⟨rfl, hb8⟩
                    have ht := twice_same N' zs HN.out
                    have hb28 := (hb25.trans (hb57.mono hs5)).trans (hb8.mono (by have := hb57.size; omega))
                    go_wp2
                    go_ret
                    exact ⟨rfl, hb28⟩
end Go.Proofs.Ytgfneibklomdjaa
