/- The contracts of 'impl.Bits', 'impl.SameBits', 'laws.within'. -/
import Derived.Test.YtgfneibklomdjaaBitW
import Derived.Test.YtgfneibklomdjaaConv
namespace Go.Proofs.Ytgfneibklomdjaa
open Go.RowKit Stamp
set_option linter.unusedVariables false

theorem info4 : (Try.prog.info? 4).map (fun i => (i.zero, i.size, i.bytes)) = some (some (.bool false), 1, 1) := by kernel_rfl
theorem oneCell_bools {l : List Bool} : ∀ u ∈ l.map Value.bool, u.oneCell' = true := by
  intro u hu
  obtain ⟨x, _, rfl⟩ := List.mem_map.1 hu
  rfl

def BoolsPost (l : List Bool) (w : World) (e : Ending) (w' : World) : Prop :=
  ∃ A c, e = .returned (.slice A l.length c) ∧ Holds w' w'.heap.size A (l.map Value.bool) ∧ Below w.heap.size w w'

set_option maxHeartbeats 400000 in
theorem Bits17 (n : Nat) (A : Option Addr) (c : Nat) (zs : List Nat) (hz : ∀ z ∈ zs, z < n) (hn : n ≤ 300) (hlen : zs.length ≤ maxLen) (w : World) (W : Nat) (hW : W ≤ w.heap.size) (ha : Holds w W A (zs.map natI)) :
    Calls Try.prog 17 #[.int .i64 (n : Int), .slice A zs.length c] w (BoolsPost (inL n zs) w) := by
  have Hz := Lib.hid hz
  obtain ⟨i0, hi0, hz0, hz1, hz2⟩ := info_parts info4
  clear hz
  go_enter Try.func17, Try.ntmps17
  go_wp2_with fail
  refine (bits25 n A c zs Hz.out hn hlen _ W hW ha).mono ?_
  rintro e w1 ⟨g, rfl, hg, hk, hb1⟩
  have hg1 := hk.lt
  go_wp2
  generalize hw2 : w1.alloc (Obj.cells #[Value.slice (some ⟨g, 0, none⟩) ((n + 7) / 8) ((n + 7) / 8)] 46) = w2
  have hk2 : Blk w2 g 5 (u8s (fillB ((n + 7) / 8) zs)) := by rw [← hw2]; exact hk.alloc _
  have hB52 : Blk w2 w1.heap.size 46 #[.slice (some ⟨g, 0, none⟩) ((n + 7) / 8) ((n + 7) / 8)] := by rw [← hw2]; exact Blk.new _ _ _
  have hb2 : Below w.heap.size w w2 := by rw [← hw2]; exact hb1.alloc hb1.size _
  clear hw2 hk hb1
  go_loopw [6, 12] (fun v i wr => ∃ k : Nat, k ≤ n ∧ i = .int .i64 k ∧ wr.ownsRow w.heap.size 4 1 v k (((inL n zs).take k).map Value.bool) ∧ Blk wr g 5 (u8s (fillB ((n + 7) / 8) zs)) ∧ Blk wr w1.heap.size 46 #[.slice (some ⟨g, 0, none⟩) ((n + 7) / 8) ((n + 7) / 8)] ∧ Below w.heap.size w wr) (fun _ i _ => n - (intOf i).toNat)
  case atStart => exact ⟨0, Nat.zero_le _, rfl, World.ownsRow_nil _ _ _ _, hk2, hB52, hb2⟩
  case round =>
    clear hk2 hB52 hb2
    obtain ⟨k, hk, rfl, hown, hkg, hk5, hb⟩ := hrel
    have c5 : wr.cell? ⟨w1.heap.size, 0, none⟩ = some (.slice (some ⟨g, 0, none⟩) ((n + 7) / 8) ((n + 7) / 8)) := hk5.cell 0
    by_cases hlt : k < n
    · have hkm : k / 8 < (n + 7) / 8 := by omega
      have HT := Lib.hid (fillB_bit ((n + 7) / 8) zs (fun z h => by have := Hz.out z h; omega) k)
      have HI := Lib.hid (inL_at n zs k hlt)
      have hcg : wr.cell? ⟨g, k / 8, none⟩ = some (.int .u8 (((fillB ((n + 7) / 8) zs).getD (k / 8) 0 : Nat) : Int)) := (hkg.cell _).trans (u8s_at _ _ (by rw [fillB_len]; exact hkm))
      have hlt8 : (fillB ((n + 7) / 8) zs).getD (k / 8) 0 < 256 := by
        rw [List.getD_eq_getElem?_getD, List.getElem?_eq_getElem (by rw [fillB_len]; exact hkm)]
        exact fillB_lt _ _ _ (List.getElem_mem _)
      have Hc := Lib.hid hcg
      have H8 := Lib.hid hlt8
      clear hcg hlt8
      go_wp2_with fail
      refine (has27 g ((n + 7) / 8) k _ wr (by omega) hkm (by omega) H8.out Hc.out hkg.lt).mono ?_
      rintro e w3 ⟨rfl, hb3⟩
      rw [HT.out]
      have hown3 := own_below hown hb3
      have hkg3 := hkg.below hb3 hkg.lt
      have hk53 := hk5.below hb3 hk5.lt
      have hb3' := hb.trans (hb3.mono hb.size)
      clear hown hkg hk5 hb hb3 Hc H8 HT
      have hs3 := hb3'.size
      go_wp2_with (at_builtin
                   refine wpList_append_holds _ rfl (.tmp 15) (.tmp 20) _ rfl w.heap.size 4 i0 _ 1 1 Try.underlying32 hi0 hz0 hz1 hz2 rfl (by omega) _ k (((inL n zs).take k).map Value.bool) rfl (hown3.alloc _) (w3.heap.size + 1) _ 1 1 [.bool (decide (k ∈ zs))] rfl rfl (Holds.one _ _ _) (oneCell_bools (l := [decide (k ∈ zs)])) (by simp only [maxLen]; omega) (by omega) (by simp; omega) ?_
                   intro v1 w4 hown4 hg4 hat4)
      have hkg4 := (hkg3.alloc (.cells #[.bool (decide (k ∈ zs))] 4)).grown hg4 (own_blk_ne hown3 hkg3 (by decide))
      have hk54 := (hk53.alloc (.cells #[.bool (decide (k ∈ zs))] 4)).grown hg4 (own_blk_ne hown3 hk53 (by decide))
      have hb4 := Below.grown (hb3'.alloc hs3 (.cells #[.bool (decide (k ∈ zs))] 4)) hg4 (by simp; omega) (own_row_ge hown3)
      have hown5 : w4.ownsRow w.heap.size 4 1 v1 (k + 1) (((inL n zs).take (k + 1)).map Value.bool) := by
        rw [List.take_add_one, HI.out, List.map_append]; exact hown4
      refine ⟨⟨k + 1, by omega, by go_num, hown5, hkg4, hk54, hb4⟩, ?_⟩
      simp [intOf]; omega
    · obtain ⟨A1, c1, rfl, hc1, _, hh⟩ := own_form hown
      have hkn : k = n := by omega
      subst hkn
      have HL := Lib.hid (show (inL k zs).take k = inL k zs from List.take_of_length_le (by rw [inL_len]; exact Nat.le_refl _))
      have HL2 := Lib.hid (inL_len k zs)
      go_wp2
      go_ret
      exact ⟨A1, c1, by rw [HL2.out]; rfl, by rw [← HL.out]; exact hh, hb⟩

theorem eq34 (g g' m : Nat) (xs ys : List Nat) (hx : xs.length = m) (hy : ys.length = m) (hbx : ∀ b ∈ xs, b < 256) (hby : ∀ b ∈ ys, b < 256) (w : World) (h1 : Blk w g 5 (u8s xs)) (h2 : Blk w g' 5 (u8s ys)) :
    Calls Try.prog 34 #[.slice (some ⟨g, 0, none⟩) m m, .slice (some ⟨g', 0, none⟩) m m] w fun e w' => e = .returned (.bool (same xs ys)) ∧ w' = w := by
  have conv : ∀ (zs : List Nat), (∀ b ∈ zs, b < 256) → (u8s zs).toList = bytesV (zs.map UInt8.ofNat) := by
    intro zs hz
    simp only [u8s, bytesV, List.map_map]
    apply List.map_congr_left
    intro b hb
    have := hz b hb
    simp [Nat.mod_eq_of_lt this]
  have inj : ∀ (us bs : List Nat), (∀ b ∈ us, b < 256) → (∀ b ∈ bs, b < 256) → us.map UInt8.ofNat = bs.map UInt8.ofNat → us = bs := by
    intro us bs ha hb h
    have e : ∀ (l : List Nat), (∀ b ∈ l, b < 256) → (l.map UInt8.ofNat).map UInt8.toNat = l := by
      intro l hl
      rw [List.map_map]
      conv => rhs; rw [← List.map_id l]
      apply List.map_congr_left
      intro b hb
      have := hl b hb
      simp [Nat.mod_eq_of_lt this]
    rw [← e us ha, ← e bs hb, h]
  have c1 := run_bytes_text (P := Try.prog) w 44 9 5 Try.underlying44 Try.underlying5 Try.underlying9 (g + 1) (some ⟨g, 0, none⟩) m m (xs.map UInt8.ofNat) (by simp [hx]) (by rw [← conv xs hbx]; exact h1.holds)
  have c2 := run_bytes_text (P := Try.prog) w 44 9 5 Try.underlying44 Try.underlying5 Try.underlying9 (g' + 1) (some ⟨g', 0, none⟩) m m (ys.map UInt8.ofNat) (by simp [hy]) (by rw [← conv ys hby]; exact h2.holds)
  have ht : ((⟨(xs.map UInt8.ofNat).toArray⟩ : ByteArray).toList == (⟨(ys.map UInt8.ofNat).toArray⟩ : ByteArray).toList) = same xs ys := by
    rw [bytes_beq]
    rw [Bool.eq_iff_iff, decide_eq_true_iff, same_true]
    constructor
    · intro h
      apply inj xs ys hbx hby
      injection h with h
      exact List.toArray_inj h
    · intro h; rw [h]
  generalize hsx : (⟨(xs.map UInt8.ofNat).toArray⟩ : ByteArray) = sx at *
  generalize hsy : (⟨(ys.map UInt8.ofNat).toArray⟩ : ByteArray) = sy at *
  clear hsx hsy conv inj hbx hby hx hy
  go_enter Try.func34, Try.ntmps34
  go_wp2
  go_ret
  exact ⟨rfl, rfl⟩

theorem Equals26 (g g' m : Nat) (xs ys : List Nat) (hx : xs.length = m) (hy : ys.length = m) (hbx : ∀ b ∈ xs, b < 256) (hby : ∀ b ∈ ys, b < 256) (w : World) (h1 : Blk w g 5 (u8s xs)) (h2 : Blk w g' 5 (u8s ys)) :
    Calls Try.prog 26 #[.agg #[.slice (some ⟨g, 0, none⟩) m m], .agg #[.slice (some ⟨g', 0, none⟩) m m]] w fun e w' => e = .returned (.bool (same xs ys)) ∧ Below w.heap.size w w' := by
  have H := Lib.hid (⟨hx, hy, hbx, hby⟩ : xs.length = m ∧ ys.length = m ∧ (∀ b ∈ xs, b < 256) ∧ (∀ b ∈ ys, b < 256))
  clear hx hy hbx hby
  go_enter Try.func26, Try.ntmps26
  go_wp2_with fail
  refine (eq34 g g' m xs ys H.out.1 H.out.2.1 H.out.2.2.1 H.out.2.2.2 _ ((h1.alloc _).alloc _) ((h2.alloc _).alloc _)).mono ?_
  rintro e w1 ⟨rfl, rfl⟩
  go_wp2
  go_ret
  exact ⟨rfl, ((Below.refl _ _).alloc (Nat.le_refl _) _).alloc (by simp) _⟩

set_option maxHeartbeats 400000 in
theorem SameBits16 (n : Nat) (A B : Option Addr) (c d : Nat) (zs ms : List Nat) (hz : ∀ z ∈ zs, z < n) (hm : ∀ z ∈ ms, z < n) (hn : n ≤ 300) (hlen : zs.length ≤ maxLen) (hlen2 : ms.length ≤ maxLen) (w : World) (W : Nat) (hW : W ≤ w.heap.size)
    (ha : Holds w W A (zs.map natI)) (hb : Holds w W B (ms.map natI)) :
    Calls Try.prog 16 #[.int .i64 (n : Int), .slice A zs.length c, .slice B ms.length d] w fun e w' => e = .returned (.bool (same (fillB ((n + 7) / 8) zs) (fillB ((n + 7) / 8) ms))) ∧ Below w.heap.size w w' := by
  have Hz := Lib.hid hz
  have Hm := Lib.hid hm
  clear hz hm
  go_enter Try.func16, Try.ntmps16
  go_wp2_with fail
  refine (bits25 n A c zs Hz.out hn hlen _ W hW ha).mono ?_
  rintro e w1 ⟨g, rfl, hg, hk, hb1⟩
  go_wp2_with fail
  refine (bits25 n B d ms Hm.out hn hlen2 _ W (Nat.le_trans hW hb1.size) (hb.below (hb1.mono hW))).mono ?_
  rintro e w2 ⟨g', rfl, hg', hk', hb2⟩
  go_wp2_with fail
  refine (Equals26 g g' ((n + 7) / 8) _ _ (fillB_len _ _) (fillB_len _ _) (fillB_lt _ _) (fillB_lt _ _) w2 (hk.below hb2 hk.lt) hk').mono ?_
  rintro e w3 ⟨rfl, hb3⟩
  have h12 := hb1.trans (hb2.mono hb1.size)
  have h13 := h12.trans (hb3.mono h12.size)
  go_wp2
  go_ret
  exact ⟨rfl, h13⟩

theorem tmod_gt (a m : Int) (hm : 0 < m) : -m < a.tmod m := by
  have := Int.tmod_lt_of_pos (-a) hm
  rw [Int.neg_tmod] at this
  omega

def WithinPost (n : Int) (len : Nat) (w : World) (e : Ending) (w' : World) : Prop :=
  ∃ (N : Nat) (zs : List Nat) (A : Option Addr) (c : Nat), e = .returned (.tuple #[.int .i64 (N : Int), .slice A zs.length c]) ∧ 1 ≤ N ∧ N ≤ 300 ∧ (1 ≤ n → n ≤ 300 → (N : Int) = n) ∧ zs.length = len ∧ (∀ z ∈ zs, z < N) ∧ Holds w' w'.heap.size A (zs.map natI) ∧ Below w.heap.size w w'

set_option maxHeartbeats 1000000 in
theorem within_core (n : Int) (hw1 : -9223372036854775808 ≤ n) (hw2 : n ≤ 9223372036854775807)
    (A : Option Addr) (c : Nat) (xs : List Int) (hlen : xs.length ≤ 2147483647) (hf : ∀ x ∈ xs, (Lit.int .i64 x).wf = true) (w : World) (W : Nat) (hW : W ≤ w.heap.size) (ha : Holds w W A (xs.map (Value.int .i64))) :
    Calls Try.prog 15 #[.int .i64 n, .slice A xs.length c] w (WithinPost n xs.length w) := by
  have h300 := Int.tmod_lt_of_pos n (show (0 : Int) < 300 by omega)
  have h301 := tmod_gt n 300 (by omega)
  obtain ⟨i0, hi0, hz0, hz1', hz2'⟩ := info_parts infoInt
  have Hf := Lib.hid hf
  clear hf
  rcases (show n < 1 ∨ 300 < n ∨ (1 ≤ n ∧ n ≤ 300) by omega) with h | h | h
  · obtain ⟨N, hN1, hN2, hE⟩ : ∃ N : Nat, 1 ≤ N ∧ N ≤ 300 ∧ 1 + n.tmod 300 % 300 = (N : Int) := ⟨(1 + n.tmod 300 % 300).toNat, by omega, by omega, by omega⟩
    have HN : Hid (1 ≤ n → n ≤ 300 → (N : Int) = n) := Lib.hid (fun _ _ => by omega)
    have HE := Lib.hid hE
    clear hE
    go_enter Try.func15, Try.ntmps15
    go_wp2
    simp only [Int.add_emod_right, HE.out]
    have hN0 : ¬ (N : Int) = 0 := by omega
    go_loopw [6, 22] (fun v i wr => ∃ (k : Nat) (zs : List Nat), k ≤ xs.length ∧ i = .int .i64 k ∧ zs.length = k ∧ Hid (∀ z ∈ zs, z < N) ∧ wr.ownsRow w.heap.size 3 1 v k (zs.map natI) ∧ Below w.heap.size w wr) (fun _ i _ => xs.length - (intOf i).toNat)
    case atStart => exact ⟨0, [], Nat.zero_le _, rfl, rfl, Lib.hid (by simp), World.ownsRow_nil _ _ _ _, Below.refl _ _⟩
    case round =>
      obtain ⟨k, zs, hk, rfl, hzl, hzN, hown, hb⟩ := hrel
      have HZL := Lib.hid hzl
      clear hzl
      by_cases hlt : k < xs.length
      · obtain ⟨b1, o1, x, rfl, hbl, hx, hc1⟩ := ha.atMap (k := k) hlt
        have hc2 : wr.cell? ⟨b1, o1 + k, none⟩ = some (.int .i64 x) := (hb.cell (by omega : b1 < w.heap.size)).trans hc1
        have hwf := Hf.out x (List.mem_of_getElem? hx)
        simp only [Lit.wf, Bool.and_eq_true, decide_eq_true_eq] at hwf
        have hwf1 : -9223372036854775808 ≤ x := hwf.1
        have hwf2 : x ≤ 9223372036854775807 := hwf.2
        clear hx hc1 ha hwf
        have t1 := Int.tmod_lt_of_pos x (show (0 : Int) < (N : Int) by omega)
        have t2 := tmod_gt x (N : Int) (by omega)
        obtain ⟨z, hz, hzlt⟩ : ∃ z : Nat, Int.tmod x (N : Int) % (N : Int) = (z : Int) ∧ z < N := by
          have e1 := Int.emod_nonneg (Int.tmod x (N : Int)) (show (N : Int) ≠ 0 by omega)
          have e2 := Int.emod_lt_of_pos (Int.tmod x (N : Int)) (show (0 : Int) < (N : Int) by omega)
          exact ⟨(Int.tmod x (N : Int) % (N : Int)).toNat, by omega, by omega⟩
        have hz2 : (Int.tmod x (N : Int) + (N : Int)) % (N : Int) = (z : Int) := by rw [Int.add_emod_right]; exact hz
        have hbs := hb.size
        go_wp2_with (at_builtin
                     refine wpList_append_holds _ rfl (.tmp 26) (.tmp 34) _ rfl w.heap.size 3 i0 _ 1 8 Try.underlying29 hi0 hz0 hz1' hz2' rfl (by omega) _ k (zs.map natI) rfl (hown.alloc _) (wr.heap.size + 1) _ 1 1 [natI z] rfl rfl (Holds.one _ _ _) (oneCell_nat (l := [z])) (by simp only [maxLen]; omega) (by omega) (by simp; omega) ?_
                     intro v1 w4 hown4 hg4 hat4)
        have hb4 := Below.grown (hb.alloc hbs (.cells #[.int .i64 (z : Int)] 3)) hg4 (by simp; omega) (own_row_ge hown)
        have hown5 : w4.ownsRow w.heap.size 3 1 v1 (k + 1) ((zs ++ [z]).map natI) := by
          rw [List.map_append]; exact hown4
        refine ⟨⟨k + 1, zs ++ [z], by omega, by go_num, by rw [List.length_append, HZL.out]; rfl, Lib.hid (by
          intro q hq
          rcases List.mem_append.1 hq with h | h
          · exact hzN.out q h
          · rw [List.mem_singleton.1 h]; exact hzlt), hown5, hb4⟩, ?_⟩
        simp [intOf]; omega
      · obtain ⟨A1, c1, rfl, hc1, _, hh⟩ := own_form hown
        have hkn : k = xs.length := by omega
        subst hkn
        go_wp2
        go_ret2
        exact ⟨N, zs, A1, c1, by rw [HZL.out]; rfl, hN1, hN2, HN.out, HZL.out, hzN.out, hh, hb⟩
  · obtain ⟨N, hN1, hN2, hE⟩ : ∃ N : Nat, 1 ≤ N ∧ N ≤ 300 ∧ 1 + n % 300 = (N : Int) := ⟨(1 + n % 300).toNat, by omega, by omega, by omega⟩
    have HN : Hid (1 ≤ n → n ≤ 300 → (N : Int) = n) := Lib.hid (fun _ _ => by omega)
    have HE := Lib.hid hE
    have h' : ¬ n < 1 := by omega
    clear hE
    go_enter Try.func15, Try.ntmps15
    go_wp2
    simp only [HE.out]
    have hN0 : ¬ (N : Int) = 0 := by omega
    go_loopw [6, 22] (fun v i wr => ∃ (k : Nat) (zs : List Nat), k ≤ xs.length ∧ i = .int .i64 k ∧ zs.length = k ∧ Hid (∀ z ∈ zs, z < N) ∧ wr.ownsRow w.heap.size 3 1 v k (zs.map natI) ∧ Below w.heap.size w wr) (fun _ i _ => xs.length - (intOf i).toNat)
    case atStart => exact ⟨0, [], Nat.zero_le _, rfl, rfl, Lib.hid (by simp), World.ownsRow_nil _ _ _ _, Below.refl _ _⟩
    case round =>
      obtain ⟨k, zs, hk, rfl, hzl, hzN, hown, hb⟩ := hrel
      have HZL := Lib.hid hzl
      clear hzl
      by_cases hlt : k < xs.length
      · obtain ⟨b1, o1, x, rfl, hbl, hx, hc1⟩ := ha.atMap (k := k) hlt
        have hc2 : wr.cell? ⟨b1, o1 + k, none⟩ = some (.int .i64 x) := (hb.cell (by omega : b1 < w.heap.size)).trans hc1
        have hwf := Hf.out x (List.mem_of_getElem? hx)
        simp only [Lit.wf, Bool.and_eq_true, decide_eq_true_eq] at hwf
        have hwf1 : -9223372036854775808 ≤ x := hwf.1
        have hwf2 : x ≤ 9223372036854775807 := hwf.2
        clear hx hc1 ha hwf
        have t1 := Int.tmod_lt_of_pos x (show (0 : Int) < (N : Int) by omega)
        have t2 := tmod_gt x (N : Int) (by omega)
        obtain ⟨z, hz, hzlt⟩ : ∃ z : Nat, Int.tmod x (N : Int) % (N : Int) = (z : Int) ∧ z < N := by
          have e1 := Int.emod_nonneg (Int.tmod x (N : Int)) (show (N : Int) ≠ 0 by omega)
          have e2 := Int.emod_lt_of_pos (Int.tmod x (N : Int)) (show (0 : Int) < (N : Int) by omega)
          exact ⟨(Int.tmod x (N : Int) % (N : Int)).toNat, by omega, by omega⟩
        have hz2 : (Int.tmod x (N : Int) + (N : Int)) % (N : Int) = (z : Int) := by rw [Int.add_emod_right]; exact hz
        have hbs := hb.size
        go_wp2_with (at_builtin
                     refine wpList_append_holds _ rfl (.tmp 26) (.tmp 34) _ rfl w.heap.size 3 i0 _ 1 8 Try.underlying29 hi0 hz0 hz1' hz2' rfl (by omega) _ k (zs.map natI) rfl (hown.alloc _) (wr.heap.size + 1) _ 1 1 [natI z] rfl rfl (Holds.one _ _ _) (oneCell_nat (l := [z])) (by simp only [maxLen]; omega) (by omega) (by simp; omega) ?_
                     intro v1 w4 hown4 hg4 hat4)
        have hb4 := Below.grown (hb.alloc hbs (.cells #[.int .i64 (z : Int)] 3)) hg4 (by simp; omega) (own_row_ge hown)
        have hown5 : w4.ownsRow w.heap.size 3 1 v1 (k + 1) ((zs ++ [z]).map natI) := by
          rw [List.map_append]; exact hown4
        refine ⟨⟨k + 1, zs ++ [z], by omega, by go_num, by rw [List.length_append, HZL.out]; rfl, Lib.hid (by
          intro q hq
          rcases List.mem_append.1 hq with h | h
          · exact hzN.out q h
          · rw [List.mem_singleton.1 h]; exact hzlt), hown5, hb4⟩, ?_⟩
        simp [intOf]; omega
      · obtain ⟨A1, c1, rfl, hc1, _, hh⟩ := own_form hown
        have hkn : k = xs.length := by omega
        subst hkn
        go_wp2
        go_ret2
        exact ⟨N, zs, A1, c1, by rw [HZL.out]; rfl, hN1, hN2, HN.out, HZL.out, hzN.out, hh, hb⟩
  · obtain ⟨N, rfl⟩ : ∃ N : Nat, n = (N : Int) := ⟨n.toNat, by omega⟩
    have hN1 : 1 ≤ N := by omega
    have hN2 : N ≤ 300 := by omega
    have HN : Hid (1 ≤ (N : Int) → (N : Int) ≤ 300 → (N : Int) = (N : Int)) := Lib.hid (fun _ _ => rfl)
    clear h300 h301
    have h' : ¬ (N : Int) < 1 := by omega
    have h'' : ¬ 300 < (N : Int) := by omega
    go_enter Try.func15, Try.ntmps15
    go_wp2
    have hN0 : ¬ (N : Int) = 0 := by omega
    go_loopw [6, 22] (fun v i wr => ∃ (k : Nat) (zs : List Nat), k ≤ xs.length ∧ i = .int .i64 k ∧ zs.length = k ∧ Hid (∀ z ∈ zs, z < N) ∧ wr.ownsRow w.heap.size 3 1 v k (zs.map natI) ∧ Below w.heap.size w wr) (fun _ i _ => xs.length - (intOf i).toNat)
    case atStart => exact ⟨0, [], Nat.zero_le _, rfl, rfl, Lib.hid (by simp), World.ownsRow_nil _ _ _ _, Below.refl _ _⟩
    case round =>
      obtain ⟨k, zs, hk, rfl, hzl, hzN, hown, hb⟩ := hrel
      have HZL := Lib.hid hzl
      clear hzl
      by_cases hlt : k < xs.length
      · obtain ⟨b1, o1, x, rfl, hbl, hx, hc1⟩ := ha.atMap (k := k) hlt
        have hc2 : wr.cell? ⟨b1, o1 + k, none⟩ = some (.int .i64 x) := (hb.cell (by omega : b1 < w.heap.size)).trans hc1
        have hwf := Hf.out x (List.mem_of_getElem? hx)
        simp only [Lit.wf, Bool.and_eq_true, decide_eq_true_eq] at hwf
        have hwf1 : -9223372036854775808 ≤ x := hwf.1
        have hwf2 : x ≤ 9223372036854775807 := hwf.2
        clear hx hc1 ha hwf
        have t1 := Int.tmod_lt_of_pos x (show (0 : Int) < (N : Int) by omega)
        have t2 := tmod_gt x (N : Int) (by omega)
        obtain ⟨z, hz, hzlt⟩ : ∃ z : Nat, Int.tmod x (N : Int) % (N : Int) = (z : Int) ∧ z < N := by
          have e1 := Int.emod_nonneg (Int.tmod x (N : Int)) (show (N : Int) ≠ 0 by omega)
          have e2 := Int.emod_lt_of_pos (Int.tmod x (N : Int)) (show (0 : Int) < (N : Int) by omega)
          exact ⟨(Int.tmod x (N : Int) % (N : Int)).toNat, by omega, by omega⟩
        have hz2 : (Int.tmod x (N : Int) + (N : Int)) % (N : Int) = (z : Int) := by rw [Int.add_emod_right]; exact hz
        have hbs := hb.size
        go_wp2_with (at_builtin
                     refine wpList_append_holds _ rfl (.tmp 26) (.tmp 34) _ rfl w.heap.size 3 i0 _ 1 8 Try.underlying29 hi0 hz0 hz1' hz2' rfl (by omega) _ k (zs.map natI) rfl (hown.alloc _) (wr.heap.size + 1) _ 1 1 [natI z] rfl rfl (Holds.one _ _ _) (oneCell_nat (l := [z])) (by simp only [maxLen]; omega) (by omega) (by simp; omega) ?_
                     intro v1 w4 hown4 hg4 hat4)
        have hb4 := Below.grown (hb.alloc hbs (.cells #[.int .i64 (z : Int)] 3)) hg4 (by simp; omega) (own_row_ge hown)
        have hown5 : w4.ownsRow w.heap.size 3 1 v1 (k + 1) ((zs ++ [z]).map natI) := by
          rw [List.map_append]; exact hown4
        refine ⟨⟨k + 1, zs ++ [z], by omega, by go_num, by rw [List.length_append, HZL.out]; rfl, Lib.hid (by
          intro q hq
          rcases List.mem_append.1 hq with h | h
          · exact hzN.out q h
          · rw [List.mem_singleton.1 h]; exact hzlt), hown5, hb4⟩, ?_⟩
        simp [intOf]; omega
      · obtain ⟨A1, c1, rfl, hc1, _, hh⟩ := own_form hown
        have hkn : k = xs.length := by omega
        subst hkn
        go_wp2
        go_ret2
        exact ⟨N, zs, A1, c1, by rw [HZL.out]; rfl, hN1, hN2, (fun _ _ => rfl), HZL.out, hzN.out, hh, hb⟩

end Go.Proofs.Ytgfneibklomdjaa
