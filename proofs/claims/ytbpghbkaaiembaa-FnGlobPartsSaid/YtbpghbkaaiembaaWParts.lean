/- The walk of 'laws.FnGlobParts'. -/
import Derived.Test.YtbpghbkaaiembaaGlD
import Derived.Test.YtbpghbkaaiembaaHas1
namespace Go.Proofs.Ytbpghbkaaiembaa
open Go.RowKit Stamp
set_option linter.unusedVariables false

theorem bs_append (a b : List UInt8) : bs a ++ bs b = bs (a ++ b) := by
  apply ByteArray.ext
  simp [bs]
theorem heads_take {l : List (List UInt8 × Nat)} {k : Nat} {x : List UInt8 × Nat} (h : l[k]? = some x) : heads (l.take (k + 1)) = heads (l.take k) ++ x.1 := by rw [take_ext h, heads_snoc]
theorem heads_prefix (l : List (List UInt8 × Nat)) (k : Nat) : (heads (l.take k)).length ≤ (heads l).length := by
  have : heads l = heads (l.take k) ++ heads (l.drop k) := by
    conv => lhs; rw [← List.take_append_drop k l]
    simp only [heads, List.map_append, List.flatten_append]
  rw [this]; simp
theorem eq_list {a b : ByteArray} (h : a = b) : (a.toList == b.toList) = true := by rw [h]; simp

set_option maxRecDepth 100000 in
set_option maxHeartbeats 2000000 in
theorem Parts_walk (s : ByteArray) (hm : s.size ≤ 9223372036854775807) (w : World) : Calls Try.prog 4 #[.string s] w fun e w' => e = .returned (.bool true) ∧ Below w.heap.size w w' := by
  by_cases hs : 2147483647 < s.size
  · have h1 : (2147483647 : Int) < (s.size : Int) := by omega
    go_enter Try.func4, Try.ntmps4
    go_wp2
    go_ret
    exact ⟨rfl, Below.refl _ _⟩
  · have h1 : ¬ (2147483647 : Int) < (s.size : Int) := by omega
    have hs1 : s.size ≤ 2147483647 := by omega
    obtain ⟨D, t, hl, hD⟩ := parts_ex s.data.toList
    have HG := Lib.hid (fun w => Glob_calls s hs1 D t hl hD w)
    have HU := Lib.hid (fun w => Runs_calls s hs1 D t hl hD w)
    have HWo := Lib.hid (fun w => Without_calls s hs1 w)
    have hpl := (partsOf_size D t).2 (fun x hx => (hD.1 x hx).2)
    have hhl := (partsOf_size D t).1
    have hsl : s.data.toList.length = s.size := by simp
    rw [← hl, hsl] at hpl hhl
    have HP := Lib.hid (parts_kind D t)
    have HF := Lib.hid (parts_free hD)
    have HH := Lib.hid (show heads (partsOf D t) = starless s.data.toList by rw [hl]; exact heads_parts hD)
    have hrl : (runsOf 0 D).length + 1 = (partsOf D t).length := by rw [runsOf_len, partsOf_len]
    obtain ⟨n, hn⟩ : ∃ n, n = (runsOf 0 D).length := ⟨_, rfl⟩
    obtain ⟨R, HR⟩ : ∃ R, Hid (R = runsOf 0 D) := ⟨_, Lib.hid rfl⟩
    rw [← HR.out] at HU hrl
    obtain ⟨all, hall⟩ : ∃ all, all = partsOf D t := ⟨_, rfl⟩
    rw [← hall] at HG hpl hhl HP HF HH hrl
    have hne : ((all.length : Int) != ((R.length : Int) + 1)) = false := by simp; omega
    have hRl : R.length ≤ 4294967296 := by omega
    clear hl hD hsl hn hall hs
    have Hrl := Lib.hid hrl
    clear hrl
    go_enter Try.func4, Try.ntmps4
    go_wp2_with fail
    refine (HG.out _).mono ?_
    rintro e w1 ⟨A, c, rfl, hc1, hc2, hh, hb⟩
    have hbs := hb.size
    go_wp2_with fail
    refine (HU.out _).mono ?_
    rintro e w2 ⟨A2, c2, rfl, hd1, hd2, hh2, hb2⟩
    have hb2s := hb2.size
    have hb3 := hb.trans (hb2.mono hbs)
    have hh3 := Lib.hid ((hh.below hb2).more hb2s)
    clear hh hh2 hb hb2 HG HU hd1 hd2
    go_wp2
    go_loopw [4, 21] (fun v i wr => ∃ (k : Nat) (r : ByteArray), k ≤ all.length ∧ i = .int .i64 k ∧ v = .string r ∧ Hid (r = bs (heads (all.take k))) ∧ Below w2.heap.size w2 wr) (fun _ i _ => all.length - (intOf i).toNat)
    case atStart => exact ⟨0, ByteArray.empty, Nat.zero_le _, rfl, rfl, Lib.hid rfl, Below.refl _ _⟩
    case round =>
      obtain ⟨k, r, hk, rfl, rfl, hr, hb4⟩ := hrel
      have hb4s := hb4.size
      by_cases hlt : k < all.length
      · have hlt' : (k : Int) < (all.length : Int) := by omega
        obtain ⟨⟨p, q⟩, hx⟩ : ∃ x, all[k]? = some x := ⟨_, List.getElem?_eq_getElem hlt⟩
        obtain ⟨b, off, rfl, hbl, g1, g2⟩ := Holds.gp hh3.out hx
        have f1 : wr.cell? ⟨b, off + k * 2, none⟩ = some (.string (bs p)) := (hb4.cell (p := ⟨b, off + k * 2, none⟩) hbl).trans g1
        have f2 : wr.cell? ⟨b, off + k * 2 + 1, none⟩ = some (.int .i64 (q : Int)) := (hb4.cell (p := ⟨b, off + (k * 2 + 1), none⟩) hbl).trans g2
        have hf : hasB (bs p).data.toList 42 = false := by
          have := HF.out (p, q) (List.mem_of_getElem? hx)
          show List.contains p 42 = false
          simpa using this
        have hqk := HP.out k (p, q) hx
        have HT := Lib.hid (heads_take hx)
        have hp1 := heads_prefix all (k + 1)
        rw [HT.out] at hp1
        simp only [List.length_append] at hp1
        have hrs : r.size = (heads (all.take k)).length := by rw [hr.out, bs_size]
        have hbp : (bs p).size ≤ p.length := by rw [bs_size]; omega
        have hrs2 : r.size + (bs p).size ≤ s.size := by omega
        have HF2 := Lib.hid hf
        have Hbp := Lib.hid (show (bs p).size ≤ 9223372036854775806 by omega)
        clear hx g1 g2 hf hrs hp1
        by_cases hq : k + 1 < all.length
        · have t1 : ((q : Int) != 0) = true := by
            have := hqk.1.2 hq
            simpa using this
          have t2 : (k : Int) + 1 < (all.length : Int) := by omega
          clear hqk
          go_wp2_with fail
          refine (Has_calls (bs p) 42 Hbp.out _).mono ?_
          rintro e w5 ⟨rfl, rfl⟩
          rw [HF2.out]
          go_wp2
          go_roundw
          case rel => exact ⟨k + 1, r ++ bs p, by omega, by go_num, rfl, Lib.hid (by rw [HT.out, hr.out, bs_append]), hb4.alloc hb4s _⟩
          case measure => simp [intOf]; omega
        · have t1 : ((q : Int) != 0) = false := by
            have : ¬ q ≠ 0 := fun h => hq (hqk.1.1 h)
            simp at this
            rw [this]; rfl
          have t2 : decide ((k : Int) + 1 < (all.length : Int)) = false := by simp; omega
          clear hqk
          go_wp2_with fail
          refine (Has_calls (bs p) 42 Hbp.out _).mono ?_
          rintro e w5 ⟨rfl, rfl⟩
          rw [HF2.out]
          go_wp2
          go_roundw
          case rel => exact ⟨k + 1, r ++ bs p, by omega, by go_num, rfl, Lib.hid (by rw [HT.out, hr.out, bs_append]), hb4.alloc hb4s _⟩
          case measure => simp [intOf]; omega
      · obtain rfl : k = all.length := by omega
        have hfin : (r.toList == starless s.data.toList) = true := by rw [Go.ByteArray.toList_eq, hr.out, List.take_length, HH.out]; simp [bs]
        go_wp2_with fail
        refine (HWo.out _).mono ?_
        rintro e w5 ⟨rfl, hb5⟩
        go_wp2
        go_ret
        exact ⟨rfl, hb3.trans ((hb4.trans (hb5.mono hb4s)).mono (by omega))⟩
end Go.Proofs.Ytbpghbkaaiembaa
