/- The walk of 'laws.FnGlobAgain'. -/
import Derived.Test.YtbpghbkaaiembaaWBack
import Derived.Deep.QuietTactic
import Derived.BigQuiet
namespace Go.Proofs.Ytbpghbkaaiembaa
open Go.RowKit Stamp
set_option linter.unusedVariables false

set_option maxRecDepth 100000 in
set_option maxHeartbeats 2000000 in
theorem Again_walk (s : ByteArray) (hm : s.size ≤ 9223372036854775807) (w : World) : Calls Try.prog 5 #[.string s] w fun e w' => e = .returned (.bool true) ∧ Below w.heap.size w w' := by
  by_cases hs : 2147483647 < s.size
  · have h1 : (2147483647 : Int) < (s.size : Int) := by omega
    go_enter Try.func5, Try.ntmps5
    go_wp2
    go_ret
    exact ⟨rfl, Below.refl _ _⟩
  · have h1 : ¬ (2147483647 : Int) < (s.size : Int) := by omega
    have hs1 : s.size ≤ 2147483647 := by omega
    obtain ⟨D, t, hl, hD⟩ := parts_ex s.data.toList
    have HG := Lib.hid (fun w => Glob_calls s hs1 D t hl hD w)
    have hpl := (partsOf_size D t).2 (fun x hx => (hD.1 x hx).2)
    have hbk := thin_le D t (fun x hx => (hD.1 x hx).2)
    have hsl : s.data.toList.length = s.size := by simp
    rw [← hl, hsl] at hpl hbk
    have hDl : (partsOf D t).length = D.length + 1 := by rw [partsOf_len]
    have hwr : (Stamp.written (partsOf D t)).length ≤ s.size := by rw [flat_thin]; exact hbk
    have HG2 := Lib.hid (fun w => Glob_calls (bs (Stamp.written (partsOf D t))) (by rw [bs_size]; omega) (thin D t) t (by show Stamp.written (partsOf D t) = _; rw [flat_thin]) (ok_thin hD) w)
    rw [parts_thin hD] at HG2
    have HP : Hid (∀ x ∈ partsOf D t, x.2 ≤ 2) := Lib.hid (fun x hx => by obtain ⟨i, hi⟩ := List.getElem?_of_mem hx; exact (parts_kind D t i x hi).2)
    obtain ⟨all, hall⟩ : ∃ all, all = partsOf D t := ⟨_, rfl⟩
    rw [← hall] at HG HG2 HP hDl hwr hpl
    have hal : 1 ≤ all.length := by omega
    have ha31 : all.length ≤ 4294967296 := by omega
    have hne0 : ((all.length : Int) == 0) = false := by rw [beq_eq_false_iff_ne]; omega
    have hne : ((all.length : Int) != (all.length : Int)) = false := by simp
    have Hw := Lib.hid (show (Stamp.written all).length ≤ 17179869184 by omega)
    clear hl hD hsl hs hDl hpl hall hwr hbk
    go_enter Try.func5, Try.ntmps5
    go_wp2_with fail
    refine (HG.out _).mono ?_
    rintro e w1 ⟨A, c, rfl, hc1, hc2, hh, hb⟩
    have hbs := hb.size
    go_wp2_with fail
    refine (GlobText_calls A c _ w1 hh HP.out ha31 Hw.out).mono ?_
    rintro e w2 ⟨rfl, hb2⟩
    have hb2s := hb2.size
    go_wp2_with fail
    refine (HG2.out _).mono ?_
    rintro e w3 ⟨A2, c2, rfl, hd1, hd2, hh2, hb4⟩
    have hb4s := hb4.size
    have hb3 := hb.trans ((hb2.trans (hb4.mono hb2s)).mono hbs)
    have hb3s := hb3.size
    have hh3 := Lib.hid ((hh.below (hb2.trans (hb4.mono hb2s))).more (Nat.le_trans hb2s hb4s))
    have hh4 := Lib.hid hh2
    clear hh hh2 hb hb2 hb4 HG HG2 hd1 hd2 hc1 hc2 Hw HP
    go_wp2
    go_loopw [26] (fun i wr => ∃ k q : Nat, k ≤ all.length ∧ i = .int .i64 k ∧ wr = w3.drewN q) (fun i _ => all.length - (intOf i).toNat)
    case atStart => exact ⟨0, 0, Nat.zero_le _, rfl, rfl⟩
    case round =>
      obtain ⟨k, q, hk, rfl, rfl⟩ := hrel
      by_cases hlt : k < all.length
      · have hlt' : (k : Int) < (all.length : Int) := by omega
        obtain ⟨⟨p, c⟩, hx⟩ : ∃ x, all[k]? = some x := ⟨_, List.getElem?_eq_getElem hlt⟩
        obtain ⟨b, off, rfl, hbl, g1, g2⟩ := Holds.gp hh3.out hx
        obtain ⟨b', off', rfl, hbl', g3, g4⟩ := Holds.gp hh4.out hx
        have f1 : w3.cell? ⟨b, off + k * 2, none⟩ = some (.string (bs p)) := g1
        have f2 : w3.cell? ⟨b, off + k * 2 + 1, none⟩ = some (.int .i64 (c : Int)) := g2
        have f3 : w3.cell? ⟨b', off' + k * 2, none⟩ = some (.string (bs p)) := g3
        have f4 : w3.cell? ⟨b', off' + k * 2 + 1, none⟩ = some (.int .i64 (c : Int)) := g4
        have i0 : (0 : Int) ≤ (k : Int) := by omega
        clear hx g1 g2 g3 g4
        go_wp2
        go_quiet (fail)
        go_wp2
        exact ⟨⟨k + 1, _, by omega, by go_num, rfl⟩, by simp [intOf]; omega⟩
      · obtain rfl : k = all.length := by omega
        go_wp2
        go_ret
        exact ⟨rfl, below_drewN hb3 _⟩
end Go.Proofs.Ytbpghbkaaiembaa
