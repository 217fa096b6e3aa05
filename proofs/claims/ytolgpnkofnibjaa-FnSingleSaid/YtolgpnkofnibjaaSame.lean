/- The contract of 'spec.SameUnits'. -/
import Derived.Test.YtolgpnkofnibjaaChecked
import Derived.WalkKit
import Derived.BigQuiet
import Derived.Deep.QuietTactic
import Derived.Test.YtolgpnkofnibjaaMem
namespace Go.Proofs.Ytolgpnkofnibjaa
open Go.RowKit Stamp
set_option linter.unusedVariables false

set_option maxHeartbeats 400000 in
theorem SameUnits_calls (A B : Option Addr) (n m c d : Nat) (xs ys : List Int) (hx : xs.length = n) (hy : ys.length = m) (hn : n ≤ maxLen) (w : World) (W : Nat)
    (ha : Holds w W A (xs.map (Value.int .u16))) (hb : Holds w W B (ys.map (Value.int .u16))) :
    Calls Try.prog 13 #[.slice A n c, .slice B m d] w fun e w' => e = .returned (.bool (same xs ys)) ∧ ∃ q, w' = w.drewN q := by
  unfold maxLen at hn
  by_cases hnm : n = m
  · obtain rfl : m = n := hnm.symm
    have ht : ((m : Int) != (m : Int)) = false := by simp
    have Hx := Lib.hid hx
    have Hy := Lib.hid hy
    clear hx hy
    go_enter Try.func13, Try.ntmps13
    go_wp2
    go_loopw [13] (fun i wr => ∃ k q : Nat, k ≤ m ∧ i = .int .i64 k ∧ Hid (xs.take k = ys.take k) ∧ wr = w.drewN q) (fun i _ => m - (intOf i).toNat)
    case atStart => exact ⟨0, 0, Nat.zero_le _, rfl, Lib.hid rfl, rfl⟩
    case round =>
      obtain ⟨k, q, hk, rfl, hs, rfl⟩ := hrel
      by_cases hlt : k < m
      · obtain ⟨b1, o1, x, rfl, _, hx, hc1⟩ := ha.atMap (k := k) (by rw [Hx.out]; exact hlt)
        obtain ⟨b2, o2, y, rfl, _, hy, hc2⟩ := hb.atMap (k := k) (by rw [Hy.out]; exact hlt)
        have HX := Lib.hid hx
        have HY := Lib.hid hy
        clear hx hy ha hb
        have i0 : (0 : Int) ≤ (k : Int) := by omega
        have i1 : (k : Int) < (m : Int) := by omega
        by_cases hxy : x = y
        · subst hxy
          have ht2 : (x != x) = false := by simp
          go_wp2
          go_quiet (fail)
          go_wp2
          go_roundw
          case rel => exact ⟨k + 1, _, by omega, by go_num, Lib.hid (take_same hs.out HX.out HY.out), rfl⟩
          case measure => simp [intOf]; omega
        · have ht2 : (x != y) = true := by simp [hxy]
          have hf := Lib.hid (same_false_at HX.out HY.out hxy)
          clear hxy
          go_wp2
          go_quiet (fail)
          go_wp2
          go_ret
          exact ⟨ret_bool hf.out.symm, _, World.drewN_drewN _ _ _⟩
      · have hf := Lib.hid (same_of_take hs.out (by rw [Hx.out]; omega) (by rw [Hy.out]; omega))
        go_wp2
        go_ret
        exact ⟨ret_bool hf.out.symm, _, rfl⟩
  · have ht : ((n : Int) != (m : Int)) = true := by simp; omega
    have hf := Lib.hid (same_false_len (a := xs) (b := ys) (by rw [hx, hy]; exact hnm))
    clear hx hy
    go_enter Try.func13, Try.ntmps13
    go_wp2
    go_ret
    exact ⟨ret_bool hf.out.symm, 0, rfl⟩

end Go.Proofs.Ytolgpnkofnibjaa
