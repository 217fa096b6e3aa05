/- The contracts of 'canPrintWithoutEscape' and 'utf8.RuneLen'. -/
import Derived.Test.YtolgpnkofnibjaaChecked
import Derived.WalkKit
import Derived.Test.YtolgpnkofnibjaaMem
import Derived.Test.YtolgpnkofnibjaaQuP
namespace Go.Proofs.Ytolgpnkofnibjaa
open Go.RowKit Stamp
set_option linter.unusedVariables false

set_option maxHeartbeats 400000 in
theorem cp34 (p : Nat) (hp : p ≤ 1114111) (ascii : Bool) (w : World) : Calls Try.prog 34 #[.int .i32 (p : Int), .bool ascii] w fun e w' => e = .returned (.bool (cpB p ascii)) ∧ w' = w := by
  by_cases h1 : p ≤ 126
  · have q1 : (p : Int) ≤ 126 := by omega
    have hc : cpB p ascii = (decide (32 ≤ p) && decide (p ≠ 92) && decide (p ≠ 34)) := by unfold cpB; rw [if_pos h1]
    by_cases h2 : 32 ≤ p
    · have q2 : (32 : Int) ≤ (p : Int) := by omega
      by_cases h3 : p = 92
      · have q3 : ((p : Int) != 92) = false := by simp; omega
        have HC := Lib.hid (show cpB p ascii = false by rw [hc]; simp [h3])
        clear hc h3
        go_enter Try.func34, Try.ntmps34
        go_wp2
        go_ret
        exact ⟨ret_bool HC.out.symm, rfl⟩
      · have q3 : ((p : Int) != 92) = true := by simp; omega
        by_cases h4 : p = 34
        · have q4 : ((p : Int) != 34) = false := by simp; omega
          have HC := Lib.hid (show cpB p ascii = false by rw [hc]; simp [h4])
          clear hc h3 h4
          go_enter Try.func34, Try.ntmps34
          go_wp2
          go_ret
          exact ⟨ret_bool HC.out.symm, rfl⟩
        · have q4 : ((p : Int) != 34) = true := by simp; omega
          have HC := Lib.hid (show cpB p ascii = true by rw [hc]; simp [h2, h3, h4])
          clear hc h3 h4
          go_enter Try.func34, Try.ntmps34
          go_wp2
          go_ret
          exact ⟨ret_bool HC.out.symm, rfl⟩
    · have q2 : ¬ (32 : Int) ≤ (p : Int) := by omega
      have HC := Lib.hid (show cpB p ascii = false by rw [hc]; simp [h2])
      clear hc
      go_enter Try.func34, Try.ntmps34
      go_wp2
      go_ret
      exact ⟨ret_bool HC.out.symm, rfl⟩
  · have q1 : ¬ (p : Int) ≤ 126 := by omega
    have hc : cpB p ascii = (!ascii && decide (p ≠ 65279) && (decide (p < 55296) || decide (57343 < p))) := by unfold cpB; rw [if_neg h1]
    cases ascii with
    | true =>
      have HC := Lib.hid (show cpB p true = false by rw [hc]; simp)
      clear hc
      go_enter Try.func34, Try.ntmps34
      go_wp2
      go_ret
      exact ⟨ret_bool HC.out.symm, rfl⟩
    | false =>
      by_cases h3 : p = 65279
      · have q3 : ((p : Int) != 65279) = false := by simp; omega
        have HC := Lib.hid (show cpB p false = false by rw [hc]; simp [h3])
        clear hc h3
        go_enter Try.func34, Try.ntmps34
        go_wp2
        go_ret
        exact ⟨ret_bool HC.out.symm, rfl⟩
      · have q3 : ((p : Int) != 65279) = true := by simp; omega
        by_cases h4 : p < 55296
        · have q4 : (p : Int) < 55296 := by omega
          have HC := Lib.hid (show cpB p false = true by rw [hc]; simp [h3, h4])
          clear hc h3
          go_enter Try.func34, Try.ntmps34
          go_wp2
          go_ret
          exact ⟨ret_bool HC.out.symm, rfl⟩
        · have q4 : ¬ (p : Int) < 55296 := by omega
          by_cases h5 : 57343 < p
          · have q5 : (57343 : Int) < (p : Int) := by omega
            have HC := Lib.hid (show cpB p false = true by rw [hc]; simp [h3, h5])
            clear hc h3
            go_enter Try.func34, Try.ntmps34
            go_wp2
            go_ret
            exact ⟨ret_bool HC.out.symm, rfl⟩
          · have q5 : ¬ (57343 : Int) < (p : Int) := by omega
            have HC := Lib.hid (show cpB p false = false by rw [hc]; simp [h4, h5])
            clear hc h3
            go_enter Try.func34, Try.ntmps34
            go_wp2
            go_ret
            exact ⟨ret_bool HC.out.symm, rfl⟩

def LenPost (w : World) (e : Ending) (w' : World) : Prop := w' = w ∧ ∃ k : Nat, k ≤ 4 ∧ e = .returned (.int .i64 (k : Int))
set_option maxHeartbeats 400000 in
theorem len35 (p : Nat) (hp : Scalar p) (w : World) : Calls Try.prog 35 #[.int .i32 (p : Int)] w (LenPost w) := by
  obtain ⟨h1, h2⟩ := hp
  rw [isSur_not] at h2
  have q0 : ¬ (p : Int) < 0 := by omega
  by_cases a : p ≤ 127
  · have q1 : (p : Int) ≤ 127 := by omega
    go_enter Try.func35, Try.ntmps35
    go_wp2
    go_ret
    exact ⟨rfl, 1, by omega, rfl⟩
  · have q1 : ¬ (p : Int) ≤ 127 := by omega
    by_cases b : p ≤ 2047
    · have q2 : (p : Int) ≤ 2047 := by omega
      go_enter Try.func35, Try.ntmps35
      go_wp2
      go_ret
      exact ⟨rfl, 2, by omega, rfl⟩
    · have q2 : ¬ (p : Int) ≤ 2047 := by omega
      by_cases c : p < 55296
      · have q3 : ¬ (55296 : Int) ≤ (p : Int) := by omega
        have q4 : (p : Int) ≤ 65535 := by omega
        clear h2
        go_enter Try.func35, Try.ntmps35
        go_wp2
        go_ret
        exact ⟨rfl, 3, by omega, rfl⟩
      · have q3 : (55296 : Int) ≤ (p : Int) := by omega
        have q3' : ¬ (p : Int) ≤ 57343 := by omega
        by_cases d : p ≤ 65535
        · have q4 : (p : Int) ≤ 65535 := by omega
          clear h2
          go_enter Try.func35, Try.ntmps35
          go_wp2
          go_ret
          exact ⟨rfl, 3, by omega, rfl⟩
        · have q4 : ¬ (p : Int) ≤ 65535 := by omega
          have q5 : (p : Int) ≤ 1114111 := by omega
          clear h2
          go_enter Try.func35, Try.ntmps35
          go_wp2
          go_ret
          exact ⟨rfl, 4, by omega, rfl⟩
end Go.Proofs.Ytolgpnkofnibjaa
