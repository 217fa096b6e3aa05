/- The contracts of 'spec.IsASCII', 'spec.IsPlain'. -/
import Derived.Test.YtolgpnkofnibjaaChecked
import Derived.WalkKit
import Derived.Test.YtolgpnkofnibjaaMem
import Derived.Test.YtolgpnkofnibjaaQuL
import Derived.Lib.IndexBytes
namespace Go.Proofs.Ytolgpnkofnibjaa
open Go.RowKit Stamp
set_option linter.unusedVariables false

def asciiC (c : UInt8) : Bool := decide (32 ≤ c.toNat) && decide (c.toNat ≤ 126)
def allB (f : UInt8 → Bool) (l : List UInt8) : Bool := l.all f
theorem all_take {f : UInt8 → Bool} {l : List UInt8} {k : Nat} {x : UInt8} (h : allB f (l.take k) = true) (hx : l[k]? = some x) (hc : f x = true) : allB f (l.take (k + 1)) = true := by
  unfold allB at h ⊢
  rw [List.take_add_one, hx, List.all_append, h]; simp [hc]
theorem all_not {f : UInt8 → Bool} {l : List UInt8} {k : Nat} {x : UInt8} (hx : l[k]? = some x) (hc : f x = false) : allB f l = false := by
  unfold allB
  rw [List.all_eq_false]
  exact ⟨x, List.mem_of_getElem? hx, by simp [hc]⟩


set_option maxRecDepth 100000 in
set_option maxHeartbeats 2000000 in
theorem IsASCII_calls (s : ByteArray) (hs : s.size ≤ 9223372036854775806) (w : World) : Calls Try.prog 15 #[.string s] w fun e w' => e = .returned (.bool (allB asciiC s.data.toList)) ∧ w' = w := by
  go_enter Try.func15, Try.ntmps15
  go_wp2
  go_loop [6] (fun i => ∃ k : Nat, k ≤ s.size ∧ i = .int .i64 k ∧ Hid (allB asciiC (s.data.toList.take k) = true)) (fun i => s.size - (intOf i).toNat)
  case atStart => exact ⟨0, Nat.zero_le _, rfl, Lib.hid rfl⟩
  case round =>
    obtain ⟨k, hk, rfl, hh⟩ := hrel
    by_cases hlt : k < s.size
    · have hlt' : (k : Int) < (s.size : Int) := by omega
      have hx := Lib.hid (Lib.data_getElem? s k hlt)
      have hb := s[k].toNat_lt
      rcases (show s[k].toNat < 32 ∨ (32 ≤ s[k].toNat ∧ s[k].toNat ≤ 126) ∨ 127 ≤ s[k].toNat by omega) with hc | hc | hc
      · have hlo : (0 : Int) ≤ (s[k].toNat : Int) := by omega
        have hhi : (s[k].toNat : Int) ≤ 31 := by omega
        have HC := Lib.hid (show asciiC s[k] = false by unfold asciiC; simp; omega)
        clear hc
        go_wp2
        go_ret
        exact ⟨by rw [all_not hx.out HC.out]; rfl, rfl⟩
      · have hlo : (32 : Int) ≤ (s[k].toNat : Int) := by omega
        have hhi : (s[k].toNat : Int) ≤ 126 := by omega
        have HC := Lib.hid (show asciiC s[k] = true by unfold asciiC; simp; omega)
        clear hc
        go_wp2
        go_round
        case rel => exact ⟨k + 1, by omega, by go_num, Lib.hid (all_take hh.out hx.out HC.out)⟩
        case measure => simp [intOf]; omega
      · have hlo : (127 : Int) ≤ (s[k].toNat : Int) := by omega
        have hhi : (s[k].toNat : Int) ≤ 255 := by omega
        have HC := Lib.hid (show asciiC s[k] = false by unfold asciiC; simp; omega)
        clear hc
        go_wp2
        go_ret
        exact ⟨by rw [all_not hx.out HC.out]; rfl, rfl⟩
    · have HR := Lib.hid (show allB asciiC s.data.toList = true by have := hh.out; rwa [List.take_of_length_le (by simp; show s.size ≤ k; omega)] at this)
      go_wp2
      go_ret
      exact ⟨by rw [HR.out]; rfl, rfl⟩

set_option maxRecDepth 100000 in
set_option maxHeartbeats 2000000 in
theorem IsPlain_calls (s : ByteArray) (hs : s.size ≤ 9223372036854775806) (w : World) : Calls Try.prog 19 #[.string s] w fun e w' => e = .returned (.bool (allB plainC s.data.toList)) ∧ w' = w := by
  go_enter Try.func19, Try.ntmps19
  go_wp2
  go_loop [7] (fun i => ∃ k : Nat, k ≤ s.size ∧ i = .int .i64 k ∧ Hid (allB plainC (s.data.toList.take k) = true)) (fun i => s.size - (intOf i).toNat)
  case atStart => exact ⟨0, Nat.zero_le _, rfl, Lib.hid rfl⟩
  case round =>
    obtain ⟨k, hk, rfl, hh⟩ := hrel
    by_cases hlt : k < s.size
    · have hlt' : (k : Int) < (s.size : Int) := by omega
      have hx := Lib.hid (Lib.data_getElem? s k hlt)
      have hb := s[k].toNat_lt
      rcases (show s[k].toNat < 32 ∨ s[k].toNat = 32 ∨ (33 ≤ s[k].toNat ∧ s[k].toNat ≤ 47) ∨ (48 ≤ s[k].toNat ∧ s[k].toNat ≤ 57) ∨ (58 ≤ s[k].toNat ∧ s[k].toNat ≤ 64) ∨ (65 ≤ s[k].toNat ∧ s[k].toNat ≤ 90) ∨ (91 ≤ s[k].toNat ∧ s[k].toNat ≤ 96) ∨ (97 ≤ s[k].toNat ∧ s[k].toNat ≤ 122) ∨ 123 ≤ s[k].toNat by omega) with hc | hc | hc | hc | hc | hc | hc | hc | hc
      · have hlo : (0 : Int) ≤ (s[k].toNat : Int) := by omega
        have hhi : (s[k].toNat : Int) ≤ 31 := by omega
        have he : ((s[k].toNat : Int) != 32) = true := by simp; omega
        have HC := Lib.hid (show plainC s[k] = false by unfold plainC; simp; omega)
        clear hc
        go_wp2
        go_ret
        exact ⟨by rw [all_not hx.out HC.out]; rfl, rfl⟩
      · have hlo : (32 : Int) ≤ (s[k].toNat : Int) := by omega
        have hhi : (s[k].toNat : Int) ≤ 32 := by omega
        have he : ((s[k].toNat : Int) != 32) = false := by simp; omega
        have HC := Lib.hid (show plainC s[k] = true by unfold plainC; simp; omega)
        clear hc
        go_wp2
        go_round
        case rel => exact ⟨k + 1, by omega, by go_num, Lib.hid (all_take hh.out hx.out HC.out)⟩
        case measure => simp [intOf]; omega
      · have hlo : (33 : Int) ≤ (s[k].toNat : Int) := by omega
        have hhi : (s[k].toNat : Int) ≤ 47 := by omega
        have he : ((s[k].toNat : Int) != 32) = true := by simp; omega
        have HC := Lib.hid (show plainC s[k] = false by unfold plainC; simp; omega)
        clear hc
        go_wp2
        go_ret
        exact ⟨by rw [all_not hx.out HC.out]; rfl, rfl⟩
      · have hlo : (48 : Int) ≤ (s[k].toNat : Int) := by omega
        have hhi : (s[k].toNat : Int) ≤ 57 := by omega
        have he : ((s[k].toNat : Int) != 32) = true := by simp; omega
        have HC := Lib.hid (show plainC s[k] = true by unfold plainC; simp; omega)
        clear hc
        go_wp2
        go_round
        case rel => exact ⟨k + 1, by omega, by go_num, Lib.hid (all_take hh.out hx.out HC.out)⟩
        case measure => simp [intOf]; omega
      · have hlo : (58 : Int) ≤ (s[k].toNat : Int) := by omega
        have hhi : (s[k].toNat : Int) ≤ 64 := by omega
        have he : ((s[k].toNat : Int) != 32) = true := by simp; omega
        have HC := Lib.hid (show plainC s[k] = false by unfold plainC; simp; omega)
        clear hc
        go_wp2
        go_ret
        exact ⟨by rw [all_not hx.out HC.out]; rfl, rfl⟩
      · have hlo : (65 : Int) ≤ (s[k].toNat : Int) := by omega
        have hhi : (s[k].toNat : Int) ≤ 90 := by omega
        have he : ((s[k].toNat : Int) != 32) = true := by simp; omega
        have HC := Lib.hid (show plainC s[k] = true by unfold plainC; simp; omega)
        clear hc
        go_wp2
        go_round
        case rel => exact ⟨k + 1, by omega, by go_num, Lib.hid (all_take hh.out hx.out HC.out)⟩
        case measure => simp [intOf]; omega
      · have hlo : (91 : Int) ≤ (s[k].toNat : Int) := by omega
        have hhi : (s[k].toNat : Int) ≤ 96 := by omega
        have he : ((s[k].toNat : Int) != 32) = true := by simp; omega
        have HC := Lib.hid (show plainC s[k] = false by unfold plainC; simp; omega)
        clear hc
        go_wp2
        go_ret
        exact ⟨by rw [all_not hx.out HC.out]; rfl, rfl⟩
      · have hlo : (97 : Int) ≤ (s[k].toNat : Int) := by omega
        have hhi : (s[k].toNat : Int) ≤ 122 := by omega
        have he : ((s[k].toNat : Int) != 32) = true := by simp; omega
        have HC := Lib.hid (show plainC s[k] = true by unfold plainC; simp; omega)
        clear hc
        go_wp2
        go_round
        case rel => exact ⟨k + 1, by omega, by go_num, Lib.hid (all_take hh.out hx.out HC.out)⟩
        case measure => simp [intOf]; omega
      · have hlo : (123 : Int) ≤ (s[k].toNat : Int) := by omega
        have hhi : (s[k].toNat : Int) ≤ 255 := by omega
        have he : ((s[k].toNat : Int) != 32) = true := by simp; omega
        have HC := Lib.hid (show plainC s[k] = false by unfold plainC; simp; omega)
        clear hc
        go_wp2
        go_ret
        exact ⟨by rw [all_not hx.out HC.out]; rfl, rfl⟩
    · have HR := Lib.hid (show allB plainC s.data.toList = true by have := hh.out; rwa [List.take_of_length_le (by simp; show s.size ≤ k; omega)] at this)
      go_wp2
      go_ret
      exact ⟨by rw [HR.out]; rfl, rfl⟩
end Go.Proofs.Ytolgpnkofnibjaa
