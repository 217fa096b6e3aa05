/- The contract of 'spec.Has' at a text of one byte. -/
import Derived.Test.YtolgpnkofnibjaaChecked
import Derived.WalkKit
import Derived.Test.YtolgpnkofnibjaaMem
import Derived.Lib.IndexBytes
import Derived.Laws.DeepStrings4
namespace Go.Proofs.Ytolgpnkofnibjaa
open Go.RowKit Stamp
set_option linter.unusedVariables false

def hasB (l : List UInt8) (c : UInt8) : Bool := l.contains c
theorem has_take_snoc {l : List UInt8} {k : Nat} {c x : UInt8} (h : hasB (l.take k) c = false) (hx : l[k]? = some x) (hne : x ≠ c) : hasB (l.take (k + 1)) c = false := by
  unfold hasB at h ⊢
  rw [List.take_add_one, hx]
  simp at h ⊢
  exact ⟨h, fun e => hne e.symm⟩
theorem has_at {l : List UInt8} {k : Nat} {c : UInt8} (hx : l[k]? = some c) : hasB l c = true := by
  unfold hasB
  simpa using List.mem_of_getElem? hx
theorem piece_one (s : ByteArray) (k : Nat) (h : k < s.size) : (s.extract k (k + 1)).data.toList = [s[k]] := by
  rw [Lib.extract_eq]
  have e : s.data.toList[k]? = some s[k] := Lib.data_getElem? s k h
  have h2 : s.data.toList.length = s.size := by simp
  rw [show k + 1 - k = 1 by omega]
  rw [List.drop_eq_getElem_cons (by omega)]
  rw [List.getElem?_eq_getElem (by omega)] at e
  injection e with e
  simp [e]

set_option maxRecDepth 100000 in
set_option maxHeartbeats 1000000 in
theorem Has_calls (s : ByteArray) (c : UInt8) (hs : s.size ≤ 9223372036854775806) (w : World) : Calls Try.prog 16 #[.string s, .string ⟨#[c]⟩] w fun e w' => e = .returned (.bool (hasB s.data.toList c)) ∧ w' = w := by
  have hx1 : ByteArray.size ⟨#[c]⟩ = 1 := rfl
  go_enter Try.func16, Try.ntmps16
  go_wp2
  go_loop [5] (fun i => ∃ k : Nat, k ≤ s.size ∧ i = .int .i64 k ∧ Hid (hasB (s.data.toList.take k) c = false)) (fun i => s.size - (intOf i).toNat)
  case atStart => exact ⟨0, Nat.zero_le _, rfl, Lib.hid rfl⟩
  case round =>
    obtain ⟨k, hk, rfl, hh⟩ := hrel
    by_cases hlt : k < s.size
    · have h1 : ((k : Int) + 1) ≤ (s.size : Int) := by omega
      have hpc := piece_one s k hlt
      have hsl : ∀ W, (Instr.slice 9 (Value.string s) (some (Value.int IntKind.i64 (k : Int))) (some (Value.int IntKind.i64 ((k : Int) + 1))) none).run Try.prog W = .ok (.string (s.extract k (k + 1))) W := fun W => by
        have := run_slice_string_if (P := Try.prog) W 9 s .i64 .i64 k ((k + 1 : Nat) : Int) Try.underlying9
        rw [if_pos ⟨by omega, by omega⟩, if_pos ⟨by omega, by omega⟩] at this
        exact this
      have hpl : (s.extract k (k + 1)).toList = [s[k]] := by rw [Go.ByteArray.toList_eq, hpc]
      by_cases he : s[k] = c
      · have ht : ((s.extract k (k + 1)).toList == [c]) = true := by
          rw [hpl]; simp [he]
        have HR := Lib.hid (has_at (c := c) (by rw [← he]; exact Lib.data_getElem? s k hlt))
        clear he hpc hpl
        go_wp2
        go_ret
        exact ⟨ret_bool HR.out.symm, rfl⟩
      · have ht : ((s.extract k (k + 1)).toList == [c]) = false := by
          rw [hpl]; simp [he]
        have HR := Lib.hid (has_take_snoc hh.out (Lib.data_getElem? s k hlt) he)
        clear he hpc hpl
        go_wp2
        go_round
        case rel => exact ⟨k + 1, by omega, by go_num, HR⟩
        case measure => simp [intOf]; omega
    · have h1 : ¬ ((k : Int) + 1) ≤ (s.size : Int) := by omega
      have HR := Lib.hid (show hasB s.data.toList c = false by have := hh.out; rwa [List.take_of_length_le (by simp; show s.size ≤ k; omega)] at this)
      go_wp2
      go_ret
      exact ⟨ret_bool HR.out.symm, rfl⟩
end Go.Proofs.Ytolgpnkofnibjaa
