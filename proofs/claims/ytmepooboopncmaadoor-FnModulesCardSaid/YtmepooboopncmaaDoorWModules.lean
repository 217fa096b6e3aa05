/- The walk of 'laws.FnModules'. -/
import Derived.Test.YtmepooboopncmaaDoorMoC
namespace Go.Proofs.YtmepooboopncmaaDoor
open Go.RowKit Stamp
set_option linter.unusedVariables false

set_option maxRecDepth 1000000 in
set_option maxHeartbeats 2000000 in
theorem Modules_walk (s : ByteArray) (hs9 : s.size ≤ 9223372036854775807) (w : World) (hT : Lib.Utf8Tabs 4 5 w) :
    Calls Tryd.prog 3 #[.string s] w fun e w' => e = .returned (.bool true) ∧ Below w.heap.size w w' := by
  by_cases hs : 2147483647 < s.size
  · have h1 : (2147483647 : Int) < (s.size : Int) := by omega
    clear hT
    go_enter Tryd.func3, Tryd.ntmps3
    go_wp2
    go_ret
    exact ⟨rfl, Below.refl _ _⟩
  · have h1 : ¬ (2147483647 : Int) < (s.size : Int) := by omega
    have HT := Lib.hid hT
    have HA := Lib.hid (fun W hT => Impl_calls (⟨#[47, 110, 111, 100, 101, 95, 109, 111, 100, 117, 108, 101, 115, 47, 97]⟩ : ByteArray) (by decide) W hT)
    have ha : modF true [] (⟨#[47, 110, 111, 100, 101, 95, 109, 111, 100, 117, 108, 101, 115, 47, 97]⟩ : ByteArray).data.toList = true := by decide
    rw [ha] at HA
    cases hv : modF true [] s.data.toList with
    | false =>
      have HI := Lib.hid (fun W hT => Impl_calls s (by omega) W hT)
      have HS := Lib.hid (fun W => Spec_calls s (by omega) W)
      rw [hv] at HI HS
      clear hv ha hT
      go_enter Tryd.func3, Tryd.ntmps3
      go_wp2_with fail
      refine (HI.out _ HT.out).mono ?_
      rintro e w1 ⟨rfl, hb⟩
      have hbs := hb.size
      go_wp2_with fail
      refine (HS.out _).mono ?_
      rintro e w2 ⟨rfl, rfl⟩
      have hTw := Lib.hid (Go.Proofs.Utf8Tabs_below HT.out hb)
      go_wp2_with fail
      refine (HA.out _ hTw.out).mono ?_
      rintro e w3 ⟨rfl, hb2⟩
      go_wp2
      go_ret
      exact ⟨rfl, hb.trans (hb2.mono hbs)⟩
    | true =>
      have HI := Lib.hid (fun W hT => Impl_calls s (by omega) W hT)
      have HS := Lib.hid (fun W => Spec_calls s (by omega) W)
      rw [hv] at HI HS
      clear hv ha hT
      go_enter Tryd.func3, Tryd.ntmps3
      go_wp2_with fail
      refine (HI.out _ HT.out).mono ?_
      rintro e w1 ⟨rfl, hb⟩
      have hbs := hb.size
      go_wp2_with fail
      refine (HS.out _).mono ?_
      rintro e w2 ⟨rfl, rfl⟩
      have hTw := Lib.hid (Go.Proofs.Utf8Tabs_below HT.out hb)
      go_wp2_with fail
      refine (HA.out _ hTw.out).mono ?_
      rintro e w3 ⟨rfl, hb2⟩
      go_wp2
      go_ret
      exact ⟨rfl, hb.trans (hb2.mono hbs)⟩
end Go.Proofs.YtmepooboopncmaaDoor
