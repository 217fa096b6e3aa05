/- The walk of 'laws.FnPercentValid'. -/
import Derived.Test.YtjinfkhnijokmaaDoorPcF
namespace Go.Proofs.YtjinfkhnijokmaaDoor
open Go.RowKit Stamp
set_option linter.unusedVariables false

set_option maxRecDepth 100000 in
set_option maxHeartbeats 1000000 in
theorem PercentValid_walk (mime : ByteArray) (hm9 : mime.size ≤ 9223372036854775807) (s : ByteArray) (hs9 : s.size ≤ 9223372036854775807) (w : World) (hT : Lib.Utf8Tabs 0 1 w) :
    Calls Tryd.prog 5 #[.string mime, .string s] w fun e w' => e = .returned (.bool true) ∧ Below w.heap.size w w' := by
  by_cases hm : 2147483647 < mime.size
  · have h1 : (2147483647 : Int) < (mime.size : Int) := by omega
    clear hT
    go_enter Tryd.func5, Tryd.ntmps5
    go_wp2
    go_ret
    exact ⟨rfl, Below.refl _ _⟩
  have h1 : ¬ (2147483647 : Int) < (mime.size : Int) := by omega
  by_cases hs : 2147483647 < s.size
  · have h2 : (2147483647 : Int) < (s.size : Int) := by omega
    clear hT
    go_enter Tryd.func5, Tryd.ntmps5
    go_wp2
    go_ret
    exact ⟨rfl, Below.refl _ _⟩
  have h2 : ¬ (2147483647 : Int) < (s.size : Int) := by omega
  have HT := Lib.hid hT
  clear hT
  cases hv : validB s.data.toList with
  | false =>
    have HV := Lib.hid hv
    have HP := Lib.hid (PU_no mime s (by omega) (by omega) hv w HT.out)
    have HA := Lib.hid (fun W hT => PU_yes mime (⟨#[97]⟩ : ByteArray) (by omega) (by decide) (by decide +kernel) W hT)
    clear hv
    go_enter Tryd.func5, Tryd.ntmps5
    go_wp2_with fail
    refine HP.out.mono ?_
    rintro e w1 ⟨⟨url, rfl⟩, hb⟩
    have hbs := hb.size
    go_wp2_with fail
    refine (HA.out _ (Go.Proofs.Utf8Tabs_below HT.out hb)).mono ?_
    rintro e w2 ⟨⟨url2, rfl, hurl2⟩, hb2⟩
    have hb2 := hb.trans (hb2.mono hbs)
    have hb2s := hb2.size
    clear hb
    go_wp2_with fail
    refine (Valid_calls s _ (by omega)).mono ?_
    rintro e w3 ⟨rfl, hb3⟩
    rw [HV.out]
    go_wp2
    go_ret
    exact ⟨rfl, hb2.trans (hb3.mono hb2s)⟩
  | true =>
    have HV := Lib.hid hv
    have HP := Lib.hid (PU_yes mime s (by omega) (by omega) hv w HT.out)
    have HA := Lib.hid (fun W hT => PU_yes mime (⟨#[97]⟩ : ByteArray) (by omega) (by decide) (by decide +kernel) W hT)
    clear hv
    go_enter Tryd.func5, Tryd.ntmps5
    go_wp2_with fail
    refine HP.out.mono ?_
    rintro e w1 ⟨⟨url, rfl, hurl⟩, hb⟩
    have hbs := hb.size
    go_wp2_with fail
    refine (HA.out _ (Go.Proofs.Utf8Tabs_below HT.out hb)).mono ?_
    rintro e w2 ⟨⟨url2, rfl, hurl2⟩, hb2⟩
    have hb2 := hb.trans (hb2.mono hbs)
    have hb2s := hb2.size
    clear hb
    go_wp2_with fail
    refine (Valid_calls s _ (by omega)).mono ?_
    rintro e w3 ⟨rfl, hb3⟩
    rw [HV.out]
    go_wp2
    go_ret
    exact ⟨rfl, hb2.trans (hb3.mono hb2s)⟩
end Go.Proofs.YtjinfkhnijokmaaDoor
