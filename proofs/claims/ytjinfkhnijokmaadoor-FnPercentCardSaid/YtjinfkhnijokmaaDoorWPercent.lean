/- The walk of 'laws.FnPercent'. -/
import Derived.Test.YtjinfkhnijokmaaDoorPcF
namespace Go.Proofs.YtjinfkhnijokmaaDoor
open Go.RowKit Stamp
set_option linter.unusedVariables false

set_option maxRecDepth 100000 in
set_option maxHeartbeats 1000000 in
theorem Percent_walk (mime : ByteArray) (hm9 : mime.size ≤ 9223372036854775807) (s : ByteArray) (hs9 : s.size ≤ 9223372036854775807) (w : World) (hT : Lib.Utf8Tabs 0 1 w) :
    Calls Tryd.prog 3 #[.string mime, .string s] w fun e w' => e = .returned (.bool true) ∧ Below w.heap.size w w' := by
  by_cases hm : 2147483647 < mime.size
  · have h1 : (2147483647 : Int) < (mime.size : Int) := by omega
    clear hT
    go_enter Tryd.func3, Tryd.ntmps3
    go_wp2
    go_ret
    exact ⟨rfl, Below.refl _ _⟩
  have h1 : ¬ (2147483647 : Int) < (mime.size : Int) := by omega
  by_cases hs : 2147483647 < s.size
  · have h2 : (2147483647 : Int) < (s.size : Int) := by omega
    clear hT
    go_enter Tryd.func3, Tryd.ntmps3
    go_wp2
    go_ret
    exact ⟨rfl, Below.refl _ _⟩
  have h2 : ¬ (2147483647 : Int) < (s.size : Int) := by omega
  have HT := Lib.hid hT
  clear hT
  cases hv : validB s.data.toList with
  | false =>
    have HV := Lib.hid hv
    have HP := Lib.hid (PU_no mime s (by omega) (by omega) hv w HT.out)
    clear hv
    cases hmm : mimeB mime.data.toList with
    | false =>
      have HM := Lib.hid hmm
      clear hmm
      go_enter Tryd.func3, Tryd.ntmps3
      go_wp2_with fail
      refine HP.out.mono ?_
      rintro e w1 ⟨⟨url, rfl⟩, hb⟩
      go_wp2_with fail
      refine (Mime_calls mime (by omega) _).mono ?_
      rintro e w2 ⟨rfl, rfl⟩
      rw [HM.out]
      go_wp2
      go_ret
      exact ⟨rfl, hb⟩
    | true =>
      have HM := Lib.hid hmm
      clear hmm
      go_enter Tryd.func3, Tryd.ntmps3
      go_wp2_with fail
      refine HP.out.mono ?_
      rintro e w1 ⟨⟨url, rfl⟩, hb⟩
      go_wp2_with fail
      refine (Mime_calls mime (by omega) _).mono ?_
      rintro e w2 ⟨rfl, rfl⟩
      rw [HM.out]
      have hbs := hb.size
      go_wp2_with fail
      refine (Valid_calls s _ (by omega)).mono ?_
      rintro e w3 ⟨rfl, hb3⟩
      rw [HV.out]
      go_wp2
      go_ret
      exact ⟨rfl, hb.trans (hb3.mono hbs)⟩
  | true =>
    have HV := Lib.hid hv
    have HP := Lib.hid (PU_yes mime s (by omega) (by omega) hv w HT.out)
    clear hv
    cases hmm : mimeB mime.data.toList with
    | false =>
      have HM := Lib.hid hmm
      clear hmm
      go_enter Tryd.func3, Tryd.ntmps3
      go_wp2_with fail
      refine HP.out.mono ?_
      rintro e w1 ⟨⟨url, rfl, hurl⟩, hb⟩
      go_wp2_with fail
      refine (Mime_calls mime (by omega) _).mono ?_
      rintro e w2 ⟨rfl, rfl⟩
      rw [HM.out]
      go_wp2
      go_ret
      exact ⟨rfl, hb⟩
    | true =>
      have HM := Lib.hid hmm
      clear hmm
      go_enter Tryd.func3, Tryd.ntmps3
      go_wp2_with fail
      refine HP.out.mono ?_
      rintro e w1 ⟨⟨url, rfl, hurl⟩, hb⟩
      go_wp2_with fail
      refine (Mime_calls mime (by omega) _).mono ?_
      rintro e w2 ⟨rfl, rfl⟩
      rw [HM.out]
      have hbs := hb.size
      go_wp2_with fail
      refine (Valid_calls s _ (by omega)).mono ?_
      rintro e w3 ⟨rfl, hb3⟩
      rw [HV.out]
      have hb3 := hb.trans (hb3.mono hbs)
      have hb3s := hb3.size
      clear hb
      go_wp2_with fail
      refine (IsData_calls url mime s hurl.out (by omega) (by omega) _).mono ?_
      rintro e w4 ⟨rfl, hb4⟩
      go_wp2
      go_ret
      exact ⟨rfl, hb3.trans (hb4.mono hb3s)⟩
end Go.Proofs.YtjinfkhnijokmaaDoor
