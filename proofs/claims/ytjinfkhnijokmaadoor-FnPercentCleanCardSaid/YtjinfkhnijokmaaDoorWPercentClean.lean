/- The walk of 'laws.FnPercentClean'. -/
import Derived.Test.YtjinfkhnijokmaaDoorPcF
namespace Go.Proofs.YtjinfkhnijokmaaDoor
open Go.RowKit Stamp
set_option linter.unusedVariables false

theorem url_clean {mime l : List UInt8} (h : mimeB mime = true) : ∀ c ∈ pcUrl mime l, cleanC c = true := by
  intro c hc
  have hm : ∀ c ∈ mime, cleanC c = true := fun c hc => by
    have := List.all_eq_true.1 h c hc
    simp [mimeC] at this
    simp [cleanC]; omega
  simp only [pcUrl, pcPre, List.mem_append] at hc
  rcases hc with ((hc | hc) | hc) | hc
  · have : ∀ c ∈ ([100, 97, 116, 97, 58] : List UInt8), cleanC c = true := by decide
    exact this c hc
  · exact hm c hc
  · have : ∀ c ∈ ([44] : List UInt8), cleanC c = true := by decide
    exact this c hc
  · exact esc_clean l c hc
theorem url_last (mime l : List UInt8) : ∃ c, (pcUrl mime l).getLast? = some c ∧ 32 < c.toNat := by
  by_cases hl : l = []
  · subst hl
    exact ⟨44, by rw [pcUrl, escL, List.append_nil, pcPre, List.getLast?_concat], by decide⟩
  · exact esc_last l (pcPre mime) hl
theorem url_len (mime l : List UInt8) : (pcUrl mime l).length ≤ 6 + mime.length + 3 * l.length := by
  have := escL_len l
  simp [pcUrl, pcPre]; omega
theorem Clean_url (url mime text : ByteArray) (hu : url.data.toList = pcUrl mime.data.toList text.data.toList) (hmm : mimeB mime.data.toList = true) (hm : mime.size ≤ 2147483647) (hs : text.size ≤ 2147483647) (w : World) :
    Calls Tryd.prog 10 #[.string url] w fun e w' => e = .returned (.bool true) ∧ w' = w := by
  obtain ⟨c, h1, h2⟩ := url_last mime.data.toList text.data.toList
  refine Clean_yes url c (by rw [hu]; exact h1) h2 (fun x hx => url_clean hmm x (by rw [← hu]; exact hx)) ?_ w
  have h3 := url_len mime.data.toList text.data.toList
  rw [← hu] at h3
  simp at h3
  have e : url.data.size = url.size := rfl
  have e2 : mime.data.size = mime.size := rfl
  have e3 : text.data.size = text.size := rfl
  omega
set_option maxRecDepth 100000 in
set_option maxHeartbeats 1000000 in
theorem PercentClean_walk (mime : ByteArray) (hm9 : mime.size ≤ 9223372036854775807) (s : ByteArray) (hs9 : s.size ≤ 9223372036854775807) (w : World) (hT : Lib.Utf8Tabs 0 1 w) :
    Calls Tryd.prog 4 #[.string mime, .string s] w fun e w' => e = .returned (.bool true) ∧ Below w.heap.size w w' := by
  by_cases hm : 2147483647 < mime.size
  · have h1 : (2147483647 : Int) < (mime.size : Int) := by omega
    clear hT
    go_enter Tryd.func4, Tryd.ntmps4
    go_wp2
    go_ret
    exact ⟨rfl, Below.refl _ _⟩
  have h1 : ¬ (2147483647 : Int) < (mime.size : Int) := by omega
  by_cases hs : 2147483647 < s.size
  · have h2 : (2147483647 : Int) < (s.size : Int) := by omega
    clear hT
    go_enter Tryd.func4, Tryd.ntmps4
    go_wp2
    go_ret
    exact ⟨rfl, Below.refl _ _⟩
  have h2 : ¬ (2147483647 : Int) < (s.size : Int) := by omega
  have HT := Lib.hid hT
  clear hT
  cases hv : validB s.data.toList with
  | false =>
    have HV := Lib.hid hv
    have HP := Lib.hid (PU_no mime s (by omega) (by omega) hv w HT.out)
    clear hv
    cases hmm : mimeB mime.data.toList with
    | false =>
      have HM := Lib.hid hmm
      clear hmm
      go_enter Tryd.func4, Tryd.ntmps4
      go_wp2_with fail
      refine HP.out.mono ?_
      rintro e w1 ⟨⟨url, rfl⟩, hb⟩
      go_wp2_with fail
      refine (Mime_calls mime (by omega) _).mono ?_
      rintro e w2 ⟨rfl, rfl⟩
      rw [HM.out]
      go_wp2
      go_ret
      exact ⟨rfl, hb⟩
    | true =>
      have HM := Lib.hid hmm
      clear hmm
      go_enter Tryd.func4, Tryd.ntmps4
      go_wp2_with fail
      refine HP.out.mono ?_
      rintro e w1 ⟨⟨url, rfl⟩, hb⟩
      go_wp2_with fail
      refine (Mime_calls mime (by omega) _).mono ?_
      rintro e w2 ⟨rfl, rfl⟩
      rw [HM.out]
      have hbs := hb.size
      go_wp2_with fail
      refine (Valid_calls s _ (by omega)).mono ?_
      rintro e w3 ⟨rfl, hb3⟩
      rw [HV.out]
      go_wp2
      go_ret
      exact ⟨rfl, hb.trans (hb3.mono hbs)⟩
  | true =>
    have HV := Lib.hid hv
    have HP := Lib.hid (PU_yes mime s (by omega) (by omega) hv w HT.out)
    clear hv
    cases hmm : mimeB mime.data.toList with
    | false =>
      have HM := Lib.hid hmm
      clear hmm
      go_enter Tryd.func4, Tryd.ntmps4
      go_wp2_with fail
      refine HP.out.mono ?_
      rintro e w1 ⟨⟨url, rfl, hurl⟩, hb⟩
      go_wp2_with fail
      refine (Mime_calls mime (by omega) _).mono ?_
      rintro e w2 ⟨rfl, rfl⟩
      rw [HM.out]
      go_wp2
      go_ret
      exact ⟨rfl, hb⟩
    | true =>
      have HM := Lib.hid hmm
      clear hmm
      go_enter Tryd.func4, Tryd.ntmps4
      go_wp2_with fail
      refine HP.out.mono ?_
      rintro e w1 ⟨⟨url, rfl, hurl⟩, hb⟩
      go_wp2_with fail
      refine (Mime_calls mime (by omega) _).mono ?_
      rintro e w2 ⟨rfl, rfl⟩
      rw [HM.out]
      have hbs := hb.size
      go_wp2_with fail
      refine (Valid_calls s _ (by omega)).mono ?_
      rintro e w3 ⟨rfl, hb3⟩
      rw [HV.out]
      have hb3 := hb.trans (hb3.mono hbs)
      have hb3s := hb3.size
      clear hb
      go_wp2_with fail
      refine (Clean_url url mime s hurl.out HM.out (by omega) (by omega) _).mono ?_
      rintro e w4 ⟨rfl, rfl⟩
      go_wp2
      go_ret
      exact ⟨rfl, hb3⟩
end Go.Proofs.YtjinfkhnijokmaaDoor
