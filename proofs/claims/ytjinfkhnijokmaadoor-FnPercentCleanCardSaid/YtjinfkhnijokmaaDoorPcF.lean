/- The contracts of 'spec.IsData' and 'impl.PercentURL'. -/
import Derived.Test.YtjinfkhnijokmaaDoorPcE
import Derived.Test.YtjinfkhnijokmaaDoorPcD
import Derived.Deep.QuietTactic
import Derived.BigQuiet
namespace Go.Proofs.YtjinfkhnijokmaaDoor
open Go.RowKit Stamp
set_option linter.unusedVariables false

theorem cat3 (a b c : ByteArray) : (a ++ b ++ c).data.toList = a.data.toList ++ b.data.toList ++ c.data.toList := by
  rw [ByteArray.data_append, ByteArray.data_append, Array.toList_append, Array.toList_append]
set_option maxRecDepth 100000 in
set_option maxHeartbeats 1000000 in
theorem IsData_calls (url mime text : ByteArray) (hu : url.data.toList = pcUrl mime.data.toList text.data.toList) (hm : mime.size ≤ 2147483647) (hs : text.size ≤ 2147483647) (w : World) :
    Calls Tryd.prog 9 #[.string url, .string mime, .string text] w fun e w' => e = .returned (.bool true) ∧ Below w.heap.size w w' := by
  have hz : url.size = 6 + mime.size + (escL text.data.toList).length := by
    have := congrArg List.length hu
    simp [pcUrl, pcPre] at this
    have e : url.data.size = url.size := rfl
    have e2 : mime.data.size = mime.size := rfl
    omega
  have hz2 := escL_len text.data.toList
  have hz3 : text.data.toList.length = text.size := by simp
  have HB1 : Hid (∀ W, Calls Tryd.prog 13 #[.string url, .string ((⟨#[100, 97, 116, 97, 58]⟩ : ByteArray) ++ mime ++ (⟨#[59, 98, 97, 115, 101, 54, 52, 44]⟩ : ByteArray))] W fun e w' => e = .returned (.bool false) ∧ w' = W) := Lib.hid fun W => by
    refine begins_no _ _ (fun r hr => ?_) (by omega) (by simp; show 5 + mime.size + 8 ≤ _; omega) W
    rw [hu, cat3, pcUrl, pcPre, List.append_assoc, List.append_assoc, List.append_assoc, List.append_assoc] at hr
    have h1 := List.append_cancel_left hr
    have h2 := List.append_cancel_left h1
    cases h2
  have HB2 : Hid (∀ W, Calls Tryd.prog 13 #[.string url, .string ((⟨#[100, 97, 116, 97, 58]⟩ : ByteArray) ++ mime ++ (⟨#[44]⟩ : ByteArray))] W fun e w' => e = .returned (.bool true) ∧ w' = W) := Lib.hid fun W => by
    refine begins_yes _ _ (escL text.data.toList) ?_ (by omega) W
    rw [hu, cat3]; rfl
  have hx2 : ((⟨#[100, 97, 116, 97, 58]⟩ : ByteArray) ++ mime ++ (⟨#[44]⟩ : ByteArray)).size = 6 + mime.size := by simp; show 5 + mime.size + 1 = _; omega
  have HD : Hid (∀ n, n = 6 + mime.size → ∀ W, Calls Tryd.prog 15 #[.string (url.extract n url.size)] W fun e w' => e = .returned (.string text) ∧ Below W.heap.size W w') := Lib.hid fun n hn W => by
    have e : (url.extract n url.size).data.toList = escL text.data.toList := by
      rw [cut_bytes, hu, hn, pcUrl]
      have hl : (pcPre mime.data.toList).length = 6 + mime.size := by simp [pcPre]; show mime.size + 1 + 1 + 1 + 1 + 1 + 1 = 6 + mime.size; omega
      rw [← hl, List.drop_left, List.take_of_length_le (by omega)]
    have := Decoded_calls (url.extract n url.size) (by rw [ByteArray.size_extract]; omega) W
    rw [e, dec_esc] at this
    exact this
  have hbe : (text.toList == text.toList) = true := by simp
  have HZ := Lib.hid hx2
  have hlt : (6 : Int) + (mime.size : Int) ≤ (url.size : Int) := by omega
  clear hu hz2 hz3 hx2 hz
  go_enter Tryd.func9, Tryd.ntmps9
  go_wp2_with fail
  go_quiet ((go_at_call 13; exact Calls.quiet_of_same (HB1.out _)))
  go_wp2_with fail
  refine (HB2.out _).mono ?_
  rintro e w1 ⟨rfl, rfl⟩
  go_wp2_with fail
  refine (HD.out _ ?_ _).mono ?_
  · omega
  rintro e w2 ⟨rfl, hb⟩
  go_wp2
  go_ret
  exact ⟨rfl, (below_drewN (Below.refl _ w) nq).trans hb⟩

set_option maxRecDepth 100000 in
theorem PU_yes (mime text : ByteArray) (hm : mime.size ≤ 2147483647) (hs : text.size ≤ 2147483647) (hv : validB text.data.toList = true) (w : World) (hT : Lib.Utf8Tabs 0 1 w) :
    Calls Tryd.prog 6 #[.string mime, .string text] w fun e w' => (∃ url : ByteArray, e = .returned (.tuple #[.string url, .bool true]) ∧ Hid (url.data.toList = pcUrl mime.data.toList text.data.toList)) ∧ Below w.heap.size w w' := by
  have HC := Lib.hid (Enc_calls mime text hm hs w hT)
  have HV := Lib.hid hv
  clear hT hv
  go_enter Tryd.func6, Tryd.ntmps6
  go_wp2_with fail
  refine HC.out.mono ?_
  rintro e w1 ⟨rfl, hb⟩
  rw [HV.out, if_pos rfl]
  go_wp2
  go_ret2
  exact ⟨⟨_, rfl, Lib.hid rfl⟩, hb⟩
set_option maxRecDepth 100000 in
theorem PU_no (mime text : ByteArray) (hm : mime.size ≤ 2147483647) (hs : text.size ≤ 2147483647) (hv : validB text.data.toList = false) (w : World) (hT : Lib.Utf8Tabs 0 1 w) :
    Calls Tryd.prog 6 #[.string mime, .string text] w fun e w' => (∃ url : ByteArray, e = .returned (.tuple #[.string url, .bool false])) ∧ Below w.heap.size w w' := by
  have HC := Lib.hid (Enc_calls mime text hm hs w hT)
  have HV := Lib.hid hv
  clear hT hv
  go_enter Tryd.func6, Tryd.ntmps6
  go_wp2_with fail
  refine HC.out.mono ?_
  rintro e w1 ⟨rfl, hb⟩
  rw [HV.out, if_neg (by decide)]
  go_wp2
  go_ret2
  exact ⟨⟨_, rfl⟩, hb⟩
end Go.Proofs.YtjinfkhnijokmaaDoor
