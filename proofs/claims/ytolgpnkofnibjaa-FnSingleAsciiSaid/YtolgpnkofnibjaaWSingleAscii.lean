/- The walk of 'laws.FnSingleAscii'. -/
import Derived.Test.YtolgpnkofnibjaaQuI
import Derived.Test.YtolgpnkofnibjaaIsA
import Derived.Test.YtolgpnkofnibjaaPoints
namespace Go.Proofs.Ytolgpnkofnibjaa
open Go.RowKit Stamp
set_option linter.unusedVariables false

set_option maxRecDepth 100000 in
set_option maxHeartbeats 1000000 in
theorem SingleAscii_walk (s : ByteArray) (hm : s.size ≤ 9223372036854775807) (w : World) : Calls Try.prog 6 #[.string s] w fun e w' => e = .returned (.bool true) ∧ Below w.heap.size w w' := by
  by_cases hs : 2147483647 < s.size
  · have h1 : (2147483647 : Int) < (s.size : Int) := by omega
    go_enter Try.func6, Try.ntmps6
    go_wp2
    go_ret
    exact ⟨rfl, Below.refl _ _⟩
  · have h1 : ¬ (2147483647 : Int) < (s.size : Int) := by omega
    cases hv : validB s.data.toList with
    | false =>
      have HV := Lib.hid hv
      clear hv
      go_enter Try.func6, Try.ntmps6
      go_wp2_with fail
      refine (Valid_calls s w (by omega)).mono ?_
      rintro e w1 ⟨rfl, hb⟩
      rw [HV.out]
      go_wp2
      go_ret
      exact ⟨rfl, hb⟩
    | true =>
      have HV := Lib.hid hv
      obtain ⟨ps, hps⟩ := valid_points hv
      obtain ⟨hl, hsc⟩ := points_sound _ _ hps
      have HQ := Lib.hid (fun w => QS s ps hl hsc (by omega) true w)
      have hlen : (bsN (Stamp.quoted true 39 ps)).size ≤ 12 * s.size + 2 := by
        rw [bsN_size, quoted_len]
        have a := qAll_len true 39 ps
        have b := encAll_len ps
        have e : s.data.toList.length = s.size := by simp
        rw [hl] at e
        omega
      have hlen2 : 2 ≤ (bsN (Stamp.quoted true 39 ps)).size := by rw [bsN_size, quoted_len]; omega
      have HA := Lib.hid (show allB asciiC (bsN (Stamp.quoted true 39 ps)).data.toList = true by
        unfold allB
        rw [bsN_data, List.all_eq_true]
        intro x hx
        obtain ⟨n, hn, rfl⟩ := List.mem_map.1 hx
        have := quoted_bd (ascii := true) (q := 39) (by decide) hsc n hn
        have h2 := this.2 rfl
        unfold asciiC
        rw [toNat_ofNat_lt this.1]
        simp; omega)
      obtain ⟨z, hz⟩ : ∃ z, z = bsN (Stamp.quoted true 39 ps) := ⟨_, rfl⟩
      rw [← hz] at HQ hlen hlen2 HA
      clear hv hps hl hsc hz
      go_enter Try.func6, Try.ntmps6
      go_wp2_with fail
      refine (Valid_calls s w (by omega)).mono ?_
      rintro e w1 ⟨rfl, hb⟩
      rw [HV.out]
      go_wp2_with fail
      refine (HQ.out _).mono ?_
      rintro e w2 ⟨rfl, hb2⟩
      go_wp2_with fail
      refine (IsASCII_calls z (by omega) _).mono ?_
      rintro e w3 ⟨rfl, rfl⟩
      rw [HA.out]
      have hbs := hb.size
      have hd : decide ((1 : Int) < (z.size : Int)) = true := by simp; omega
      go_wp2
      go_ret
      exact ⟨rfl, hb.trans (hb2.mono hbs)⟩
end Go.Proofs.Ytolgpnkofnibjaa
