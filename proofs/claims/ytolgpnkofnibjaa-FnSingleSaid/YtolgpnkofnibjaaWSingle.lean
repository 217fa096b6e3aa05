/- The walk of 'laws.FnSingle'. -/
import Derived.Test.YtolgpnkofnibjaaRdS
import Derived.Test.YtolgpnkofnibjaaWJSON
import Derived.Test.YtolgpnkofnibjaaHas1
namespace Go.Proofs.Ytolgpnkofnibjaa
open Go.RowKit Stamp
set_option linter.unusedVariables false

set_option maxRecDepth 100000 in
set_option maxHeartbeats 1000000 in
theorem Single_walk (s : ByteArray) (hm : s.size ≤ 9223372036854775807) (ascii : Bool) (w : World) : Calls Try.prog 5 #[.string s, .bool ascii] w fun e w' => e = .returned (.bool true) ∧ Below w.heap.size w w' := by
  by_cases hs : 2147483647 < s.size
  · have h1 : (2147483647 : Int) < (s.size : Int) := by omega
    go_enter Try.func5, Try.ntmps5
    go_wp2
    go_ret
    exact ⟨rfl, Below.refl _ _⟩
  · have h1 : ¬ (2147483647 : Int) < (s.size : Int) := by omega
    cases hv : validB s.data.toList with
    | false =>
      have HV := Lib.hid hv
      clear hv
      go_enter Try.func5, Try.ntmps5
      go_wp2_with fail
      refine (Valid_calls s w (by omega)).mono ?_
      rintro e w1 ⟨rfl, hb⟩
      rw [HV.out]
      go_wp2
      go_ret
      exact ⟨rfl, hb⟩
    | true =>
      cases hq : hasB s.data.toList 39 with
      | true =>
        have HV := Lib.hid hv
        have HQ := Lib.hid hq
        clear hv hq
        go_enter Try.func5, Try.ntmps5
        go_wp2_with fail
        refine (Valid_calls s w (by omega)).mono ?_
        rintro e w1 ⟨rfl, hb⟩
        rw [HV.out]
        go_wp2_with fail
        refine (Has_calls s 39 (by omega) _).mono ?_
        rintro e w2 ⟨rfl, rfl⟩
        rw [HQ.out]
        go_wp2
        go_ret
        exact ⟨rfl, hb⟩
      | false =>
        have HQ := Lib.hid hq
        have HV := Lib.hid hv
        obtain ⟨ps, hps⟩ := valid_points hv
        obtain ⟨hl, hsc⟩ := points_sound _ _ hps
        have HJ := Lib.hid (fun w => QS s ps hl hsc (by omega) ascii w)
        have HU := Lib.hid (fun w => Units_calls s ps hl hsc (by omega) w)
        have hsl : s.data.toList.length = s.size := by simp
        have hlen : (bsN (Stamp.quoted ascii 39 ps)).size ≤ 12 * s.size + 2 := by
          rw [bsN_size, quoted_len]
          have a := qAll_len ascii 39 ps
          have b := encAll_len ps
          rw [hl] at hsl
          omega
        have hlen2 : 2 ≤ (bsN (Stamp.quoted ascii 39 ps)).size := by rw [bsN_size, quoted_len]; omega
        have hul : (unitsOf ps).length ≤ 4294967296 := by
          have := units_len2 ps
          rw [← hl] at this
          omega
        have HR := Lib.hid (fun w => ReadSingle_calls (bsN (Stamp.quoted ascii 39 ps)) _ (atomsAll ascii 39 ps) (atoms_ok hsc (.inr ⟨rfl, mem_enc39 hsc (by rw [← hl]; intro hm; have := HQ.out; unfold hasB at this; exact absurd (List.contains_iff_mem.2 hm) (by rw [this]; simp))⟩)) hlen2 (by omega) (quoted_first ascii 39 (by decide) ps).2 (quoted_last ascii 39 (by decide) ps).2 rfl (by rw [mid_quoted]; unfold rdA; rw [atoms_bytes]) w)
        rw [atoms_units] at HR
        obtain ⟨z, hz⟩ : ∃ z, z = bsN (Stamp.quoted ascii 39 ps) := ⟨_, rfl⟩
        obtain ⟨us, hus⟩ : ∃ us, us = unitsOf ps := ⟨_, rfl⟩
        rw [← hz] at HJ HR
        have HU2 : Hid (∀ w, Calls Try.prog 14 #[.string s] w fun e w' => ∃ A c, e = .returned (.slice A us.length c) ∧ us.length ≤ c ∧ c ≤ maxLen ∧ Holds w' w'.heap.size A (us.map u16I) ∧ Below w.heap.size w w') := by
          rw [hus]; exact HU
        rw [← hus] at HR hul
        clear hq HU hv hps hl hsc hz hlen hlen2 hus hsl
        go_enter Try.func5, Try.ntmps5
        go_wp2_with fail
        refine (Valid_calls s w (by omega)).mono ?_
        rintro e w1 ⟨rfl, hb⟩
        rw [HV.out]
        have hbs := hb.size
        go_wp2_with fail
        refine (Has_calls s 39 (by omega) _).mono ?_
        rintro e w1 ⟨rfl, rfl⟩
        rw [HQ.out]
        go_wp2_with fail
        refine (HJ.out _).mono ?_
        rintro e w2 ⟨rfl, hb2⟩
        have hb3 := hb.trans (hb2.mono hbs)
        have hb3s := hb3.size
        clear hb hb2
        go_wp2_with fail
        refine (HR.out _).mono ?_
        rintro e w3 ⟨A, c, rfl, hc1, hc2, hh, hb4⟩
        have hb4s := hb4.size
        have hb5 := hb3.trans (hb4.mono hb3s)
        have hb5s := hb5.size
        go_wp2_with fail
        refine (HU2.out _).mono ?_
        rintro e w4 ⟨A2, c2, rfl, hd1, hd2, hh2, hb6⟩
        have hb7 := hb5.trans (hb6.mono hb5s)
        have hh3 := (hh.below hb6).more hb6.size
        rw [u16_ints] at hh3 hh2
        have H3 := Lib.hid hh3
        have H2 := Lib.hid hh2
        clear hh hh2 hh3 hb6 hb4
        go_wp2_with fail
        refine (SameUnits_calls A A2 us.length us.length c c2 (us.map Int.ofNat) (us.map Int.ofNat) (by simp) (by simp) (by unfold maxLen; omega) w4 w4.heap.size H3.out H2.out).mono ?_
        rintro e w5 ⟨rfl, q, rfl⟩
        rw [same_self]
        go_wp2
        go_ret
        exact ⟨rfl, below_drewN hb7 _⟩
end Go.Proofs.Ytolgpnkofnibjaa
