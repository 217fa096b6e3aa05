/- The walk of 'laws.FnJSON'. -/
import Derived.Test.YtolgpnkofnibjaaRdJ
import Derived.Test.YtolgpnkofnibjaaSame
namespace Go.Proofs.Ytolgpnkofnibjaa
open Go.RowKit Stamp
set_option linter.unusedVariables false

theorem u16_ints (l : List Nat) : l.map u16I = (l.map Int.ofNat).map (Value.int .u16) := by
  rw [List.map_map]; rfl
theorem quoted_first (ascii : Bool) (q : Nat) (hq : q < 256) (ps : List Nat) : ∃ h : 0 < (bsN (Stamp.quoted ascii q ps)).size, ((bsN (Stamp.quoted ascii q ps))[0].toNat : Int) = (q : Int) := by
  have hd : (bsN (Stamp.quoted ascii q ps)).data.toList[0]? = some (UInt8.ofNat q) := by rw [bsN_data]; rfl
  obtain ⟨h, e⟩ := at_rd rfl hd
  exact ⟨h, by rw [e, toNat_ofNat_lt hq]⟩
theorem quoted_last (ascii : Bool) (q : Nat) (hq : q < 256) (ps : List Nat) : ∃ h : (bsN (Stamp.quoted ascii q ps)).size - 1 < (bsN (Stamp.quoted ascii q ps)).size, ((bsN (Stamp.quoted ascii q ps))[(bsN (Stamp.quoted ascii q ps)).size - 1].toNat : Int) = (q : Int) := by
  have hd : (bsN (Stamp.quoted ascii q ps)).data.toList[(bsN (Stamp.quoted ascii q ps)).size - 1]? = some (UInt8.ofNat q) := by
    rw [bsN_data, bsN_size, quoted_len]
    have e : toU (Stamp.quoted ascii q ps) = (UInt8.ofNat q :: toU (qAll ascii q ps)) ++ [UInt8.ofNat q] := by simp [Stamp.quoted, toU]
    rw [e, List.getElem?_append_right (by simp [toU_len])]
    simp [toU_len]
  obtain ⟨h, e⟩ := at_rd rfl hd
  exact ⟨h, by rw [e, toNat_ofNat_lt hq]⟩
theorem units_len2 (ps : List Nat) : (unitsOf ps).length ≤ 2 * (encAll ps).length := by
  have a := units_len ps
  have b := encAll_len ps
  omega

set_option maxRecDepth 100000 in
set_option maxHeartbeats 1000000 in
theorem JSON_walk (s : ByteArray) (hm : s.size ≤ 9223372036854775807) (ascii : Bool) (w : World) : Calls Try.prog 3 #[.string s, .bool ascii] w fun e w' => e = .returned (.bool true) ∧ Below w.heap.size w w' := by
  by_cases hs : 2147483647 < s.size
  · have h1 : (2147483647 : Int) < (s.size : Int) := by omega
    go_enter Try.func3, Try.ntmps3
    go_wp2
    go_ret
    exact ⟨rfl, Below.refl _ _⟩
  · have h1 : ¬ (2147483647 : Int) < (s.size : Int) := by omega
    cases hv : validB s.data.toList with
    | false =>
      have HV := Lib.hid hv
      clear hv
      go_enter Try.func3, Try.ntmps3
      go_wp2_with fail
      refine (Valid_calls s w (by omega)).mono ?_
      rintro e w1 ⟨rfl, hb⟩
      rw [HV.out]
      go_wp2
      go_ret
      exact ⟨rfl, hb⟩
    | true =>
      have HV := Lib.hid hv
      obtain ⟨ps, hps⟩ := valid_points hv
      obtain ⟨hl, hsc⟩ := points_sound _ _ hps
      have HJ := Lib.hid (fun w => QJ s ps hl hsc (by omega) ascii w)
      have HU := Lib.hid (fun w => Units_calls s ps hl hsc (by omega) w)
      have hsl : s.data.toList.length = s.size := by simp
      have hlen : (bsN (Stamp.quoted ascii 34 ps)).size ≤ 12 * s.size + 2 := by
        rw [bsN_size, quoted_len]
        have a := qAll_len ascii 34 ps
        have b := encAll_len ps
        rw [hl] at hsl
        omega
      have hlen2 : 2 ≤ (bsN (Stamp.quoted ascii 34 ps)).size := by rw [bsN_size, quoted_len]; omega
      have hul : (unitsOf ps).length ≤ 4294967296 := by
        have := units_len2 ps
        rw [← hl] at this
        omega
      have HR := Lib.hid (fun w => ReadJSON_calls (bsN (Stamp.quoted ascii 34 ps)) _ (atomsAll ascii 34 ps) (atoms_ok hsc (.inl rfl)) hlen2 (by omega) (quoted_first ascii 34 (by decide) ps).2 (quoted_last ascii 34 (by decide) ps).2 rfl (by rw [mid_quoted]; unfold rdA; rw [atoms_bytes]) w)
      rw [atoms_units] at HR
      obtain ⟨z, hz⟩ : ∃ z, z = bsN (Stamp.quoted ascii 34 ps) := ⟨_, rfl⟩
      obtain ⟨us, hus⟩ : ∃ us, us = unitsOf ps := ⟨_, rfl⟩
      rw [← hz] at HJ HR
      have HU2 : Hid (∀ w, Calls Try.prog 14 #[.string s] w fun e w' => ∃ A c, e = .returned (.slice A us.length c) ∧ us.length ≤ c ∧ c ≤ maxLen ∧ Holds w' w'.heap.size A (us.map u16I) ∧ Below w.heap.size w w') := by
        rw [hus]; exact HU
      rw [← hus] at HR hul
      clear HU hv hps hl hsc hz hlen hlen2 hus hsl
      go_enter Try.func3, Try.ntmps3
      go_wp2_with fail
      refine (Valid_calls s w (by omega)).mono ?_
      rintro e w1 ⟨rfl, hb⟩
      rw [HV.out]
      have hbs := hb.size
      go_wp2_with fail
      refine (HJ.out _).mono ?_
      rintro e w2 ⟨rfl, hb2⟩
      have hb3 := hb.trans (hb2.mono hbs)
      have hb3s := hb3.size
      clear hb hb2
      go_wp2_with fail
      refine (HR.out _).mono ?_
      rintro e w3 ⟨A, c, rfl, hc1, hc2, hh, hb4⟩
      have hb4s := hb4.size
      have hb5 := hb3.trans (hb4.mono hb3s)
      have hb5s := hb5.size
      go_wp2_with fail
      refine (HU2.out _).mono ?_
      rintro e w4 ⟨A2, c2, rfl, hd1, hd2, hh2, hb6⟩
      have hb7 := hb5.trans (hb6.mono hb5s)
      have hh3 := (hh.below hb6).more hb6.size
      rw [u16_ints] at hh3 hh2
      have H3 := Lib.hid hh3
      have H2 := Lib.hid hh2
      clear hh hh2 hh3 hb6 hb4
      go_wp2_with fail
      refine (SameUnits_calls A A2 us.length us.length c c2 (us.map Int.ofNat) (us.map Int.ofNat) (by simp) (by simp) (by unfold maxLen; omega) w4 w4.heap.size H3.out H2.out).mono ?_
      rintro e w5 ⟨rfl, q, rfl⟩
      rw [same_self]
      go_wp2
      go_ret
      exact ⟨rfl, below_drewN hb7 _⟩
end Go.Proofs.Ytolgpnkofnibjaa
