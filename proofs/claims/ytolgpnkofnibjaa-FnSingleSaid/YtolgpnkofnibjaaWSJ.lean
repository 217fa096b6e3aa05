/- The walk of 'laws.FnSingleJSON'. -/
import Derived.Test.YtolgpnkofnibjaaBare
import Derived.Test.YtolgpnkofnibjaaPoints
import Derived.Test.YtolgpnkofnibjaaWPlain
import Derived.Laws.DeepStrings4
import Derived.Deep.RegionHeld3
import Derived.IntWalk
namespace Go.Proofs.Ytolgpnkofnibjaa
open Go.RowKit Stamp
set_option linter.unusedVariables false

theorem mid_quoted (ascii : Bool) (q : Nat) (ps : List Nat) : ((bsN (Stamp.quoted ascii q ps)).extract 1 ((bsN (Stamp.quoted ascii q ps)).size - 1)).data.toList = toU (qAll ascii q ps) := by
  rw [Lib.extract_eq, bsN_data, bsN_size, quoted_len]
  have e : toU (Stamp.quoted ascii q ps) = UInt8.ofNat q :: (toU (qAll ascii q ps) ++ [UInt8.ofNat q]) := by simp [Stamp.quoted, toU]
  rw [e, List.drop_succ_cons, List.drop_zero, List.take_append_of_le_length (by rw [toU_len]; omega), List.take_of_length_le (by rw [toU_len]; omega)]

set_option maxRecDepth 100000 in
set_option maxHeartbeats 2000000 in
theorem SJ_walk (s : ByteArray) (hm : s.size ≤ 9223372036854775807) (ascii : Bool) (w : World) : Calls Try.prog 9 #[.string s, .bool ascii] w fun e w' => e = .returned (.bool true) ∧ Below w.heap.size w w' := by
  by_cases hs : 2147483647 < s.size
  · have h1 : (2147483647 : Int) < (s.size : Int) := by omega
    go_enter Try.func9, Try.ntmps9
    go_wp2
    go_ret
    exact ⟨rfl, Below.refl _ _⟩
  · have h1 : ¬ (2147483647 : Int) < (s.size : Int) := by omega
    cases hv : validB s.data.toList with
    | false =>
      have HV := Lib.hid hv
      clear hv
      go_enter Try.func9, Try.ntmps9
      go_wp2_with fail
      refine (Valid_calls s w (by omega)).mono ?_
      rintro e w1 ⟨rfl, hb⟩
      rw [HV.out]
      go_wp2
      go_ret
      exact ⟨rfl, hb⟩
    | true =>
      have HV := Lib.hid hv
      obtain ⟨ps, hps⟩ := valid_points hv
      obtain ⟨hl, hsc⟩ := points_sound _ _ hps
      have HJ := Lib.hid (fun w => QJ s ps hl hsc (by omega) ascii w)
      have HS := Lib.hid (fun w => QS s ps hl hsc (by omega) ascii w)
      have hlen : (bsN (Stamp.quoted ascii 34 ps)).size ≤ 12 * s.size + 2 := by
        rw [bsN_size, quoted_len]
        have a := qAll_len ascii 34 ps
        have b := encAll_len ps
        have e : s.data.toList.length = s.size := by simp
        rw [hl] at e
        omega
      have hlen2 : 2 ≤ (bsN (Stamp.quoted ascii 34 ps)).size := by rw [bsN_size, quoted_len]; omega
      have hmid := mid_quoted ascii 34 ps
      obtain ⟨z, hz⟩ : ∃ z, z = bsN (Stamp.quoted ascii 34 ps) := ⟨_, rfl⟩
      obtain ⟨y, hy⟩ : ∃ y, y = bsN (Stamp.quoted ascii 39 ps) := ⟨_, rfl⟩
      rw [← hz] at HJ hlen hlen2 hmid
      rw [← hy] at HS
      obtain ⟨m, hmm⟩ : ∃ m, m = z.extract 1 (z.size - 1) := ⟨_, rfl⟩
      rw [← hmm] at hmid
      have hms : m.size ≤ z.size := by rw [hmm, ByteArray.size_extract]; omega
      have HB := Lib.hid (fun w => Bare_calls m (by omega) w)
      have hbl := bareU_len m.data.toList
      have hml : m.data.toList.length = m.size := by simp
      obtain ⟨b, hbb⟩ : ∃ b : ByteArray, b = ⟨(bareU m.data.toList).toArray⟩ := ⟨_, rfl⟩
      have hbs : b.size ≤ m.size := by
        have : b.size = (bareU m.data.toList).length := by rw [hbb]; simp [ByteArray.size]
        omega
      rw [← hbb] at HB
      have teq : (y.toList == ((ByteArray.mk #[39]) ++ b ++ (ByteArray.mk #[39])).toList) = true := beq_of (by
        rw [hy, hbb, hmid, bareU_toU (fun x hx => (qAll_bd (ascii := ascii) (q := 34) hsc x hx).1), bare_all hsc]
        apply ByteArray.ext
        apply Array.ext'
        rw [bsN_data]
        simp [Stamp.quoted, toU])
      have hsl : ∀ W, (Instr.slice 9 (Value.string z) (some (Value.int IntKind.i64 1)) (some (Value.int IntKind.i64 ((z.size : Int) - 1))) none).run Try.prog W = .ok (.string m) W := fun W => by
        have := run_slice_string_if (P := Try.prog) W 9 z .i64 .i64 1 ((z.size : Int) - 1) Try.underlying9
        rw [if_pos ⟨by omega, by omega⟩, if_pos ⟨by omega, by omega⟩] at this
        rw [this, hmm]
        have e : ((z.size : Int) - 1).toNat = z.size - 1 := by omega
        rw [e]; rfl
      have hw : IntKind.i64.wrap ((z.size : Int) - 1) = (z.size : Int) - 1 := IntWalk.i64_in _ (by omega)
      have hd : decide ((1 : Int) < (z.size : Int)) = true := by simp; omega
      have hbz : b.size ≤ 25769803780 := by omega
      have a1 : ∀ W, (Op.stringOp .add (ByteArray.mk #[39]) b).run Try.prog W = .ok (.string ((ByteArray.mk #[39]) ++ b)) W := fun W => run_string_add_sum W _ _ (by show 1 + b.size ≤ _; omega)
      have a2 : ∀ W, (Op.stringOp .add ((ByteArray.mk #[39]) ++ b) (ByteArray.mk #[39])).run Try.prog W = .ok (.string ((ByteArray.mk #[39]) ++ b ++ (ByteArray.mk #[39]))) W := fun W => run_string_add_sum W _ _ (by rw [ByteArray.size_append]; show 1 + b.size + 1 ≤ _; omega)
      clear hv hps hl hsc hz hy hmid hmm hms hbl hml hbb hbs hlen hlen2
      go_enter Try.func9, Try.ntmps9
      go_wp2_with fail
      refine (Valid_calls s w (by omega)).mono ?_
      rintro e w1 ⟨rfl, hb⟩
      rw [HV.out]
      have hbs := hb.size
      go_wp2_with fail
      refine (HJ.out _).mono ?_
      rintro e w2 ⟨rfl, hb2⟩
      have hb3 := hb.trans (hb2.mono hbs)
      have hb3s := hb3.size
      clear hb hb2
      go_wp2
      go_region_held3 (fun w' => True) (first | trivial) (first | (go_at_call 18; refine (HS.out _).mono ?_; rintro e w5 ⟨rfl, hb5⟩) | (go_at_call 20; refine (HB.out _).mono ?_; rintro e w6 ⟨rfl, hb6⟩))
      all_goals
        go_wp2
        go_ret
        refine ⟨rfl, hb3.trans ?_⟩
        exact ((Below.refl w.heap.size w2).drew).trans ((Below.mono hb5 hb3s).trans (Below.mono hb6 (Nat.le_trans hb3s hb5.size)))
end Go.Proofs.Ytolgpnkofnibjaa
