/- The walk of 'laws.FnJSONPlain'. -/
import Derived.Test.YtolgpnkofnibjaaQuI
import Derived.Test.YtolgpnkofnibjaaIsA
namespace Go.Proofs.Ytolgpnkofnibjaa
open Go.RowKit Stamp
set_option linter.unusedVariables false

theorem quote_around (s : ByteArray) (q : Nat) (c : UInt8) (hq : UInt8.ofNat q = c) : bsN (q :: (nums s.data.toList ++ [q])) = (ByteArray.mk #[c]) ++ s ++ (ByteArray.mk #[c]) := by
  apply ByteArray.ext
  apply Array.ext'
  rw [bsN_data]
  have e : toU (q :: (nums s.data.toList ++ [q])) = c :: (s.data.toList ++ [c]) := by
    show UInt8.ofNat q :: toU (nums s.data.toList ++ [q]) = _
    rw [toU_append, toU_nums, hq]
    simp [toU, hq]
  rw [e]
  simp
theorem beq_of {a b : ByteArray} (h : a = b) : (a.toList == b.toList) = true := by rw [h]; simp

set_option maxRecDepth 100000 in
set_option maxHeartbeats 1000000 in
theorem Plain_walk (s : ByteArray) (hm : s.size ≤ 9223372036854775807) (ascii : Bool) (w : World) : Calls Try.prog 7 #[.string s, .bool ascii] w fun e w' => e = .returned (.bool true) ∧ Below w.heap.size w w' := by
  by_cases hs : 2147483647 < s.size
  · have h1 : (2147483647 : Int) < (s.size : Int) := by omega
    go_enter Try.func7, Try.ntmps7
    go_wp2
    go_ret
    exact ⟨rfl, Below.refl _ _⟩
  · have h1 : ¬ (2147483647 : Int) < (s.size : Int) := by omega
    cases hv : allB plainC s.data.toList with
    | false =>
      have HV := Lib.hid hv
      clear hv
      go_enter Try.func7, Try.ntmps7
      go_wp2_with fail
      refine (IsPlain_calls s (by omega) w).mono ?_
      rintro e w1 ⟨rfl, rfl⟩
      rw [HV.out]
      go_wp2
      go_ret
      exact ⟨rfl, Below.refl _ _⟩
    | true =>
      have HV := Lib.hid hv
      obtain ⟨hl, hsc⟩ := plain_points hv
      have HJ := Lib.hid (fun w => QJ s _ hl hsc (by omega) ascii w)
      have HS := Lib.hid (fun w => QS s _ hl hsc (by omega) ascii w)
      have e1 := plain_quoted hv ascii 34
      have e2 := plain_quoted hv ascii 39
      rw [e1] at HJ
      rw [e2] at HS
      obtain ⟨z, hz⟩ : ∃ z, z = bsN (34 :: (nums s.data.toList ++ [34])) := ⟨_, rfl⟩
      obtain ⟨y, hy⟩ : ∃ y, y = bsN (39 :: (nums s.data.toList ++ [39])) := ⟨_, rfl⟩
      rw [← hz] at HJ
      rw [← hy] at HS
      have hb34 : (z.toList == ((ByteArray.mk #[34]) ++ s ++ (ByteArray.mk #[34])).toList) = true := beq_of (by rw [hz]; exact quote_around s 34 34 rfl)
      have hb39 : (y.toList == ((ByteArray.mk #[39]) ++ s ++ (ByteArray.mk #[39])).toList) = true := beq_of (by rw [hy]; exact quote_around s 39 39 rfl)
      clear hv hl hsc e1 e2 hz hy
      go_enter Try.func7, Try.ntmps7
      go_wp2_with fail
      refine (IsPlain_calls s (by omega) w).mono ?_
      rintro e w1 ⟨rfl, rfl⟩
      rw [HV.out]
      go_wp2_with fail
      refine (HJ.out _).mono ?_
      rintro e w2 ⟨rfl, hb2⟩
      have hb2s := hb2.size
      go_wp2_with fail
      refine (HS.out _).mono ?_
      rintro e w3 ⟨rfl, hb3⟩
      go_wp2
      go_ret
      exact ⟨rfl, hb2.trans (hb3.mono hb2s)⟩
end Go.Proofs.Ytolgpnkofnibjaa
