/- The walk of 'laws.FnJoinLong'. -/
import Derived.Test.YtmoaeeiggkaicaaWNothing
namespace Go.Proofs.Ytmoaeeiggkaicaa
open Go.RowKit Stamp
set_option linter.unusedVariables false

set_option maxRecDepth 100000 in
set_option maxHeartbeats 4000000 in
theorem Long_walk (A : Option Addr) (len cap : Nat) (l : List (Int × ByteArray)) (hl : l.length = len) (hc : len ≤ cap) (hm : cap ≤ maxLen) (W : World) (hh : Holds W W.heap.size A (stCells l)) :
    Calls Try.prog 4 #[.slice A len cap] W fun e W' => e = .returned (.bool true) ∧ Below W.heap.size W W' := by
  subst hl
  have hm2 : l.length ≤ 9223372036854775807 := by have : maxLen ≤ 9223372036854775807 := by decide
                                                  omega
  have HH := Lib.hid hh
  clear hh
  go_enter Try.func4, Try.ntmps4
  go_wp2_with fail
  refine (fits2_calls A cap l W HH.out hm2).mono ?_
  rintro e w1 ⟨b1, rfl, hl, hb⟩
  have hbs := hb.size
  cases b1 with
  | false =>
    go_wp2
    go_ret
    exact ⟨rfl, hb⟩
  | true =>
    have hl2 : l.length ≤ 2147483647 := hl rfl
    go_wp2_with fail
    refine (great_calls A cap l w1 ((HH.out.below hb).more hbs) hl2).mono ?_
    rintro e w2 ⟨rfl, hb2⟩
    have hb3 := hb.trans (hb2.mono hbs)
    have hb3s := hb3.size
    clear hb hb2
    cases hg : greatB l with
    | true =>
      go_wp2
      go_ret
      exact ⟨rfl, hb3⟩
    | false =>
      obtain ⟨hw, hk1⟩ := great_false hg
      have HW := Lib.hid hw
      have HK := Lib.hid hk1
      clear hw hk1 hg
      go_wp2_with fail
      refine (Join_calls A cap l w2 ((HH.out.below hb3).more hb3s) HW.out HK.out).mono ?_
      rintro e w4 ⟨rfl, hb6⟩
      have hb7 := hb3.trans (hb6.mono hb3s)
      have hb7s := hb7.size
      have HS := Lib.hid (show (joinAll l).length ≤ 16777300 from Nat.le_trans (joinAll_len l) HW.out)
      clear hb3 hb6 hb3s
      go_wp2_with fail
      refine (Join_calls _ 1 [(0, ⟨#[97, 98]⟩)] _ (one_a w4 #[97, 98]) (by decide) (by decide)).mono ?_
      rintro e w5 ⟨rfl, hb8⟩
      have hb9 := (hb7.alloc hb7s (.cells #[.int .i64 0, .string ⟨#[97, 98]⟩] 29)).trans (hb8.mono (by simp; omega))
      obtain ⟨o, HO⟩ : ∃ o, Hid (o = ByteArray.mk (joinAll l).toArray) := ⟨_, Lib.hid rfl⟩
      have HL : Hid (o.data.toList = joinAll l) := Lib.hid (by rw [HO.out])
      have hsz : (joinAll l).length = o.size := by rw [HO.out]; simp [ByteArray.size]
      have hos : o.size ≤ 16777300 := by rw [← hsz]; exact HS.out
      rw [← HO.out, hsz, ← HL.out]
      by_cases ho : o = ⟨#[]⟩
      · have t3 : o.toList.isEmpty = true := by rw [ho, Go.ByteArray.toList_eq]; rfl
        go_wp2
        go_ret
        exact ⟨rfl, hb9⟩
      · have hnil : o.data.toList ≠ [] := fun h => ho (by cases o; simp only [ByteArray.mk.injEq]; exact Array.ext' h)
        have t3 : o.toList.isEmpty = false := by rw [Go.ByteArray.toList_eq]; simpa using hnil
        have hz0 : 1 ≤ o.size := by
          rcases h : o.size with _ | z
          · exact absurd (List.eq_nil_of_length_eq_zero (by have : o.data.size = 0 := h; simpa using this)) hnil
          · omega
        have hin : (1 : Int) ≤ (o.size : Int) ∧ (o.size : Int) - 1 < (o.size : Int) := by omega
        have hz1 : o.size - 1 < o.size := by omega
        have hg := bs_last hz1
        rw [← hg]
        go_wp2
        go_ret
        exact ⟨rfl, hb9⟩
end Go.Proofs.Ytmoaeeiggkaicaa
