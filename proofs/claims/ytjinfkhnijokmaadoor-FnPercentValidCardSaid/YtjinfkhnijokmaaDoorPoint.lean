/- The contract of 'spec.Point': the code point with which a text begins, and its length; -1 and 0 where it begins with none. -/
import Derived.Test.YtjinfkhnijokmaaDoorChecked
import Derived.WalkKit
import Derived.Test.YtjinfkhnijokmaaDoorMem
import Derived.Test.YtjinfkhnijokmaaDoorPv
namespace Go.Proofs.YtjinfkhnijokmaaDoor
open Go.RowKit Stamp
set_option linter.unusedVariables false

def ptV (l : List UInt8) : Value :=
  match point l with
  | some (p, n) => .tuple #[.int .i64 (p : Int), .int .i64 (n : Int)]
  | none => .tuple #[.int .i64 (-1), .int .i64 0]
theorem ptV_some {l : List UInt8} {p n : Nat} (h : point l = some (p, n)) : ptV l = .tuple #[.int .i64 (p : Int), .int .i64 (n : Int)] := by unfold ptV; rw [h]
theorem ptV_none {l : List UInt8} (h : point l = none) : ptV l = .tuple #[.int .i64 (-1), .int .i64 0] := by unfold ptV; rw [h]
theorem ret_ptS {l : List UInt8} {p n : Nat} (h : point l = some (p, n)) : Ending.returned (.tuple #[.int .i64 (p : Int), .int .i64 (n : Int)]) = .returned (ptV l) := by rw [ptV_some h]
theorem ret_ptN {l : List UInt8} (h : point l = none) : Ending.returned (.tuple #[.int .i64 (-1), .int .i64 0]) = .returned (ptV l) := by rw [ptV_none h]

theorem bytes_at (s : ByteArray) (k : Nat) (h : k < s.size) : s.data.toList[k]? = some s[k] := by
  rw [List.getElem?_eq_getElem (by simpa using h)]; rfl
theorem bytes_out (s : ByteArray) (k : Nat) (h : ¬ k < s.size) : s.data.toList[k]? = none := by
  rw [List.getElem?_eq_none]
  have e : s.data.toList.length = s.size := by simp
  omega
theorem bytes_cons (s : ByteArray) (h : 0 < s.size) : ∃ t, s.data.toList = s[0] :: t := by
  have h0 := bytes_at s 0 h
  match hl : s.data.toList with
  | [] => rw [hl] at h0; cases h0
  | x :: t => rw [hl] at h0; injection h0 with h0; exact ⟨t, by rw [h0]⟩
theorem bytes_nil (s : ByteArray) (h : ¬ 0 < s.size) : s.data.toList = [] := by
  have e : s.data.toList.length = s.size := by simp
  exact List.eq_nil_of_length_eq_zero (by omega)

set_option maxRecDepth 100000 in
theorem point_empty (s : ByteArray) (w : World) (h0 : ¬ 0 < s.size) : Calls Tryd.prog 21 #[.string s] w fun e w' => e = .returned (ptV s.data.toList) ∧ w' = w := by
  have hl := bytes_nil s h0
  have he : s.toList = [] := by rw [Go.ByteArray.toList_eq, hl]
  have HN := Lib.hid (show point s.data.toList = none by rw [hl]; rfl)
  clear hl h0
  go_enter Tryd.func21, Tryd.ntmps21
  go_wp2
  go_ret2
  exact ⟨ret_ptN HN.out, rfl⟩

set_option maxRecDepth 100000 in
set_option maxHeartbeats 400000 in
theorem point_ascii (s : ByteArray) (w : World) (hs : s.size ≤ maxLen) (h0 : 0 < s.size) (g : s[0].toNat < 128) :
    Calls Tryd.prog 21 #[.string s] w fun e w' => e = .returned (ptV s.data.toList) ∧ w' = w := by
  unfold maxLen at hs
  have he : s.toList.isEmpty = false := by
    rw [Go.ByteArray.toList_eq]
    obtain ⟨t, ht⟩ := bytes_cons s h0
    rw [ht]; rfl
  obtain ⟨t, hl0⟩ := bytes_cons s h0
  have hl := Lib.hid hl0
  clear hl0
  have hb0 : s[0].toNat < 256 := s[0].toNat_lt
  have q1 : (s[0].toNat : Int) < 128 := by omega
  go_enter Tryd.func21, Tryd.ntmps21
  go_wp2
  go_ret2
  exact ⟨by rw [hl.out]; exact ret_ptS (point_one _ _ g), rfl⟩

set_option maxRecDepth 100000 in
set_option maxHeartbeats 400000 in
theorem point_low (s : ByteArray) (w : World) (hs : s.size ≤ maxLen) (h0 : 0 < s.size) (g1 : 128 ≤ s[0].toNat) (g2 : s[0].toNat < 194) :
    Calls Tryd.prog 21 #[.string s] w fun e w' => e = .returned (ptV s.data.toList) ∧ w' = w := by
  unfold maxLen at hs
  have he : s.toList.isEmpty = false := by
    rw [Go.ByteArray.toList_eq]
    obtain ⟨t, ht⟩ := bytes_cons s h0
    rw [ht]; rfl
  obtain ⟨t, hl0⟩ := bytes_cons s h0
  have hl := Lib.hid hl0
  clear hl0
  have hb0 : s[0].toNat < 256 := s[0].toNat_lt
  have q1 : ¬ (s[0].toNat : Int) < 128 := by omega
  have q2 : (s[0].toNat : Int) < 194 := by omega
  go_enter Tryd.func21, Tryd.ntmps21
  go_wp2
  go_ret2
  exact ⟨by rw [hl.out]; exact ret_ptN (point_zero (by unfold longOf; rw [if_neg (by omega), if_pos g2])), rfl⟩

set_option maxRecDepth 100000 in
set_option maxHeartbeats 400000 in
theorem point_high (s : ByteArray) (w : World) (hs : s.size ≤ maxLen) (h0 : 0 < s.size) (g1 : 245 ≤ s[0].toNat) :
    Calls Tryd.prog 21 #[.string s] w fun e w' => e = .returned (ptV s.data.toList) ∧ w' = w := by
  unfold maxLen at hs
  have he : s.toList.isEmpty = false := by
    rw [Go.ByteArray.toList_eq]
    obtain ⟨t, ht⟩ := bytes_cons s h0
    rw [ht]; rfl
  obtain ⟨t, hl0⟩ := bytes_cons s h0
  have hl := Lib.hid hl0
  clear hl0
  have hb0 : s[0].toNat < 256 := s[0].toNat_lt
  have q1 : (245 : Int) ≤ (s[0].toNat : Int) := by omega
  go_enter Tryd.func21, Tryd.ntmps21
  go_wp2
  go_ret2
  exact ⟨by rw [hl.out]; exact ret_ptN (point_zero (by unfold longOf; rw [if_neg (by omega), if_neg (by omega), if_neg (by omega), if_neg (by omega), if_neg (by omega)])), rfl⟩

set_option maxRecDepth 100000 in
set_option maxHeartbeats 1000000 in
theorem point_two (s : ByteArray) (w : World) (hs : s.size ≤ maxLen) (h0 : 0 < s.size) (g1 : 194 ≤ s[0].toNat) (g2 : s[0].toNat < 224) :
    Calls Tryd.prog 21 #[.string s] w fun e w' => e = .returned (ptV s.data.toList) ∧ w' = w := by
  unfold maxLen at hs
  have he : s.toList.isEmpty = false := by
    rw [Go.ByteArray.toList_eq]
    obtain ⟨t, ht⟩ := bytes_cons s h0
    rw [ht]; rfl
  obtain ⟨t, hl0⟩ := bytes_cons s h0
  have hl := Lib.hid hl0
  clear hl0
  have hL : longOf s[0].toNat = 2 := by unfold longOf; repeat (first | rw [if_pos (by omega)] | rw [if_neg (by omega)])
  have HL := Lib.hid hL
  clear hL
  have hb0 : s[0].toNat < 256 := s[0].toNat_lt
  have q1 : (194 : Int) ≤ (s[0].toNat : Int) := by omega
  have q2 : (s[0].toNat : Int) < 224 := by omega
  go_enter Tryd.func21, Tryd.ntmps21
  go_wp2
  go_loop [2, 3, 5] (fun p q i => ∃ k : Nat, q = .int .i64 2 ∧ 1 ≤ k ∧ k ≤ 2 ∧ i = .int .i64 k ∧ p = .int .i64 ((pv (s[0].toNat - 192) (s[0] :: t) k : Nat) : Int) ∧ Hid (okC (s[0] :: t) k)) (fun _ _ i => 2 - (intOf i).toNat)
  case atStart => exact ⟨1, rfl, by omega, by omega, rfl, by show _ = Value.int .i64 (((s[0].toNat - 192 : Nat)) : Int); congr 1; omega, Lib.hid (okC_one _)⟩
  case round =>
    obtain ⟨k, rfl, hk1, hk2, rfl, rfl, hok⟩ := hrel
    have hpv := (pv_le (c0 := s[0].toNat - 192) (l := s[0] :: t) (by omega) k hk1 (by omega) hok.out).1
    have hpv1 : ((pv (s[0].toNat - 192) (s[0] :: t) k : Nat) : Int) ≤ 8388607 := by omega
    clear hpv
    by_cases hkL : k < 2
    · have hkL' : (k : Int) < 2 := by omega
      by_cases hin : k < s.size
      · have hbk : s[k].toNat < 256 := s[k].toNat_lt
        have hat := Lib.hid (hl.out ▸ bytes_at s k hin)
        by_cases hb1 : s[k].toNat < 128
        · have HP := Lib.hid (point_stop (c := s[0]) (t := t) hk1 (by rw [HL.out]; exact hkL) (fun b hb => by rw [hat.out] at hb; injection hb with hb; subst hb; rw [← Bool.not_eq_true, isC_iff]; omega))
          have r1 : (s[k].toNat : Int) < 128 := by omega
          go_wp2
          go_ret2
          exact ⟨by rw [hl.out]; exact ret_ptN HP.out, rfl⟩
        · by_cases hb2 : 191 < s[k].toNat
          · have HP := Lib.hid (point_stop (c := s[0]) (t := t) hk1 (by rw [HL.out]; exact hkL) (fun b hb => by rw [hat.out] at hb; injection hb with hb; subst hb; rw [← Bool.not_eq_true, isC_iff]; omega))
            have r1 : ¬ (s[k].toNat : Int) < 128 := by omega
            have r2 : (191 : Int) < (s[k].toNat : Int) := by omega
            go_wp2
            go_ret2
            exact ⟨by rw [hl.out]; exact ret_ptN HP.out, rfl⟩
          · have r1 : ¬ (s[k].toNat : Int) < 128 := by omega
            have r2 : ¬ (191 : Int) < (s[k].toNat : Int) := by omega
            have hok2 := Lib.hid (okC_succ hok.out hat.out (by rw [isC_iff]; omega))
            have hps := Lib.hid (pv_succ (c0 := s[0].toNat - 192) hk1 hat.out)
            go_wp2
            go_round
            case rel => exact ⟨k + 1, rfl, by omega, by omega, by go_num, by rw [hps.out]; congr 1; omega, hok2⟩
            case measure => simp [intOf]; omega
      · have HP := Lib.hid (point_stop (c := s[0]) (t := t) hk1 (by rw [HL.out]; exact hkL) (fun b hb => by have := bytes_out s k hin; rw [hl.out] at this; rw [this] at hb; cases hb))
        have r0 : (s.size : Int) ≤ (k : Int) := by omega
        go_wp2
        go_ret2
        exact ⟨by rw [hl.out]; exact ret_ptN HP.out, rfl⟩
    · have hkL' : ¬ (k : Int) < 2 := by omega
      · have hkL : k = 2 := by omega
        subst hkL
        have HP := Lib.hid (point_done2 g1 g2 hok.out)
        go_wp2
        go_ret2
        exact ⟨by rw [hl.out]; exact ret_ptS HP.out, rfl⟩

set_option maxRecDepth 100000 in
set_option maxHeartbeats 1000000 in
theorem point_three (s : ByteArray) (w : World) (hs : s.size ≤ maxLen) (h0 : 0 < s.size) (g1 : 224 ≤ s[0].toNat) (g2 : s[0].toNat < 240) :
    Calls Tryd.prog 21 #[.string s] w fun e w' => e = .returned (ptV s.data.toList) ∧ w' = w := by
  unfold maxLen at hs
  have he : s.toList.isEmpty = false := by
    rw [Go.ByteArray.toList_eq]
    obtain ⟨t, ht⟩ := bytes_cons s h0
    rw [ht]; rfl
  obtain ⟨t, hl0⟩ := bytes_cons s h0
  have hl := Lib.hid hl0
  clear hl0
  have hL : longOf s[0].toNat = 3 := by unfold longOf; repeat (first | rw [if_pos (by omega)] | rw [if_neg (by omega)])
  have HL := Lib.hid hL
  clear hL
  have hb0 : s[0].toNat < 256 := s[0].toNat_lt
  have q1 : (224 : Int) ≤ (s[0].toNat : Int) := by omega
  have q2 : (s[0].toNat : Int) < 240 := by omega
  go_enter Tryd.func21, Tryd.ntmps21
  go_wp2
  go_loop [2, 3, 5] (fun p q i => ∃ k : Nat, q = .int .i64 3 ∧ 1 ≤ k ∧ k ≤ 3 ∧ i = .int .i64 k ∧ p = .int .i64 ((pv (s[0].toNat - 224) (s[0] :: t) k : Nat) : Int) ∧ Hid (okC (s[0] :: t) k)) (fun _ _ i => 3 - (intOf i).toNat)
  case atStart => exact ⟨1, rfl, by omega, by omega, rfl, by show _ = Value.int .i64 (((s[0].toNat - 224 : Nat)) : Int); congr 1; omega, Lib.hid (okC_one _)⟩
  case round =>
    obtain ⟨k, rfl, hk1, hk2, rfl, rfl, hok⟩ := hrel
    have hpv := (pv_le (c0 := s[0].toNat - 224) (l := s[0] :: t) (by omega) k hk1 (by omega) hok.out).1
    have hpv1 : ((pv (s[0].toNat - 224) (s[0] :: t) k : Nat) : Int) ≤ 8388607 := by omega
    clear hpv
    by_cases hkL : k < 3
    · have hkL' : (k : Int) < 3 := by omega
      by_cases hin : k < s.size
      · have hbk : s[k].toNat < 256 := s[k].toNat_lt
        have hat := Lib.hid (hl.out ▸ bytes_at s k hin)
        by_cases hb1 : s[k].toNat < 128
        · have HP := Lib.hid (point_stop (c := s[0]) (t := t) hk1 (by rw [HL.out]; exact hkL) (fun b hb => by rw [hat.out] at hb; injection hb with hb; subst hb; rw [← Bool.not_eq_true, isC_iff]; omega))
          have r1 : (s[k].toNat : Int) < 128 := by omega
          go_wp2
          go_ret2
          exact ⟨by rw [hl.out]; exact ret_ptN HP.out, rfl⟩
        · by_cases hb2 : 191 < s[k].toNat
          · have HP := Lib.hid (point_stop (c := s[0]) (t := t) hk1 (by rw [HL.out]; exact hkL) (fun b hb => by rw [hat.out] at hb; injection hb with hb; subst hb; rw [← Bool.not_eq_true, isC_iff]; omega))
            have r1 : ¬ (s[k].toNat : Int) < 128 := by omega
            have r2 : (191 : Int) < (s[k].toNat : Int) := by omega
            go_wp2
            go_ret2
            exact ⟨by rw [hl.out]; exact ret_ptN HP.out, rfl⟩
          · have r1 : ¬ (s[k].toNat : Int) < 128 := by omega
            have r2 : ¬ (191 : Int) < (s[k].toNat : Int) := by omega
            have hok2 := Lib.hid (okC_succ hok.out hat.out (by rw [isC_iff]; omega))
            have hps := Lib.hid (pv_succ (c0 := s[0].toNat - 224) hk1 hat.out)
            go_wp2
            go_round
            case rel => exact ⟨k + 1, rfl, by omega, by omega, by go_num, by rw [hps.out]; congr 1; omega, hok2⟩
            case measure => simp [intOf]; omega
      · have HP := Lib.hid (point_stop (c := s[0]) (t := t) hk1 (by rw [HL.out]; exact hkL) (fun b hb => by have := bytes_out s k hin; rw [hl.out] at this; rw [this] at hb; cases hb))
        have r0 : (s.size : Int) ≤ (k : Int) := by omega
        go_wp2
        go_ret2
        exact ⟨by rw [hl.out]; exact ret_ptN HP.out, rfl⟩
    · have hkL' : ¬ (k : Int) < 3 := by omega
      · have hkL : k = 3 := by omega
        subst hkL
        by_cases hv : pv (s[0].toNat - 224) (s[0] :: t) 3 < 2048
        · have HP := Lib.hid (point_low3 g1 g2 hok.out hv)
          have hv' : ((pv (s[0].toNat - 224) (s[0] :: t) 3 : Nat) : Int) < 2048 := by omega
          go_wp2
          go_ret2
          exact ⟨by rw [hl.out]; exact ret_ptN HP.out, rfl⟩
        · have HP := Lib.hid (point_done3 g1 g2 hok.out (by omega))
          have hv' : ¬ ((pv (s[0].toNat - 224) (s[0] :: t) 3 : Nat) : Int) < 2048 := by omega
          go_wp2
          go_ret2
          exact ⟨by rw [hl.out]; exact ret_ptS HP.out, rfl⟩

set_option maxRecDepth 100000 in
set_option maxHeartbeats 1000000 in
theorem point_four (s : ByteArray) (w : World) (hs : s.size ≤ maxLen) (h0 : 0 < s.size) (g1 : 240 ≤ s[0].toNat) (g2 : s[0].toNat < 245) :
    Calls Tryd.prog 21 #[.string s] w fun e w' => e = .returned (ptV s.data.toList) ∧ w' = w := by
  unfold maxLen at hs
  have he : s.toList.isEmpty = false := by
    rw [Go.ByteArray.toList_eq]
    obtain ⟨t, ht⟩ := bytes_cons s h0
    rw [ht]; rfl
  obtain ⟨t, hl0⟩ := bytes_cons s h0
  have hl := Lib.hid hl0
  clear hl0
  have hL : longOf s[0].toNat = 4 := by unfold longOf; repeat (first | rw [if_pos (by omega)] | rw [if_neg (by omega)])
  have HL := Lib.hid hL
  clear hL
  have hb0 : s[0].toNat < 256 := s[0].toNat_lt
  have q1 : (240 : Int) ≤ (s[0].toNat : Int) := by omega
  have q2 : (s[0].toNat : Int) < 245 := by omega
  go_enter Tryd.func21, Tryd.ntmps21
  go_wp2
  go_loop [2, 3, 5] (fun p q i => ∃ k : Nat, q = .int .i64 4 ∧ 1 ≤ k ∧ k ≤ 4 ∧ i = .int .i64 k ∧ p = .int .i64 ((pv (s[0].toNat - 240) (s[0] :: t) k : Nat) : Int) ∧ Hid (okC (s[0] :: t) k)) (fun _ _ i => 4 - (intOf i).toNat)
  case atStart => exact ⟨1, rfl, by omega, by omega, rfl, by show _ = Value.int .i64 (((s[0].toNat - 240 : Nat)) : Int); congr 1; omega, Lib.hid (okC_one _)⟩
  case round =>
    obtain ⟨k, rfl, hk1, hk2, rfl, rfl, hok⟩ := hrel
    have hpv := (pv_le (c0 := s[0].toNat - 240) (l := s[0] :: t) (by omega) k hk1 (by omega) hok.out).1
    have hpv1 : ((pv (s[0].toNat - 240) (s[0] :: t) k : Nat) : Int) ≤ 8388607 := by omega
    clear hpv
    by_cases hkL : k < 4
    · have hkL' : (k : Int) < 4 := by omega
      by_cases hin : k < s.size
      · have hbk : s[k].toNat < 256 := s[k].toNat_lt
        have hat := Lib.hid (hl.out ▸ bytes_at s k hin)
        by_cases hb1 : s[k].toNat < 128
        · have HP := Lib.hid (point_stop (c := s[0]) (t := t) hk1 (by rw [HL.out]; exact hkL) (fun b hb => by rw [hat.out] at hb; injection hb with hb; subst hb; rw [← Bool.not_eq_true, isC_iff]; omega))
          have r1 : (s[k].toNat : Int) < 128 := by omega
          go_wp2
          go_ret2
          exact ⟨by rw [hl.out]; exact ret_ptN HP.out, rfl⟩
        · by_cases hb2 : 191 < s[k].toNat
          · have HP := Lib.hid (point_stop (c := s[0]) (t := t) hk1 (by rw [HL.out]; exact hkL) (fun b hb => by rw [hat.out] at hb; injection hb with hb; subst hb; rw [← Bool.not_eq_true, isC_iff]; omega))
            have r1 : ¬ (s[k].toNat : Int) < 128 := by omega
            have r2 : (191 : Int) < (s[k].toNat : Int) := by omega
            go_wp2
            go_ret2
            exact ⟨by rw [hl.out]; exact ret_ptN HP.out, rfl⟩
          · have r1 : ¬ (s[k].toNat : Int) < 128 := by omega
            have r2 : ¬ (191 : Int) < (s[k].toNat : Int) := by omega
            have hok2 := Lib.hid (okC_succ hok.out hat.out (by rw [isC_iff]; omega))
            have hps := Lib.hid (pv_succ (c0 := s[0].toNat - 240) hk1 hat.out)
            go_wp2
            go_round
            case rel => exact ⟨k + 1, rfl, by omega, by omega, by go_num, by rw [hps.out]; congr 1; omega, hok2⟩
            case measure => simp [intOf]; omega
      · have HP := Lib.hid (point_stop (c := s[0]) (t := t) hk1 (by rw [HL.out]; exact hkL) (fun b hb => by have := bytes_out s k hin; rw [hl.out] at this; rw [this] at hb; cases hb))
        have r0 : (s.size : Int) ≤ (k : Int) := by omega
        go_wp2
        go_ret2
        exact ⟨by rw [hl.out]; exact ret_ptN HP.out, rfl⟩
    · have hkL' : ¬ (k : Int) < 4 := by omega
      · have hkL : k = 4 := by omega
        subst hkL
        by_cases hv : pv (s[0].toNat - 240) (s[0] :: t) 4 < 65536
        · have HP := Lib.hid (point_low4 g1 g2 hok.out (.inl hv))
          have hv' : ((pv (s[0].toNat - 240) (s[0] :: t) 4 : Nat) : Int) < 65536 := by omega
          go_wp2
          go_ret2
          exact ⟨by rw [hl.out]; exact ret_ptN HP.out, rfl⟩
        · by_cases hv2 : 1114111 < pv (s[0].toNat - 240) (s[0] :: t) 4
          · have HP := Lib.hid (point_low4 g1 g2 hok.out (.inr hv2))
            have hv' : ¬ ((pv (s[0].toNat - 240) (s[0] :: t) 4 : Nat) : Int) < 65536 := by omega
            have hv'' : (1114111 : Int) < ((pv (s[0].toNat - 240) (s[0] :: t) 4 : Nat) : Int) := by omega
            go_wp2
            go_ret2
            exact ⟨by rw [hl.out]; exact ret_ptN HP.out, rfl⟩
          · have HP := Lib.hid (point_done4 g1 g2 hok.out (by omega) (by omega))
            have hv' : ¬ ((pv (s[0].toNat - 240) (s[0] :: t) 4 : Nat) : Int) < 65536 := by omega
            have hv'' : ¬ (1114111 : Int) < ((pv (s[0].toNat - 240) (s[0] :: t) 4 : Nat) : Int) := by omega
            go_wp2
            go_ret2
            exact ⟨by rw [hl.out]; exact ret_ptS HP.out, rfl⟩

theorem Point_calls (s : ByteArray) (w : World) (hs : s.size ≤ maxLen) : Calls Tryd.prog 21 #[.string s] w fun e w' => e = .returned (ptV s.data.toList) ∧ w' = w := by
  by_cases h0 : 0 < s.size
  · by_cases g1 : s[0].toNat < 128
    · exact point_ascii s w hs h0 g1
    · by_cases g2 : s[0].toNat < 194
      · exact point_low s w hs h0 (by omega) g2
      · by_cases g3 : s[0].toNat < 224
        · exact point_two s w hs h0 (by omega) g3
        · by_cases g4 : s[0].toNat < 240
          · exact point_three s w hs h0 (by omega) g4
          · by_cases g5 : s[0].toNat < 245
            · exact point_four s w hs h0 (by omega) g5
            · exact point_high s w hs h0 (by omega)
  · exact point_empty s w h0

end Go.Proofs.YtjinfkhnijokmaaDoor
