/- The contract of 'helpers.DecodeWTF8Rune': the code point with which a text begins, also a surrogate, and its length; FFFD and at most 1 where it begins with none. -/
import Derived.Test.YtolgpnkofnibjaaChecked
import Derived.WalkKit
import Derived.Test.YtolgpnkofnibjaaPoint
import Derived.Test.YtolgpnkofnibjaaDwB
namespace Go.Proofs.Ytolgpnkofnibjaa
open Go.RowKit Stamp
set_option linter.unusedVariables false

theorem f224 {x : Nat} (h : x < 256) {b : Bool} (hb : decide (192 ≤ x ∧ x < 224) = b) : (bits .and .u8 (x : Int) 224 == 192) = b := (b224 ⟨x, h⟩).trans hb
theorem f240 {x : Nat} (h : x < 256) {b : Bool} (hb : decide (224 ≤ x ∧ x < 240) = b) : (bits .and .u8 (x : Int) 240 == 224) = b := (b240 ⟨x, h⟩).trans hb
theorem f248 {x : Nat} (h : x < 256) {b : Bool} (hb : decide (240 ≤ x ∧ x < 248) = b) : (bits .and .u8 (x : Int) 248 == 240) = b := (b248 ⟨x, h⟩).trans hb
theorem f192t {x : Nat} (h : x < 256) (hb : ¬ (128 ≤ x ∧ x < 192)) : (bits .and .u8 (x : Int) 192 != 128) = true := (b192 ⟨x, h⟩).trans (by simp [hb])
theorem f192f {x : Nat} (h : x < 256) (hb : 128 ≤ x ∧ x < 192) : (bits .and .u8 (x : Int) 192 != 128) = false := (b192 ⟨x, h⟩).trans (by simp [hb])
theorem f31 {x : Nat} (h : x < 256) : bits .and .u8 (x : Int) 31 = ((x % 32 : Nat) : Int) := m31 ⟨x, h⟩
theorem f63 {x : Nat} (h : x < 256) : bits .and .u8 (x : Int) 63 = ((x % 64 : Nat) : Int) := m63 ⟨x, h⟩
theorem f15 {x : Nat} (h : x < 256) : bits .and .u8 (x : Int) 15 = ((x % 16 : Nat) : Int) := m15 ⟨x, h⟩
theorem f7 {x : Nat} (h : x < 256) : bits .and .u8 (x : Int) 7 = ((x % 8 : Nat) : Int) := m7 ⟨x, h⟩

def DwPost (l : List UInt8) (w : World) (e : Ending) (w' : World) : Prop :=
  w' = w ∧ ((∃ p n : Nat, point l = some (p, n) ∧ e = .returned (.tuple #[.int .i32 (p : Int), .int .i64 (n : Int)])) ∨
    (point l = none ∧ ∃ k : Nat, k ≤ 1 ∧ e = .returned (.tuple #[.int .i32 65533, .int .i64 (k : Int)])))
theorem dw_bad0 {l : List UInt8} {w : World} (h : point l = none) : DwPost l w (.returned (.tuple #[.int .i32 65533, .int .i64 0])) w := ⟨rfl, .inr ⟨h, 0, by omega, rfl⟩⟩
theorem dw_bad1 {l : List UInt8} {w : World} (h : point l = none) : DwPost l w (.returned (.tuple #[.int .i32 65533, .int .i64 1])) w := ⟨rfl, .inr ⟨h, 1, by omega, rfl⟩⟩
theorem dw_good {l : List UInt8} {w : World} {p n : Nat} {v m : Int} (h : point l = some (p, n)) (hv : v = p) (hm : m = n) : DwPost l w (.returned (.tuple #[.int .i32 v, .int .i64 m])) w := by
  subst hv; subst hm; exact ⟨rfl, .inl ⟨p, n, h, rfl⟩⟩

theorem bytes_two (s : ByteArray) (h : 1 < s.size) : ∃ t, s.data.toList = s[0] :: s[1] :: t := by
  obtain ⟨t, ht⟩ := bytes_cons s (by omega)
  have h1 := bytes_at s 1 h
  rw [ht] at h1
  match t, h1 with
  | x :: t, h1 => injection h1 with h1; exact ⟨t, by rw [ht, h1]⟩
theorem bytes_three (s : ByteArray) (h : 2 < s.size) : ∃ t, s.data.toList = s[0] :: s[1] :: s[2] :: t := by
  obtain ⟨t, ht⟩ := bytes_two s (by omega)
  have h1 := bytes_at s 2 h
  rw [ht] at h1
  match t, h1 with
  | x :: t, h1 => injection h1 with h1; exact ⟨t, by rw [ht, h1]⟩
theorem bytes_four (s : ByteArray) (h : 3 < s.size) : ∃ t, s.data.toList = s[0] :: s[1] :: s[2] :: s[3] :: t := by
  obtain ⟨t, ht⟩ := bytes_three s (by omega)
  have h1 := bytes_at s 3 h
  rw [ht] at h1
  match t, h1 with
  | x :: t, h1 => injection h1 with h1; exact ⟨t, by rw [ht, h1]⟩

/-- a byte too few, or a byte that does not go on -/
theorem stop_out (s : ByteArray) (k : Nat) (h0 : 0 < s.size) (h1 : 1 ≤ k) (hL : longOf s[0].toNat = 0 ∨ k < longOf s[0].toNat) (hk : ¬ k < s.size) : point s.data.toList = none := by
  obtain ⟨t, ht⟩ := bytes_cons s h0
  have ho := bytes_out s k hk
  rw [ht] at ho ⊢
  rcases hL with h | h
  · exact point_zero h
  · exact point_stop h1 h (fun b hb => by rw [ho] at hb; cases hb)
theorem stop_bad (s : ByteArray) (k : Nat) (h0 : 0 < s.size) (h1 : 1 ≤ k) (hL : longOf s[0].toNat = 0 ∨ k < longOf s[0].toNat) (hk : k < s.size) (hb : ¬ (128 ≤ s[k].toNat ∧ s[k].toNat < 192)) : point s.data.toList = none := by
  obtain ⟨t, ht⟩ := bytes_cons s h0
  have ho := bytes_at s k hk
  rw [ht] at ho ⊢
  rcases hL with h | h
  · exact point_zero h
  · exact point_stop h1 h (fun b hb2 => by rw [ho] at hb2; injection hb2 with hb2; subst hb2; rw [← Bool.not_eq_true, isC_iff]; omega)
theorem long2 {c : Nat} (h1 : 192 ≤ c) (h2 : c < 224) : longOf c = 0 ∨ 1 < longOf c := by
  unfold longOf
  rw [if_neg (by omega)]
  by_cases h : c < 194
  · left; rw [if_pos h]
  · right; rw [if_neg h, if_pos h2]; omega
theorem long3 {c k : Nat} (h1 : 224 ≤ c) (h2 : c < 240) (hk : k < 3) : longOf c = 0 ∨ k < longOf c := by
  right; unfold longOf
  rw [if_neg (by omega), if_neg (by omega), if_neg (by omega), if_pos h2]; exact hk
theorem long4 {c k : Nat} (h1 : 240 ≤ c) (hk : k < 4) : longOf c = 0 ∨ k < longOf c := by
  unfold longOf
  rw [if_neg (by omega), if_neg (by omega), if_neg (by omega), if_neg (by omega)]
  by_cases h : c < 245
  · right; rw [if_pos h]; exact hk
  · left; rw [if_neg h]
theorem low4_of {c b1 b2 b3 : UInt8} {t : List UInt8} (g1 : 240 ≤ c.toNat) (hv : (c.toNat - 240) * 262144 + cv b1 * 4096 + cv b2 * 64 + cv b3 < 65536 ∨ 1114111 < (c.toNat - 240) * 262144 + cv b1 * 4096 + cv b2 * 64 + cv b3) : point (c :: b1 :: b2 :: b3 :: t) = none := by
  unfold point
  dsimp only
  rw [if_neg (by omega), if_neg (by omega), if_neg (by omega), if_neg (by omega)]
  by_cases h5 : c.toNat < 245
  · rw [if_pos h5]
    refine if_neg fun h => ?_
    rw [Bool.and_eq_true, decide_eq_true_iff, Bool.and_eq_true, decide_eq_true_iff] at h
    omega
  · rw [if_neg h5]
theorem isC_of {b : UInt8} (h : 128 ≤ b.toNat ∧ b.toNat < 192) : isC b = true := by rw [isC_iff]; omega

set_option maxRecDepth 100000 in
set_option maxHeartbeats 400000 in
theorem dw_empty (s : ByteArray) (w : World) (hs : s.size ≤ maxLen) (h0 : ¬ 0 < s.size) : Calls Try.prog 36 #[.string s] w (DwPost s.data.toList w) := by
  unfold maxLen at hs
  have H := Lib.hid (show point s.data.toList = none by rw [bytes_nil s h0]; rfl)
  have q1 : (s.size : Int) < 1 := by omega
  go_enter Try.func36, Try.ntmps36
  go_wp2
  go_ret2
  exact dw_bad0 H.out

set_option maxRecDepth 100000 in
set_option maxHeartbeats 400000 in
theorem dw_ascii (s : ByteArray) (w : World) (hs : s.size ≤ maxLen) (h0 : 0 < s.size) (g : s[0].toNat < 128) : Calls Try.prog 36 #[.string s] w (DwPost s.data.toList w) := by
  unfold maxLen at hs
  have b0 : s[0].toNat < 256 := s[0].toNat_lt
  have H := Lib.hid (show point s.data.toList = some (s[0].toNat, 1) by obtain ⟨t, ht⟩ := bytes_cons s h0; rw [ht]; exact point_one _ _ g)
  have q1 : ¬ (s.size : Int) < 1 := by omega
  have q2 : (s[0].toNat : Int) < 128 := by omega
  go_enter Try.func36, Try.ntmps36
  go_wp2
  go_ret2
  exact dw_good H.out rfl rfl

set_option maxRecDepth 100000 in
set_option maxHeartbeats 400000 in
theorem dw_lo (s : ByteArray) (w : World) (hs : s.size ≤ maxLen) (h0 : 0 < s.size) (g1 : 128 ≤ s[0].toNat) (g2 : s[0].toNat < 192) : Calls Try.prog 36 #[.string s] w (DwPost s.data.toList w) := by
  unfold maxLen at hs
  have H := Lib.hid (show point s.data.toList = none by obtain ⟨t, ht⟩ := bytes_cons s h0; rw [ht]; exact point_zero (by unfold longOf; rw [if_neg (by omega), if_pos (by omega)]))
  have b0 : s[0].toNat < 256 := s[0].toNat_lt
  have q1 : ¬ (s.size : Int) < 1 := by omega
  have q2 : ¬ (s[0].toNat : Int) < 128 := by omega
  have e1 := f224 b0 (decide_eq_false (by omega : ¬ (192 ≤ s[0].toNat ∧ s[0].toNat < 224)))
  have e2 := f240 b0 (decide_eq_false (by omega : ¬ (224 ≤ s[0].toNat ∧ s[0].toNat < 240)))
  have e3 := f248 b0 (decide_eq_false (by omega : ¬ (240 ≤ s[0].toNat ∧ s[0].toNat < 248)))
  go_enter Try.func36, Try.ntmps36
  go_wp2
  go_ret2
  exact dw_bad1 H.out

set_option maxRecDepth 100000 in
set_option maxHeartbeats 400000 in
theorem dw_hi (s : ByteArray) (w : World) (hs : s.size ≤ maxLen) (h0 : 0 < s.size) (g1 : 248 ≤ s[0].toNat) : Calls Try.prog 36 #[.string s] w (DwPost s.data.toList w) := by
  unfold maxLen at hs
  have H := Lib.hid (show point s.data.toList = none by obtain ⟨t, ht⟩ := bytes_cons s h0; rw [ht]; exact point_zero (by unfold longOf; rw [if_neg (by omega), if_neg (by omega), if_neg (by omega), if_neg (by omega), if_neg (by omega)]))
  have b0 : s[0].toNat < 256 := s[0].toNat_lt
  have q1 : ¬ (s.size : Int) < 1 := by omega
  have q2 : ¬ (s[0].toNat : Int) < 128 := by omega
  have e1 := f224 b0 (decide_eq_false (by omega : ¬ (192 ≤ s[0].toNat ∧ s[0].toNat < 224)))
  have e2 := f240 b0 (decide_eq_false (by omega : ¬ (224 ≤ s[0].toNat ∧ s[0].toNat < 240)))
  have e3 := f248 b0 (decide_eq_false (by omega : ¬ (240 ≤ s[0].toNat ∧ s[0].toNat < 248)))
  go_enter Try.func36, Try.ntmps36
  go_wp2
  go_ret2
  exact dw_bad1 H.out

set_option maxRecDepth 100000 in
set_option maxHeartbeats 400000 in
theorem dw_2short (s : ByteArray) (w : World) (hs : s.size ≤ maxLen) (h0 : 0 < s.size) (g1 : 192 ≤ s[0].toNat) (g2 : s[0].toNat < 224) (hz : s.size < 2) : Calls Try.prog 36 #[.string s] w (DwPost s.data.toList w) := by
  unfold maxLen at hs
  have H := Lib.hid (stop_out s 1 h0 (by omega) (long2 g1 g2) (by omega))
  have q3 : (s.size : Int) < 2 := by omega
  have b0 : s[0].toNat < 256 := s[0].toNat_lt
  have q1 : ¬ (s.size : Int) < 1 := by omega
  have q2 : ¬ (s[0].toNat : Int) < 128 := by omega
  have e1 := f224 b0 (decide_eq_true (by omega : 192 ≤ s[0].toNat ∧ s[0].toNat < 224))
  go_enter Try.func36, Try.ntmps36
  go_wp2
  go_ret2
  exact dw_bad0 H.out

set_option maxRecDepth 100000 in
set_option maxHeartbeats 400000 in
theorem dw_2bad1 (s : ByteArray) (w : World) (hs : s.size ≤ maxLen) (h0 : 0 < s.size) (g1 : 192 ≤ s[0].toNat) (g2 : s[0].toNat < 224) (hz : 2 ≤ s.size) (c1 : ¬ (128 ≤ s[1].toNat ∧ s[1].toNat < 192)) : Calls Try.prog 36 #[.string s] w (DwPost s.data.toList w) := by
  unfold maxLen at hs
  have H := Lib.hid (stop_bad s 1 h0 (by omega) (long2 g1 g2) (by omega) c1)
  have q3 : ¬ (s.size : Int) < 2 := by omega
  have b0 : s[0].toNat < 256 := s[0].toNat_lt
  have q1 : ¬ (s.size : Int) < 1 := by omega
  have q2 : ¬ (s[0].toNat : Int) < 128 := by omega
  have e1 := f224 b0 (decide_eq_true (by omega : 192 ≤ s[0].toNat ∧ s[0].toNat < 224))
  have b1 : s[1].toNat < 256 := s[1].toNat_lt
  have r1 := f192t b1 c1
  clear c1
  go_enter Try.func36, Try.ntmps36
  go_wp2
  go_ret2
  exact dw_bad1 H.out

set_option maxRecDepth 100000 in
set_option maxHeartbeats 400000 in
theorem dw_2low (s : ByteArray) (w : World) (hs : s.size ≤ maxLen) (h0 : 0 < s.size) (g1 : 192 ≤ s[0].toNat) (g2 : s[0].toNat < 224) (hz : 2 ≤ s.size) (c1 : 128 ≤ s[1].toNat ∧ s[1].toNat < 192) (hv : s[0].toNat < 194) : Calls Try.prog 36 #[.string s] w (DwPost s.data.toList w) := by
  unfold maxLen at hs
  have H := Lib.hid (show point s.data.toList = none by obtain ⟨t, ht⟩ := bytes_cons s h0; rw [ht]; exact point_zero (by unfold longOf; rw [if_neg (by omega), if_pos hv]))
  have q3 : ¬ (s.size : Int) < 2 := by omega
  have b0 : s[0].toNat < 256 := s[0].toNat_lt
  have q1 : ¬ (s.size : Int) < 1 := by omega
  have q2 : ¬ (s[0].toNat : Int) < 128 := by omega
  have e1 := f224 b0 (decide_eq_true (by omega : 192 ≤ s[0].toNat ∧ s[0].toNat < 224))
  have b1 : s[1].toNat < 256 := s[1].toNat_lt
  have r1 := f192f b1 c1
  have m0 := f31 b0
  have m1 := f63 b1
  have q4 : (s[0].toNat : Int) % (32 : Int) * (64 : Int) + (s[1].toNat : Int) % (64 : Int) < 128 := by omega
  clear c1
  clear hv
  go_enter Try.func36, Try.ntmps36
  go_wp2
  go_ret2
  exact dw_bad1 H.out

set_option maxRecDepth 100000 in
set_option maxHeartbeats 400000 in
theorem dw_2good (s : ByteArray) (w : World) (hs : s.size ≤ maxLen) (h0 : 0 < s.size) (g1 : 192 ≤ s[0].toNat) (g2 : s[0].toNat < 224) (hz : 2 ≤ s.size) (c1 : 128 ≤ s[1].toNat ∧ s[1].toNat < 192) (hv : 194 ≤ s[0].toNat) : Calls Try.prog 36 #[.string s] w (DwPost s.data.toList w) := by
  unfold maxLen at hs
  have H := Lib.hid (show point s.data.toList = some ((s[0].toNat - 192) * 64 + cv s[1], 2) by obtain ⟨t, ht⟩ := bytes_two s (by omega); rw [ht]; exact Stamp.point_two _ _ _ hv g2 (isC_of c1))
  have q3 : ¬ (s.size : Int) < 2 := by omega
  have b0 : s[0].toNat < 256 := s[0].toNat_lt
  have q1 : ¬ (s.size : Int) < 1 := by omega
  have q2 : ¬ (s[0].toNat : Int) < 128 := by omega
  have e1 := f224 b0 (decide_eq_true (by omega : 192 ≤ s[0].toNat ∧ s[0].toNat < 224))
  have b1 : s[1].toNat < 256 := s[1].toNat_lt
  have r1 := f192f b1 c1
  have m0 := f31 b0
  have m1 := f63 b1
  have HV := Lib.hid (show (s[0].toNat : Int) % (32 : Int) * (64 : Int) + (s[1].toNat : Int) % (64 : Int) = (((s[0].toNat - 192) * 64 + cv s[1] : Nat) : Int) by unfold cv; omega)
  have q4 : ¬ (s[0].toNat : Int) % (32 : Int) * (64 : Int) + (s[1].toNat : Int) % (64 : Int) < 128 := by omega
  clear c1
  clear hv
  go_enter Try.func36, Try.ntmps36
  go_wp2
  go_ret2
  exact dw_good H.out HV.out rfl

set_option maxRecDepth 100000 in
set_option maxHeartbeats 400000 in
theorem dw_3short (s : ByteArray) (w : World) (hs : s.size ≤ maxLen) (h0 : 0 < s.size) (g1 : 224 ≤ s[0].toNat) (g2 : s[0].toNat < 240) (hz : s.size < 3) : Calls Try.prog 36 #[.string s] w (DwPost s.data.toList w) := by
  unfold maxLen at hs
  have H := Lib.hid (stop_out s 2 h0 (by omega) (long3 (k := 2) g1 g2 (by omega)) (by omega))
  have q3 : (s.size : Int) < 3 := by omega
  have b0 : s[0].toNat < 256 := s[0].toNat_lt
  have q1 : ¬ (s.size : Int) < 1 := by omega
  have q2 : ¬ (s[0].toNat : Int) < 128 := by omega
  have e1 := f224 b0 (decide_eq_false (by omega : ¬ (192 ≤ s[0].toNat ∧ s[0].toNat < 224)))
  have e2 := f240 b0 (decide_eq_true (by omega : 224 ≤ s[0].toNat ∧ s[0].toNat < 240))
  go_enter Try.func36, Try.ntmps36
  go_wp2
  go_ret2
  exact dw_bad0 H.out

set_option maxRecDepth 100000 in
set_option maxHeartbeats 400000 in
theorem dw_3bad1 (s : ByteArray) (w : World) (hs : s.size ≤ maxLen) (h0 : 0 < s.size) (g1 : 224 ≤ s[0].toNat) (g2 : s[0].toNat < 240) (hz : 3 ≤ s.size) (c1 : ¬ (128 ≤ s[1].toNat ∧ s[1].toNat < 192)) : Calls Try.prog 36 #[.string s] w (DwPost s.data.toList w) := by
  unfold maxLen at hs
  have H := Lib.hid (stop_bad s 1 h0 (by omega) (long3 (k := 1) g1 g2 (by omega)) (by omega) c1)
  have q3 : ¬ (s.size : Int) < 3 := by omega
  have b0 : s[0].toNat < 256 := s[0].toNat_lt
  have q1 : ¬ (s.size : Int) < 1 := by omega
  have q2 : ¬ (s[0].toNat : Int) < 128 := by omega
  have e1 := f224 b0 (decide_eq_false (by omega : ¬ (192 ≤ s[0].toNat ∧ s[0].toNat < 224)))
  have e2 := f240 b0 (decide_eq_true (by omega : 224 ≤ s[0].toNat ∧ s[0].toNat < 240))
  have b1 : s[1].toNat < 256 := s[1].toNat_lt
  have r1 := f192t b1 c1
  clear c1
  go_enter Try.func36, Try.ntmps36
  go_wp2
  go_ret2
  exact dw_bad1 H.out

set_option maxRecDepth 100000 in
set_option maxHeartbeats 400000 in
theorem dw_3bad2 (s : ByteArray) (w : World) (hs : s.size ≤ maxLen) (h0 : 0 < s.size) (g1 : 224 ≤ s[0].toNat) (g2 : s[0].toNat < 240) (hz : 3 ≤ s.size) (c1 : 128 ≤ s[1].toNat ∧ s[1].toNat < 192) (c2 : ¬ (128 ≤ s[2].toNat ∧ s[2].toNat < 192)) : Calls Try.prog 36 #[.string s] w (DwPost s.data.toList w) := by
  unfold maxLen at hs
  have H := Lib.hid (stop_bad s 2 h0 (by omega) (long3 (k := 2) g1 g2 (by omega)) (by omega) c2)
  have q3 : ¬ (s.size : Int) < 3 := by omega
  have b0 : s[0].toNat < 256 := s[0].toNat_lt
  have q1 : ¬ (s.size : Int) < 1 := by omega
  have q2 : ¬ (s[0].toNat : Int) < 128 := by omega
  have e1 := f224 b0 (decide_eq_false (by omega : ¬ (192 ≤ s[0].toNat ∧ s[0].toNat < 224)))
  have e2 := f240 b0 (decide_eq_true (by omega : 224 ≤ s[0].toNat ∧ s[0].toNat < 240))
  have b1 : s[1].toNat < 256 := s[1].toNat_lt
  have b2 : s[2].toNat < 256 := s[2].toNat_lt
  have r1 := f192f b1 c1
  have r2 := f192t b2 c2
  clear c1 c2
  go_enter Try.func36, Try.ntmps36
  go_wp2
  go_ret2
  exact dw_bad1 H.out

set_option maxRecDepth 100000 in
set_option maxHeartbeats 400000 in
theorem dw_3low (s : ByteArray) (w : World) (hs : s.size ≤ maxLen) (h0 : 0 < s.size) (g1 : 224 ≤ s[0].toNat) (g2 : s[0].toNat < 240) (hz : 3 ≤ s.size) (c1 : 128 ≤ s[1].toNat ∧ s[1].toNat < 192) (c2 : 128 ≤ s[2].toNat ∧ s[2].toNat < 192) (hv : (s[0].toNat - 224) * 4096 + cv s[1] * 64 + cv s[2] < 2048) : Calls Try.prog 36 #[.string s] w (DwPost s.data.toList w) := by
  unfold maxLen at hs
  have H := Lib.hid (show point s.data.toList = none by obtain ⟨t, ht⟩ := bytes_three s (by omega); rw [ht]; unfold point; dsimp only; rw [if_neg (by omega), if_neg (by omega), if_neg (by omega), if_pos g2, if_neg (by rw [decide_eq_false (by omega)]; simp)])
  unfold cv at hv
  have q3 : ¬ (s.size : Int) < 3 := by omega
  have b0 : s[0].toNat < 256 := s[0].toNat_lt
  have q1 : ¬ (s.size : Int) < 1 := by omega
  have q2 : ¬ (s[0].toNat : Int) < 128 := by omega
  have e1 := f224 b0 (decide_eq_false (by omega : ¬ (192 ≤ s[0].toNat ∧ s[0].toNat < 224)))
  have e2 := f240 b0 (decide_eq_true (by omega : 224 ≤ s[0].toNat ∧ s[0].toNat < 240))
  have b1 : s[1].toNat < 256 := s[1].toNat_lt
  have b2 : s[2].toNat < 256 := s[2].toNat_lt
  have r1 := f192f b1 c1
  have r2 := f192f b2 c2
  have m0 := f15 b0
  have m1 := f63 b1
  have m2 := f63 b2
  have q4 : (s[0].toNat : Int) % (16 : Int) * (4096 : Int) + (s[1].toNat : Int) % (64 : Int) * (64 : Int) + (s[2].toNat : Int) % (64 : Int) < 2048 := by omega
  clear c1 c2
  clear hv
  go_enter Try.func36, Try.ntmps36
  go_wp2
  go_ret2
  exact dw_bad1 H.out

set_option maxRecDepth 100000 in
set_option maxHeartbeats 400000 in
theorem dw_3good (s : ByteArray) (w : World) (hs : s.size ≤ maxLen) (h0 : 0 < s.size) (g1 : 224 ≤ s[0].toNat) (g2 : s[0].toNat < 240) (hz : 3 ≤ s.size) (c1 : 128 ≤ s[1].toNat ∧ s[1].toNat < 192) (c2 : 128 ≤ s[2].toNat ∧ s[2].toNat < 192) (hv : 2048 ≤ (s[0].toNat - 224) * 4096 + cv s[1] * 64 + cv s[2]) : Calls Try.prog 36 #[.string s] w (DwPost s.data.toList w) := by
  unfold maxLen at hs
  have H := Lib.hid (show point s.data.toList = some ((s[0].toNat - 224) * 4096 + cv s[1] * 64 + cv s[2], 3) by obtain ⟨t, ht⟩ := bytes_three s (by omega); rw [ht]; exact Stamp.point_three _ _ _ _ g1 g2 (isC_of c1) (isC_of c2) hv)
  unfold cv at hv
  have q3 : ¬ (s.size : Int) < 3 := by omega
  have b0 : s[0].toNat < 256 := s[0].toNat_lt
  have q1 : ¬ (s.size : Int) < 1 := by omega
  have q2 : ¬ (s[0].toNat : Int) < 128 := by omega
  have e1 := f224 b0 (decide_eq_false (by omega : ¬ (192 ≤ s[0].toNat ∧ s[0].toNat < 224)))
  have e2 := f240 b0 (decide_eq_true (by omega : 224 ≤ s[0].toNat ∧ s[0].toNat < 240))
  have b1 : s[1].toNat < 256 := s[1].toNat_lt
  have b2 : s[2].toNat < 256 := s[2].toNat_lt
  have r1 := f192f b1 c1
  have r2 := f192f b2 c2
  have m0 := f15 b0
  have m1 := f63 b1
  have m2 := f63 b2
  have HV := Lib.hid (show (s[0].toNat : Int) % (16 : Int) * (4096 : Int) + (s[1].toNat : Int) % (64 : Int) * (64 : Int) + (s[2].toNat : Int) % (64 : Int) = (((s[0].toNat - 224) * 4096 + cv s[1] * 64 + cv s[2] : Nat) : Int) by unfold cv; omega)
  have q4 : ¬ (s[0].toNat : Int) % (16 : Int) * (4096 : Int) + (s[1].toNat : Int) % (64 : Int) * (64 : Int) + (s[2].toNat : Int) % (64 : Int) < 2048 := by omega
  clear c1 c2
  clear hv
  go_enter Try.func36, Try.ntmps36
  go_wp2
  go_ret2
  exact dw_good H.out HV.out rfl

set_option maxRecDepth 100000 in
set_option maxHeartbeats 400000 in
theorem dw_4short (s : ByteArray) (w : World) (hs : s.size ≤ maxLen) (h0 : 0 < s.size) (g1 : 240 ≤ s[0].toNat) (g2 : s[0].toNat < 248) (hz : s.size < 4) : Calls Try.prog 36 #[.string s] w (DwPost s.data.toList w) := by
  unfold maxLen at hs
  have H := Lib.hid (stop_out s 3 h0 (by omega) (long4 (k := 3) g1 (by omega)) (by omega))
  have q3 : (s.size : Int) < 4 := by omega
  have b0 : s[0].toNat < 256 := s[0].toNat_lt
  have q1 : ¬ (s.size : Int) < 1 := by omega
  have q2 : ¬ (s[0].toNat : Int) < 128 := by omega
  have e1 := f224 b0 (decide_eq_false (by omega : ¬ (192 ≤ s[0].toNat ∧ s[0].toNat < 224)))
  have e2 := f240 b0 (decide_eq_false (by omega : ¬ (224 ≤ s[0].toNat ∧ s[0].toNat < 240)))
  have e3 := f248 b0 (decide_eq_true (by omega : 240 ≤ s[0].toNat ∧ s[0].toNat < 248))
  go_enter Try.func36, Try.ntmps36
  go_wp2
  go_ret2
  exact dw_bad0 H.out

set_option maxRecDepth 100000 in
set_option maxHeartbeats 400000 in
theorem dw_4bad1 (s : ByteArray) (w : World) (hs : s.size ≤ maxLen) (h0 : 0 < s.size) (g1 : 240 ≤ s[0].toNat) (g2 : s[0].toNat < 248) (hz : 4 ≤ s.size) (c1 : ¬ (128 ≤ s[1].toNat ∧ s[1].toNat < 192)) : Calls Try.prog 36 #[.string s] w (DwPost s.data.toList w) := by
  unfold maxLen at hs
  have H := Lib.hid (stop_bad s 1 h0 (by omega) (long4 (k := 1) g1 (by omega)) (by omega) c1)
  have q3 : ¬ (s.size : Int) < 4 := by omega
  have b0 : s[0].toNat < 256 := s[0].toNat_lt
  have q1 : ¬ (s.size : Int) < 1 := by omega
  have q2 : ¬ (s[0].toNat : Int) < 128 := by omega
  have e1 := f224 b0 (decide_eq_false (by omega : ¬ (192 ≤ s[0].toNat ∧ s[0].toNat < 224)))
  have e2 := f240 b0 (decide_eq_false (by omega : ¬ (224 ≤ s[0].toNat ∧ s[0].toNat < 240)))
  have e3 := f248 b0 (decide_eq_true (by omega : 240 ≤ s[0].toNat ∧ s[0].toNat < 248))
  have b1 : s[1].toNat < 256 := s[1].toNat_lt
  have r1 := f192t b1 c1
  clear c1
  go_enter Try.func36, Try.ntmps36
  go_wp2
  go_ret2
  exact dw_bad1 H.out

set_option maxRecDepth 100000 in
set_option maxHeartbeats 400000 in
theorem dw_4bad2 (s : ByteArray) (w : World) (hs : s.size ≤ maxLen) (h0 : 0 < s.size) (g1 : 240 ≤ s[0].toNat) (g2 : s[0].toNat < 248) (hz : 4 ≤ s.size) (c1 : 128 ≤ s[1].toNat ∧ s[1].toNat < 192) (c2 : ¬ (128 ≤ s[2].toNat ∧ s[2].toNat < 192)) : Calls Try.prog 36 #[.string s] w (DwPost s.data.toList w) := by
  unfold maxLen at hs
  have H := Lib.hid (stop_bad s 2 h0 (by omega) (long4 (k := 2) g1 (by omega)) (by omega) c2)
  have q3 : ¬ (s.size : Int) < 4 := by omega
  have b0 : s[0].toNat < 256 := s[0].toNat_lt
  have q1 : ¬ (s.size : Int) < 1 := by omega
  have q2 : ¬ (s[0].toNat : Int) < 128 := by omega
  have e1 := f224 b0 (decide_eq_false (by omega : ¬ (192 ≤ s[0].toNat ∧ s[0].toNat < 224)))
  have e2 := f240 b0 (decide_eq_false (by omega : ¬ (224 ≤ s[0].toNat ∧ s[0].toNat < 240)))
  have e3 := f248 b0 (decide_eq_true (by omega : 240 ≤ s[0].toNat ∧ s[0].toNat < 248))
  have b1 : s[1].toNat < 256 := s[1].toNat_lt
  have b2 : s[2].toNat < 256 := s[2].toNat_lt
  have r1 := f192f b1 c1
  have r2 := f192t b2 c2
  clear c1 c2
  go_enter Try.func36, Try.ntmps36
  go_wp2
  go_ret2
  exact dw_bad1 H.out

set_option maxRecDepth 100000 in
set_option maxHeartbeats 400000 in
theorem dw_4bad3 (s : ByteArray) (w : World) (hs : s.size ≤ maxLen) (h0 : 0 < s.size) (g1 : 240 ≤ s[0].toNat) (g2 : s[0].toNat < 248) (hz : 4 ≤ s.size) (c1 : 128 ≤ s[1].toNat ∧ s[1].toNat < 192) (c2 : 128 ≤ s[2].toNat ∧ s[2].toNat < 192) (c3 : ¬ (128 ≤ s[3].toNat ∧ s[3].toNat < 192)) : Calls Try.prog 36 #[.string s] w (DwPost s.data.toList w) := by
  unfold maxLen at hs
  have H := Lib.hid (stop_bad s 3 h0 (by omega) (long4 (k := 3) g1 (by omega)) (by omega) c3)
  have q3 : ¬ (s.size : Int) < 4 := by omega
  have b0 : s[0].toNat < 256 := s[0].toNat_lt
  have q1 : ¬ (s.size : Int) < 1 := by omega
  have q2 : ¬ (s[0].toNat : Int) < 128 := by omega
  have e1 := f224 b0 (decide_eq_false (by omega : ¬ (192 ≤ s[0].toNat ∧ s[0].toNat < 224)))
  have e2 := f240 b0 (decide_eq_false (by omega : ¬ (224 ≤ s[0].toNat ∧ s[0].toNat < 240)))
  have e3 := f248 b0 (decide_eq_true (by omega : 240 ≤ s[0].toNat ∧ s[0].toNat < 248))
  have b1 : s[1].toNat < 256 := s[1].toNat_lt
  have b2 : s[2].toNat < 256 := s[2].toNat_lt
  have b3 : s[3].toNat < 256 := s[3].toNat_lt
  have r1 := f192f b1 c1
  have r2 := f192f b2 c2
  have r3 := f192t b3 c3
  clear c1 c2 c3
  go_enter Try.func36, Try.ntmps36
  go_wp2
  go_ret2
  exact dw_bad1 H.out

set_option maxRecDepth 100000 in
set_option maxHeartbeats 400000 in
theorem dw_4low (s : ByteArray) (w : World) (hs : s.size ≤ maxLen) (h0 : 0 < s.size) (g1 : 240 ≤ s[0].toNat) (g2 : s[0].toNat < 248) (hz : 4 ≤ s.size) (c1 : 128 ≤ s[1].toNat ∧ s[1].toNat < 192) (c2 : 128 ≤ s[2].toNat ∧ s[2].toNat < 192) (c3 : 128 ≤ s[3].toNat ∧ s[3].toNat < 192) (hv : (s[0].toNat - 240) * 262144 + cv s[1] * 4096 + cv s[2] * 64 + cv s[3] < 65536) : Calls Try.prog 36 #[.string s] w (DwPost s.data.toList w) := by
  unfold maxLen at hs
  have H := Lib.hid (show point s.data.toList = none by obtain ⟨t, ht⟩ := bytes_four s (by omega); rw [ht]; exact low4_of g1 (.inl hv))
  unfold cv at hv
  have q3 : ¬ (s.size : Int) < 4 := by omega
  have b0 : s[0].toNat < 256 := s[0].toNat_lt
  have q1 : ¬ (s.size : Int) < 1 := by omega
  have q2 : ¬ (s[0].toNat : Int) < 128 := by omega
  have e1 := f224 b0 (decide_eq_false (by omega : ¬ (192 ≤ s[0].toNat ∧ s[0].toNat < 224)))
  have e2 := f240 b0 (decide_eq_false (by omega : ¬ (224 ≤ s[0].toNat ∧ s[0].toNat < 240)))
  have e3 := f248 b0 (decide_eq_true (by omega : 240 ≤ s[0].toNat ∧ s[0].toNat < 248))
  have b1 : s[1].toNat < 256 := s[1].toNat_lt
  have b2 : s[2].toNat < 256 := s[2].toNat_lt
  have b3 : s[3].toNat < 256 := s[3].toNat_lt
  have r1 := f192f b1 c1
  have r2 := f192f b2 c2
  have r3 := f192f b3 c3
  have m0 := f7 b0
  have m1 := f63 b1
  have m2 := f63 b2
  have m3 := f63 b3
  have Q4 : Hid (∀ _ : Unit, (s[0].toNat : Int) % (8 : Int) * (262144 : Int) + (s[1].toNat : Int) % (64 : Int) * (4096 : Int) + (s[2].toNat : Int) % (64 : Int) * (64 : Int) + (s[3].toNat : Int) % (64 : Int) < 65536) := Lib.hid (fun _ => by omega)
  clear c1 c2 c3
  clear hv
  go_enter Try.func36, Try.ntmps36
  go_wp2
  all_goals first | (have h9 := Q4.out (); exfalso; omega) | (go_ret2; exact dw_bad1 H.out)
  

set_option maxRecDepth 100000 in
set_option maxHeartbeats 400000 in
theorem dw_4high (s : ByteArray) (w : World) (hs : s.size ≤ maxLen) (h0 : 0 < s.size) (g1 : 240 ≤ s[0].toNat) (g2 : s[0].toNat < 248) (hz : 4 ≤ s.size) (c1 : 128 ≤ s[1].toNat ∧ s[1].toNat < 192) (c2 : 128 ≤ s[2].toNat ∧ s[2].toNat < 192) (c3 : 128 ≤ s[3].toNat ∧ s[3].toNat < 192) (hv : 1114111 < (s[0].toNat - 240) * 262144 + cv s[1] * 4096 + cv s[2] * 64 + cv s[3]) : Calls Try.prog 36 #[.string s] w (DwPost s.data.toList w) := by
  unfold maxLen at hs
  have H := Lib.hid (show point s.data.toList = none by obtain ⟨t, ht⟩ := bytes_four s (by omega); rw [ht]; exact low4_of g1 (.inr hv))
  unfold cv at hv
  have q3 : ¬ (s.size : Int) < 4 := by omega
  have b0 : s[0].toNat < 256 := s[0].toNat_lt
  have q1 : ¬ (s.size : Int) < 1 := by omega
  have q2 : ¬ (s[0].toNat : Int) < 128 := by omega
  have e1 := f224 b0 (decide_eq_false (by omega : ¬ (192 ≤ s[0].toNat ∧ s[0].toNat < 224)))
  have e2 := f240 b0 (decide_eq_false (by omega : ¬ (224 ≤ s[0].toNat ∧ s[0].toNat < 240)))
  have e3 := f248 b0 (decide_eq_true (by omega : 240 ≤ s[0].toNat ∧ s[0].toNat < 248))
  have b1 : s[1].toNat < 256 := s[1].toNat_lt
  have b2 : s[2].toNat < 256 := s[2].toNat_lt
  have b3 : s[3].toNat < 256 := s[3].toNat_lt
  have r1 := f192f b1 c1
  have r2 := f192f b2 c2
  have r3 := f192f b3 c3
  have m0 := f7 b0
  have m1 := f63 b1
  have m2 := f63 b2
  have m3 := f63 b3
  have q4 : ¬ (s[0].toNat : Int) % (8 : Int) * (262144 : Int) + (s[1].toNat : Int) % (64 : Int) * (4096 : Int) + (s[2].toNat : Int) % (64 : Int) * (64 : Int) + (s[3].toNat : Int) % (64 : Int) < 65536 := by omega
  have q5 : 1114111 < (s[0].toNat : Int) % (8 : Int) * (262144 : Int) + (s[1].toNat : Int) % (64 : Int) * (4096 : Int) + (s[2].toNat : Int) % (64 : Int) * (64 : Int) + (s[3].toNat : Int) % (64 : Int) := by omega
  clear c1 c2 c3
  clear hv
  go_enter Try.func36, Try.ntmps36
  go_wp2
  go_ret2
  exact dw_bad1 H.out

set_option maxRecDepth 100000 in
set_option maxHeartbeats 400000 in
theorem dw_4good (s : ByteArray) (w : World) (hs : s.size ≤ maxLen) (h0 : 0 < s.size) (g1 : 240 ≤ s[0].toNat) (g2 : s[0].toNat < 248) (hz : 4 ≤ s.size) (c1 : 128 ≤ s[1].toNat ∧ s[1].toNat < 192) (c2 : 128 ≤ s[2].toNat ∧ s[2].toNat < 192) (c3 : 128 ≤ s[3].toNat ∧ s[3].toNat < 192) (hv : 65536 ≤ (s[0].toNat - 240) * 262144 + cv s[1] * 4096 + cv s[2] * 64 + cv s[3]) (hv2 : (s[0].toNat - 240) * 262144 + cv s[1] * 4096 + cv s[2] * 64 + cv s[3] ≤ 1114111) : Calls Try.prog 36 #[.string s] w (DwPost s.data.toList w) := by
  unfold maxLen at hs
  have H := Lib.hid (show point s.data.toList = some ((s[0].toNat - 240) * 262144 + cv s[1] * 4096 + cv s[2] * 64 + cv s[3], 4) by obtain ⟨t, ht⟩ := bytes_four s (by omega); rw [ht]; exact Stamp.point_four _ _ _ _ _ g1 (by have h5 := hv2; unfold cv at h5; omega) (isC_of c1) (isC_of c2) (isC_of c3) hv hv2)
  unfold cv at hv hv2
  have q3 : ¬ (s.size : Int) < 4 := by omega
  have b0 : s[0].toNat < 256 := s[0].toNat_lt
  have q1 : ¬ (s.size : Int) < 1 := by omega
  have q2 : ¬ (s[0].toNat : Int) < 128 := by omega
  have e1 := f224 b0 (decide_eq_false (by omega : ¬ (192 ≤ s[0].toNat ∧ s[0].toNat < 224)))
  have e2 := f240 b0 (decide_eq_false (by omega : ¬ (224 ≤ s[0].toNat ∧ s[0].toNat < 240)))
  have e3 := f248 b0 (decide_eq_true (by omega : 240 ≤ s[0].toNat ∧ s[0].toNat < 248))
  have b1 : s[1].toNat < 256 := s[1].toNat_lt
  have b2 : s[2].toNat < 256 := s[2].toNat_lt
  have b3 : s[3].toNat < 256 := s[3].toNat_lt
  have r1 := f192f b1 c1
  have r2 := f192f b2 c2
  have r3 := f192f b3 c3
  have m0 := f7 b0
  have m1 := f63 b1
  have m2 := f63 b2
  have m3 := f63 b3
  have HV := Lib.hid (show (s[0].toNat : Int) % (8 : Int) * (262144 : Int) + (s[1].toNat : Int) % (64 : Int) * (4096 : Int) + (s[2].toNat : Int) % (64 : Int) * (64 : Int) + (s[3].toNat : Int) % (64 : Int) = (((s[0].toNat - 240) * 262144 + cv s[1] * 4096 + cv s[2] * 64 + cv s[3] : Nat) : Int) by unfold cv; omega)
  have q4 : ¬ (s[0].toNat : Int) % (8 : Int) * (262144 : Int) + (s[1].toNat : Int) % (64 : Int) * (4096 : Int) + (s[2].toNat : Int) % (64 : Int) * (64 : Int) + (s[3].toNat : Int) % (64 : Int) < 65536 := by omega
  have q5 : ¬ 1114111 < (s[0].toNat : Int) % (8 : Int) * (262144 : Int) + (s[1].toNat : Int) % (64 : Int) * (4096 : Int) + (s[2].toNat : Int) % (64 : Int) * (64 : Int) + (s[3].toNat : Int) % (64 : Int) := by omega
  clear c1 c2 c3
  clear hv2
  clear hv
  go_enter Try.func36, Try.ntmps36
  go_wp2
  go_ret2
  exact dw_good H.out HV.out rfl

theorem Dw_calls (s : ByteArray) (w : World) (hs : s.size ≤ maxLen) : Calls Try.prog 36 #[.string s] w (DwPost s.data.toList w) := by
  by_cases h0 : 0 < s.size
  · by_cases g1 : s[0].toNat < 128
    · exact dw_ascii s w hs h0 g1
    · by_cases g2 : s[0].toNat < 192
      · exact dw_lo s w hs h0 (by omega) g2
      · by_cases g3 : s[0].toNat < 224
        · by_cases hz : s.size < 2
          · exact dw_2short s w hs h0 (by omega) g3 hz
          · by_cases c1 : 128 ≤ s[1].toNat ∧ s[1].toNat < 192
            · by_cases hv : s[0].toNat < 194
              · exact dw_2low s w hs h0 (by omega) g3 (by omega) c1 hv
              · exact dw_2good s w hs h0 (by omega) g3 (by omega) c1 (by omega)
            · exact dw_2bad1 s w hs h0 (by omega) g3 (by omega) c1
        · by_cases g4 : s[0].toNat < 240
          · by_cases hz : s.size < 3
            · exact dw_3short s w hs h0 (by omega) g4 hz
            · by_cases c1 : 128 ≤ s[1].toNat ∧ s[1].toNat < 192
              · by_cases c2 : 128 ≤ s[2].toNat ∧ s[2].toNat < 192
                · by_cases hv : (s[0].toNat - 224) * 4096 + cv s[1] * 64 + cv s[2] < 2048
                  · exact dw_3low s w hs h0 (by omega) g4 (by omega) c1 c2 hv
                  · exact dw_3good s w hs h0 (by omega) g4 (by omega) c1 c2 (by omega)
                · exact dw_3bad2 s w hs h0 (by omega) g4 (by omega) c1 c2
              · exact dw_3bad1 s w hs h0 (by omega) g4 (by omega) c1
          · by_cases g5 : s[0].toNat < 248
            · by_cases hz : s.size < 4
              · exact dw_4short s w hs h0 (by omega) g5 hz
              · by_cases c1 : 128 ≤ s[1].toNat ∧ s[1].toNat < 192
                · by_cases c2 : 128 ≤ s[2].toNat ∧ s[2].toNat < 192
                  · by_cases c3 : 128 ≤ s[3].toNat ∧ s[3].toNat < 192
                    · by_cases hv : (s[0].toNat - 240) * 262144 + cv s[1] * 4096 + cv s[2] * 64 + cv s[3] < 65536
                      · exact dw_4low s w hs h0 (by omega) g5 (by omega) c1 c2 c3 hv
                      · by_cases hv2 : 1114111 < (s[0].toNat - 240) * 262144 + cv s[1] * 4096 + cv s[2] * 64 + cv s[3]
                        · exact dw_4high s w hs h0 (by omega) g5 (by omega) c1 c2 c3 hv2
                        · exact dw_4good s w hs h0 (by omega) g5 (by omega) c1 c2 c3 (by omega) (by omega)
                    · exact dw_4bad3 s w hs h0 (by omega) g5 (by omega) c1 c2 c3
                  · exact dw_4bad2 s w hs h0 (by omega) g5 (by omega) c1 c2
                · exact dw_4bad1 s w hs h0 (by omega) g5 (by omega) c1
            · exact dw_hi s w hs h0 (by omega)
  · exact dw_empty s w hs h0

end Go.Proofs.Ytolgpnkofnibjaa
