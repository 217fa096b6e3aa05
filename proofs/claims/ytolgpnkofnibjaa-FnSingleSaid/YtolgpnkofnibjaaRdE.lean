/- The contracts of 'spec.escape' and 'spec.ReadSingle' at a quoted text. -/
import Derived.Test.YtolgpnkofnibjaaRdJ
namespace Go.Proofs.Ytolgpnkofnibjaa
open Go.RowKit Stamp
set_option linter.unusedVariables false

def EscPost (u k : Nat) (w : World) (e : Ending) (w' : World) : Prop :=
  ∃ A c, e = .returned (.tuple #[.slice A 1 c, .int .i64 (k : Int), .bool true]) ∧ 1 ≤ c ∧ c ≤ maxLen ∧ Holds w' w'.heap.size A [u16I u] ∧ Below w.heap.size w w'
theorem look_two {c u : Nat} (h : oneB c u = true) : look [39, 34, 92, 98, 102, 110, 114, 116, 118] [39, 34, 92, 8, 12, 10, 13, 9, 11] (UInt8.ofNat c) = some (UInt8.ofNat u) ∧ c < 256 ∧ u < 256 := by
  simp only [oneB, Bool.or_eq_true, Bool.and_eq_true, beq_iff_eq] at h
  rcases h with (((((⟨rfl, rfl⟩ | ⟨rfl, rfl⟩) | ⟨rfl, rfl⟩) | ⟨rfl, rfl⟩) | ⟨rfl, rfl⟩) | ⟨rfl, rfl⟩) | ⟨rfl, rfl⟩ <;> exact ⟨by decide, by decide, by decide⟩
theorem nonempty {r : ByteArray} (h : 0 < r.size) : r.toList.isEmpty = false := by
  rw [Go.ByteArray.toList_eq]
  cases hl : r.data.toList with
  | nil => have e : r.data.toList.length = r.size := by simp
           rw [hl] at e; simp at e; omega
  | cons x l => rfl

set_option maxRecDepth 100000 in
set_option maxHeartbeats 1000000 in
theorem escape_one (s : ByteArray) (c u : Nat) (h1 : oneB c u = true) (hz : 0 < s.size) (hs : s.size ≤ 1099511627776) (h0 : s[0] = UInt8.ofNat c) (w : World) : Calls Try.prog 29 #[.string s] w (EscPost u 1 w) := by
  obtain ⟨hlk, hc, hu⟩ := look_two h1
  have he := nonempty hz
  have Hlk := Lib.hid (show look (⟨#[39, 34, 92, 98, 102, 110, 114, 116, 118]⟩ : ByteArray).data.toList (⟨#[39, 34, 92, 8, 12, 10, 13, 9, 11]⟩ : ByteArray).data.toList s[0] = some (UInt8.ofNat u) by rw [h0]; exact hlk)
  have Hu := Lib.hid (toNat_ofNat_lt hu)
  clear h0 hlk h1
  go_enter Try.func29, Try.ntmps29
  go_wp2_with fail
  refine (single_calls s[0] ⟨#[39, 34, 92, 98, 102, 110, 114, 116, 118]⟩ ⟨#[39, 34, 92, 8, 12, 10, 13, 9, 11]⟩ rfl (by decide) _).mono ?_
  rintro e w2 ⟨he1, rfl⟩
  rw [Hlk.out] at he1
  have he2 : e = .returned (.tuple #[.int .u16 (u : Int), .bool true]) := by rw [show lookPost (some (UInt8.ofNat u)) e = (e = .returned (.tuple #[.int .u16 ((UInt8.ofNat u).toNat : Int), .bool true])) from rfl, Hu.out] at he1; exact he1
  subst he2
  clear he1
  go_wp2
  go_ret3
  exact ⟨_, 1, rfl, Nat.le_refl _, by unfold maxLen; omega, by rw [show (w2.alloc (.cells #[.int .u16 (u : Int)] 38)).heap.size = w2.heap.size + 1 by simp]; exact Holds.one w2 (u16I u) 38, (Below.refl _ _).alloc (Nat.le_refl _) _⟩

set_option maxRecDepth 100000 in
set_option maxHeartbeats 2000000 in
theorem escape_four (s : ByteArray) (u d : Nat) (h5 : 5 ≤ s.size) (hs : s.size ≤ 1099511627776) (h0 : s[0] = 117) (h1 : (s[1].toNat : Int) = (d : Int)) (hd : d ≤ 70) (H4 : Hid (∀ w, Calls Try.prog 24 #[.string s] w fun e w' => e = .returned (.tuple #[.int .u16 (u : Int), .int .i64 5, .bool true]) ∧ w' = w)) (w : World) :
    Calls Try.prog 29 #[.string s] w (EscPost u 5 w) := by
  have he := nonempty (show 0 < s.size by omega)
  have Hlk := Lib.hid (show look (⟨#[39, 34, 92, 98, 102, 110, 114, 116, 118]⟩ : ByteArray).data.toList (⟨#[39, 34, 92, 8, 12, 10, 13, 9, 11]⟩ : ByteArray).data.toList s[0] = none by rw [h0]; decide)
  have t1 : ((s[0].toNat : Int) == 48) = false := by rw [h0]; rfl
  have t2 : (s[0].toNat : Int) ≤ 117 := by rw [h0]; decide
  have t3 : (117 : Int) ≤ (s[0].toNat : Int) := by rw [h0]; decide
  have t4 : ((s[0].toNat : Int) == 120) = false := by rw [h0]; rfl
  have t5 : ((s[0].toNat : Int) == 117) = true := by rw [h0]; rfl
  have t6 : (1 : Int) < (s.size : Int) := by omega
  have t7 : ((s[1].toNat : Int) == 123) = false := by rw [h1]; simp; omega
  clear h0 h1
  go_enter Try.func29, Try.ntmps29
  go_wp2_with fail
  refine (single_calls s[0] ⟨#[39, 34, 92, 98, 102, 110, 114, 116, 118]⟩ ⟨#[39, 34, 92, 8, 12, 10, 13, 9, 11]⟩ rfl (by decide) _).mono ?_
  rintro e w2 ⟨he1, rfl⟩
  rw [Hlk.out] at he1
  have he2 : e = .returned (.tuple #[.int .u16 0, .bool false]) := he1
  subst he2
  clear he1
  go_wp2_with fail
  refine (H4.out _).mono ?_
  rintro e w2 ⟨rfl, rfl⟩
  go_wp2
  go_ret3
  exact ⟨_, 1, rfl, Nat.le_refl _, by unfold maxLen; omega, by rw [show (w2.alloc (.cells #[.int .u16 (u : Int)] 38)).heap.size = w2.heap.size + 1 by simp]; exact Holds.one w2 (u16I u) 38, (Below.refl _ _).alloc (Nat.le_refl _) _⟩

end Go.Proofs.Ytolgpnkofnibjaa
