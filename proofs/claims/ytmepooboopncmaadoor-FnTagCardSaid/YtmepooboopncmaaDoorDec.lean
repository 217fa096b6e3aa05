/- Plain laws: the model's own decoder of a text (a range over a string) at texts in UTF-8 and in WTF-8. -/
import Derived.Test.YtmepooboopncmaaDoorUtf
namespace Stamp
open Go

theorem get_of (s : ByteArray) (pos k : Nat) (b : UInt8) (h : (s.data.toList.drop pos)[k]? = some b) : pos + k < s.size ∧ s.get! (pos + k) = b := by
  rw [List.getElem?_drop] at h
  obtain ⟨hl, he⟩ := List.getElem?_eq_some_iff.1 h
  have hl' : pos + k < s.data.size := by simpa using hl
  refine ⟨hl', ?_⟩
  rw [Array.getElem_toList] at he
  rw [ByteArray.get!, getElem!_pos s.data (pos + k) hl', he]

theorem get_none (s : ByteArray) (pos k : Nat) (h : (s.data.toList.drop pos)[k]? = none) : ¬ pos + k < s.size := by
  rw [List.getElem?_drop] at h
  have := List.getElem?_eq_none_iff.1 h
  have e : s.data.toList.length = s.size := by simp
  omega

theorem decode_enc (s : ByteArray) (pos p : Nat) (t : List UInt8) (hp : Scalar p) (h : s.data.toList.drop pos = enc p ++ t) : Utf8.decode s pos = (p, (enc p).length) := by
  obtain ⟨hp, hs⟩ := hp
  rw [isSur_not] at hs
  by_cases h1 : p < 128
  · have e : enc p = [UInt8.ofNat p] := by unfold enc; rw [if_pos h1]
    rw [e] at h ⊢
    obtain ⟨_, g0⟩ := get_of s pos 0 (UInt8.ofNat p) (by rw [h]; rfl)
    have e0 := toNat_ofNat_lt (n := p) (by omega)
    unfold Utf8.decode
    simp only [g0, e0, h1, if_true]; rfl
  · by_cases h2 : p < 2048
    · have e : enc p = [UInt8.ofNat (192 + p / 64), UInt8.ofNat (128 + p % 64)] := by unfold enc; rw [if_neg h1, if_pos h2]
      rw [e] at h ⊢
      obtain ⟨_, g0⟩ := get_of s pos 0 _ (by rw [h]; rfl)
      obtain ⟨l1, g1⟩ := get_of s pos 1 _ (by rw [h]; rfl)
      have e0 := toNat_ofNat_lt (n := 192 + p / 64) (by omega)
      have e1 := toNat_ofNat_lt (n := 128 + p % 64) (by omega)
      have c1 : (decide (pos + 1 < s.size) && ((128 + p % 64) / 64 == 2)) = true := by
        rw [decide_eq_true l1, show (128 + p % 64) / 64 = 2 from by omega]; rfl
      unfold Utf8.decode
      simp only [g0, g1, e0, e1, c1]
      rw [if_neg (by omega), if_pos (by rw [show (192 + p / 64) / 32 = 6 from by omega]; rfl), if_pos (by omega), show (192 + p / 64) % 32 * 64 + (128 + p % 64) % 64 = p from by omega]
      rfl
    · by_cases h3 : p < 65536
      · have e : enc p = [UInt8.ofNat (224 + p / 4096), UInt8.ofNat (128 + p / 64 % 64), UInt8.ofNat (128 + p % 64)] := by unfold enc; rw [if_neg h1, if_neg h2, if_pos h3]
        rw [e] at h ⊢
        obtain ⟨_, g0⟩ := get_of s pos 0 _ (by rw [h]; rfl)
        obtain ⟨l1, g1⟩ := get_of s pos 1 _ (by rw [h]; rfl)
        obtain ⟨l2, g2⟩ := get_of s pos 2 _ (by rw [h]; rfl)
        have e0 := toNat_ofNat_lt (n := 224 + p / 4096) (by omega)
        have e1 := toNat_ofNat_lt (n := 128 + p / 64 % 64) (by omega)
        have e2 := toNat_ofNat_lt (n := 128 + p % 64) (by omega)
        have c1 : (decide (pos + 1 < s.size) && ((128 + p / 64 % 64) / 64 == 2)) = true := by
          rw [decide_eq_true l1, show (128 + p / 64 % 64) / 64 = 2 from by omega]; rfl
        have c2 : (decide (pos + 2 < s.size) && ((128 + p % 64) / 64 == 2)) = true := by
          rw [decide_eq_true l2, show (128 + p % 64) / 64 = 2 from by omega]; rfl
        have hv : (224 + p / 4096) % 16 * 4096 + (128 + p / 64 % 64) % 64 * 64 + (128 + p % 64) % 64 = p := by omega
        have hva : Utf8.valid (p : Int) = true := by
          unfold Utf8.valid
          simp
          omega
        unfold Utf8.decode
        simp only [g0, g1, g2, e0, e1, e2, c1, c2]
        rw [if_neg (by omega), if_neg (by rw [show (224 + p / 4096) / 32 = 7 from by omega]; decide), if_pos (by rw [show (224 + p / 4096) / 16 = 14 from by omega]; rfl), hv,
          if_pos (by rw [hva, decide_eq_true (show p ≥ 2048 from by omega)]; rfl)]
        rfl
      · have e : enc p = [UInt8.ofNat (240 + p / 262144), UInt8.ofNat (128 + p / 4096 % 64), UInt8.ofNat (128 + p / 64 % 64), UInt8.ofNat (128 + p % 64)] := by unfold enc; rw [if_neg h1, if_neg h2, if_neg h3]
        rw [e] at h ⊢
        obtain ⟨_, g0⟩ := get_of s pos 0 _ (by rw [h]; rfl)
        obtain ⟨l1, g1⟩ := get_of s pos 1 _ (by rw [h]; rfl)
        obtain ⟨l2, g2⟩ := get_of s pos 2 _ (by rw [h]; rfl)
        obtain ⟨l3, g3⟩ := get_of s pos 3 _ (by rw [h]; rfl)
        have e0 := toNat_ofNat_lt (n := 240 + p / 262144) (by omega)
        have e1 := toNat_ofNat_lt (n := 128 + p / 4096 % 64) (by omega)
        have e2 := toNat_ofNat_lt (n := 128 + p / 64 % 64) (by omega)
        have e3 := toNat_ofNat_lt (n := 128 + p % 64) (by omega)
        have c1 : (decide (pos + 1 < s.size) && ((128 + p / 4096 % 64) / 64 == 2)) = true := by
          rw [decide_eq_true l1, show (128 + p / 4096 % 64) / 64 = 2 from by omega]; rfl
        have c2 : (decide (pos + 2 < s.size) && ((128 + p / 64 % 64) / 64 == 2)) = true := by
          rw [decide_eq_true l2, show (128 + p / 64 % 64) / 64 = 2 from by omega]; rfl
        have c3 : (decide (pos + 3 < s.size) && ((128 + p % 64) / 64 == 2)) = true := by
          rw [decide_eq_true l3, show (128 + p % 64) / 64 = 2 from by omega]; rfl
        have hv : (240 + p / 262144) % 8 * 262144 + (128 + p / 4096 % 64) % 64 * 4096 + (128 + p / 64 % 64) % 64 * 64 + (128 + p % 64) % 64 = p := by omega
        have hva : Utf8.valid (p : Int) = true := by
          unfold Utf8.valid
          simp
          omega
        unfold Utf8.decode
        simp only [g0, g1, g2, g3, e0, e1, e2, e3, c1, c2, c3]
        rw [if_neg (by omega), if_neg (by rw [show (240 + p / 262144) / 32 = 7 from by omega]; decide), if_neg (by rw [show (240 + p / 262144) / 16 = 15 from by omega]; decide),
          if_pos (by rw [show (240 + p / 262144) / 8 = 30 from by omega]; rfl), hv, if_pos (by rw [hva, decide_eq_true (show p ≥ 65536 from by omega)]; rfl)]
        rfl

/-- a byte that only goes on -/
theorem decode_cont (s : ByteArray) (pos : Nat) (b : UInt8) (t : List UInt8) (hb : 128 ≤ b.toNat ∧ b.toNat ≤ 191) (h : s.data.toList.drop pos = b :: t) : Utf8.decode s pos = (65533, 1) := by
  obtain ⟨_, g0⟩ := get_of s pos 0 b (by rw [h]; rfl)
  unfold Utf8.decode
  simp only [g0]
  have a1 : (b.toNat / 32 == 6) = false := by rw [beq_eq_false_iff_ne]; omega
  have a2 : (b.toNat / 16 == 14) = false := by rw [beq_eq_false_iff_ne]; omega
  have a3 : (b.toNat / 8 == 30) = false := by rw [beq_eq_false_iff_ne]; omega
  simp only [a1, a2, a3, Bool.false_and]
  rw [if_neg (by omega)]
  rfl

/-- the three bytes of a surrogate -/
theorem decode_sur (s : ByteArray) (pos p : Nat) (t : List UInt8) (hp : isSur p = true) (h : s.data.toList.drop pos = enc p ++ t) : Utf8.decode s pos = (65533, 1) := by
  rw [isSur_iff] at hp
  have e : enc p = [UInt8.ofNat (224 + p / 4096), UInt8.ofNat (128 + p / 64 % 64), UInt8.ofNat (128 + p % 64)] := by unfold enc; rw [if_neg (by omega), if_neg (by omega), if_pos (by omega)]
  rw [e] at h
  obtain ⟨_, g0⟩ := get_of s pos 0 _ (by rw [h]; rfl)
  obtain ⟨l1, g1⟩ := get_of s pos 1 _ (by rw [h]; rfl)
  obtain ⟨l2, g2⟩ := get_of s pos 2 _ (by rw [h]; rfl)
  have e0 := toNat_ofNat_lt (n := 224 + p / 4096) (by omega)
  have e1 := toNat_ofNat_lt (n := 128 + p / 64 % 64) (by omega)
  have e2 := toNat_ofNat_lt (n := 128 + p % 64) (by omega)
  have c1 : (decide (pos + 1 < s.size) && ((128 + p / 64 % 64) / 64 == 2)) = true := by
    rw [decide_eq_true l1, show (128 + p / 64 % 64) / 64 = 2 from by omega]; rfl
  have c2 : (decide (pos + 2 < s.size) && ((128 + p % 64) / 64 == 2)) = true := by
    rw [decide_eq_true l2, show (128 + p % 64) / 64 = 2 from by omega]; rfl
  have hv : (224 + p / 4096) % 16 * 4096 + (128 + p / 64 % 64) % 64 * 64 + (128 + p % 64) % 64 = p := by omega
  have hva : Utf8.valid (p : Int) = false := by
    unfold Utf8.valid
    simp
    omega
  unfold Utf8.decode
  simp only [g0, g1, g2, e0, e1, e2, c1, c2]
  rw [if_neg (by omega), if_neg (by rw [show (224 + p / 4096) / 32 = 7 from by omega]; decide), if_pos (by rw [show (224 + p / 4096) / 16 = 14 from by omega]; rfl), hv,
    if_neg (by rw [hva, Bool.and_false]; decide)]
  rfl

theorem decode_le_max (s : ByteArray) (pos : Nat) : (Utf8.decode s pos).1 ≤ 1114111 := by
  unfold Utf8.decode
  dsimp only
  have key : ∀ c : Nat, Utf8.valid (c : Int) = true → c ≤ 1114111 := by
    intro c hc
    unfold Utf8.valid at hc
    simp at hc
    omega
  have hr : Utf8.runeError ≤ 1114111 := by decide
  have b0 := (s.get! (pos + 0)).toNat_lt
  split
  · dsimp only; omega
  · split
    · split
      · dsimp only; omega
      · exact hr
    · split
      · split
        · rename_i h
          simp only [Bool.and_eq_true] at h
          exact key _ h.2
        · exact hr
      · split
        · split
          · rename_i h
            simp only [Bool.and_eq_true] at h
            exact key _ h.2
          · exact hr
        · exact hr

end Stamp
