/- Plain laws: what the first and the last code point of a text are. No program is in sight here but the model's own decoder of a text. -/
import Derived.Test.YtmepooboopncmaaDoorDec
import Derived.Test.YtmepooboopncmaaDoorPv
import Derived.Lib.MapLaws
import Derived.Lib.QuoteLoop
import Derived.Lib.SpaceU
import Derived.Shelf.Unicode.DecodeLast
namespace Stamp
open Go

/-! ### the decoder: a code point, or the one that stands for what is wrong -/
theorem encRune_eq {p : Nat} (h : Scalar p) : Lib.encodeRune (p : Int) = enc p := by
  obtain ⟨h1, h2⟩ := h
  rw [isSur_not] at h2
  unfold Lib.encodeRune enc
  by_cases a : p < 128
  · rw [if_pos a, Lib.encodeRuneZ_one (by omega) (by omega)]; rfl
  · rw [if_neg a]
    by_cases b : p < 2048
    · rw [if_pos b, Lib.encodeRuneZ_two (by omega) (by omega)]
      have e1 : (192 + (p : Int) / 64).toNat = 192 + p / 64 := by omega
      have e2 : (128 + (p : Int) % 64).toNat = 128 + p % 64 := by omega
      simp only [List.map_cons, List.map_nil, e1, e2, Nat.toUInt8]
    · rw [if_neg b]
      by_cases c : p < 65536
      · rw [if_pos c, Lib.encodeRuneZ_three (by omega)]
        have e1 : (224 + (p : Int) / 4096).toNat = 224 + p / 4096 := by omega
        have e2 : (128 + (p : Int) / 64 % 64).toNat = 128 + p / 64 % 64 := by omega
        have e3 : (128 + (p : Int) % 64).toNat = 128 + p % 64 := by omega
        simp only [List.map_cons, List.map_nil, e1, e2, e3, Nat.toUInt8]
      · rw [if_neg c, Lib.encodeRuneZ_four (by omega) (by omega)]
        have e1 : (240 + (p : Int) / 262144).toNat = 240 + p / 262144 := by omega
        have e2 : (128 + (p : Int) / 4096 % 64).toNat = 128 + p / 4096 % 64 := by omega
        have e3 : (128 + (p : Int) / 64 % 64).toNat = 128 + p / 64 % 64 := by omega
        have e4 : (128 + (p : Int) % 64).toNat = 128 + p % 64 := by omega
        simp only [List.map_cons, List.map_nil, e1, e2, e3, e4, Nat.toUInt8]

theorem dec_cases (s : ByteArray) (h : s.data.toList ≠ []) :
    (∃ p t, Scalar p ∧ s.data.toList = enc p ++ t ∧ Utf8.decode s 0 = (p, (enc p).length)) ∨
    (Utf8.decode s 0 = (65533, 1) ∧ ∀ p n, point s.data.toList = some (p, n) → isSur p = true) := by
  cases hp : point s.data.toList with
  | some x =>
    obtain ⟨p, n⟩ := x
    obtain ⟨h1, rfl, h3⟩ := point_some _ _ _ hp
    cases hs : isSur p with
    | false => exact .inl ⟨p, _, ⟨h1, hs⟩, h3, decode_enc s 0 p _ ⟨h1, hs⟩ h3⟩
    | true =>
      refine .inr ⟨decode_sur s 0 p _ hs h3, fun q m hq => ?_⟩
      injection hq with hq
      injection hq with hq _
      rw [← hq]; exact hs
  | none =>
    refine .inr ⟨?_, fun p n h => by cases h⟩
    by_cases hd : (Utf8.decode s 0).1 = 65533 ∧ (Utf8.decode s 0).2 = 1
    · exact Prod.ext hd.1 hd.2
    · exfalso
      have hs : (⟨s.data.toList.toArray⟩ : ByteArray) = s := by cases s; simp
      have hv := Lib.rune_valid s
      have hsc : Scalar (Utf8.decode s 0).1 := by
        simp [Lib.validRune] at hv
        refine ⟨decode_le_max s 0, ?_⟩
        rw [isSur_not]
        omega
      have he := Lib.encode_decode s.data.toList h (by unfold Lib.decodeL; rw [hs]; exact hd)
      unfold Lib.decodeL at he
      rw [hs, encRune_eq hsc] at he
      have hl : s.data.toList = enc (Utf8.decode s 0).1 ++ s.data.toList.drop (Utf8.decode s 0).2 := by rw [he, List.take_append_drop]
      rw [hl, point_enc _ hsc.1] at hp
      cases hp


theorem enc_low {p : Nat} (h : p < 128) : enc p = [UInt8.ofNat p] := by rw [enc, if_pos h]; try rfl
theorem enc_high {p : Nat} (hp : p ≤ 1114111) (h : 128 ≤ p) : ∀ b ∈ enc p, 128 ≤ b.toNat := by
  intro b hb
  unfold enc at hb
  rw [if_neg (by omega)] at hb
  by_cases h1 : p < 2048
  · rw [if_pos h1] at hb
    simp only [List.mem_cons, List.not_mem_nil, or_false] at hb
    rcases hb with rfl | rfl
    · rw [toNat_ofNat_lt (by omega)]; omega
    · rw [toNat_ofNat_lt (by omega)]; omega
  · rw [if_neg h1] at hb
    by_cases h2 : p < 65536
    · rw [if_pos h2] at hb
      simp only [List.mem_cons, List.not_mem_nil, or_false] at hb
      rcases hb with rfl | rfl | rfl
      · rw [toNat_ofNat_lt (by omega)]; omega
      · rw [toNat_ofNat_lt (by omega)]; omega
      · rw [toNat_ofNat_lt (by omega)]; omega
    · rw [if_neg h2] at hb
      simp only [List.mem_cons, List.not_mem_nil, or_false] at hb
      rcases hb with rfl | rfl | rfl | rfl
      · rw [toNat_ofNat_lt (by omega)]; omega
      · rw [toNat_ofNat_lt (by omega)]; omega
      · rw [toNat_ofNat_lt (by omega)]; omega
      · rw [toNat_ofNat_lt (by omega)]; omega
theorem valid_scalar {p : Nat} (h : Scalar p) : Utf8.valid (p : Int) = true := by
  obtain ⟨h1, h2⟩ := h
  rw [isSur_not] at h2
  simp [Utf8.valid]
  omega
/-- the last code point of a text: a byte of ASCII, or it takes bytes from 128 on alone -/
theorem last_cases (m : List UInt8) (hne : m ≠ []) :
    (∃ c, m.getLast? = some c ∧ c.toNat < 128 ∧ Lib.decodeLastL m = (c.toNat, 1)) ∨
    (∃ r n, Lib.decodeLastL m = (r, n) ∧ 1 ≤ n ∧ n ≤ m.length ∧ 128 ≤ r ∧ r ≤ 1114111 ∧ Utf8.valid (r : Int) = true ∧ ∀ b ∈ m.drop (m.length - n), 128 ≤ b.toNat) := by
  have hl : 0 < m.length := List.length_pos_iff.2 hne
  have hlast : m.getLast? = some (m.getD (m.length - 1) 0) := by
    rw [List.getLast?_eq_getElem?, List.getD_eq_getElem?_getD, List.getElem?_eq_getElem (by omega)]; rfl
  by_cases hc : (m.getD (m.length - 1) 0).toNat < 128
  · refine .inl ⟨_, hlast, hc, ?_⟩
    rw [Lib.decodeLastL, if_neg hne, if_pos hc]
  · right
    have hdl : ∀ k, 1 ≤ k → k ≤ m.length → (m.drop (m.length - k)).getLast? = some (m.getD (m.length - 1) 0) := by
      intro k h1 h2
      rw [List.getLast?_drop, if_neg (by omega), hlast]
    have hone : ∀ b ∈ m.drop (m.length - 1), 128 ≤ b.toNat := by
      intro b hb
      have h1 := hdl 1 (Nat.le_refl _) hl
      have h2 : (m.drop (m.length - 1)).length = 1 := by rw [List.length_drop]; omega
      match hm : m.drop (m.length - 1), h2, h1, hb with
      | [x], _, h1, hb =>
        simp at h1 hb
        subst hb
        rw [← List.getD_eq_getElem?_getD] at h1
        rw [h1]
        omega
    have hst : Lib.lastStart m < m.length := by
      have := Lib.lastStart_lt m hne
      exact this
    rw [Lib.decodeLastL, if_neg hne, if_neg hc]
    simp only []
    split
    · next heq =>
      have hd0 : Lib.decodeL (m.drop (Lib.lastStart m)) = Utf8.decode ⟨(m.drop (Lib.lastStart m)).toArray⟩ 0 := rfl
      have hne2 : m.drop (Lib.lastStart m) ≠ [] := by
        intro e
        have := congrArg List.length e
        rw [List.length_drop] at this
        simp at this
        omega
      rcases dec_cases ⟨(m.drop (Lib.lastStart m)).toArray⟩ (by simpa using hne2) with ⟨p, t, hp, hx, hdc⟩ | ⟨hdc, _⟩
      · rw [hd0, hdc] at heq ⊢
        have hx2 : m.drop (Lib.lastStart m) = enc p ++ t := by simpa using hx
        have hlen := congrArg List.length hx2
        rw [List.length_drop, List.length_append] at hlen
        simp at heq
        have ht : t = [] := List.eq_nil_of_length_eq_zero (by omega)
        rw [ht, List.append_nil] at hx2
        have hpe := enc_len p
        have e2 : m.length - (enc p).length = Lib.lastStart m := by omega
        have hp128 : 128 ≤ p := by
          rcases Nat.lt_or_ge p 128 with h | h
          · exfalso
            have h1 : (enc p).length = 1 := by rw [enc_low h]; rfl
            have h2 := hone (UInt8.ofNat p) (by rw [show m.length - 1 = Lib.lastStart m by omega, hx2, enc_low h]; exact .head _)
            rw [toNat_ofNat_lt (by omega)] at h2
            omega
          · exact h
        refine ⟨p, (enc p).length, rfl, hpe.1, by omega, hp128, hp.1, valid_scalar hp, ?_⟩
        rw [e2, hx2]
        exact enc_high hp.1 hp128
      · rw [hd0, hdc]
        exact ⟨65533, 1, rfl, Nat.le_refl _, hl, by decide, by decide, by decide, hone⟩
    · exact ⟨65533, 1, rfl, Nat.le_refl _, hl, by decide, by decide, by decide, hone⟩
end Stamp
