/- Plain laws: a text escaped with %, and read again. No program is in sight here but the model's own decoder of a text. -/
import Derived.Test.YtjinfkhnijokmaaDoorDec
import Derived.Test.YtjinfkhnijokmaaDoorPv
import Derived.Lib.MapLaws
import Derived.Lib.QuoteLoop
namespace Stamp
open Go

/-! ### the decoder: a code point, or the one that stands for what is wrong -/
theorem encRune_eq {p : Nat} (h : Scalar p) : Lib.encodeRune (p : Int) = enc p := by
  obtain ⟨h1, h2⟩ := h
  rw [isSur_not] at h2
  unfold Lib.encodeRune enc
  by_cases a : p < 128
  · rw [if_pos a, Lib.encodeRuneZ_one (by omega) (by omega)]; rfl
  · rw [if_neg a]
    by_cases b : p < 2048
    · rw [if_pos b, Lib.encodeRuneZ_two (by omega) (by omega)]
      have e1 : (192 + (p : Int) / 64).toNat = 192 + p / 64 := by omega
      have e2 : (128 + (p : Int) % 64).toNat = 128 + p % 64 := by omega
      simp only [List.map_cons, List.map_nil, e1, e2, Nat.toUInt8]
    · rw [if_neg b]
      by_cases c : p < 65536
      · rw [if_pos c, Lib.encodeRuneZ_three (by omega)]
        have e1 : (224 + (p : Int) / 4096).toNat = 224 + p / 4096 := by omega
        have e2 : (128 + (p : Int) / 64 % 64).toNat = 128 + p / 64 % 64 := by omega
        have e3 : (128 + (p : Int) % 64).toNat = 128 + p % 64 := by omega
        simp only [List.map_cons, List.map_nil, e1, e2, e3, Nat.toUInt8]
      · rw [if_neg c, Lib.encodeRuneZ_four (by omega) (by omega)]
        have e1 : (240 + (p : Int) / 262144).toNat = 240 + p / 262144 := by omega
        have e2 : (128 + (p : Int) / 4096 % 64).toNat = 128 + p / 4096 % 64 := by omega
        have e3 : (128 + (p : Int) / 64 % 64).toNat = 128 + p / 64 % 64 := by omega
        have e4 : (128 + (p : Int) % 64).toNat = 128 + p % 64 := by omega
        simp only [List.map_cons, List.map_nil, e1, e2, e3, e4, Nat.toUInt8]

theorem dec_cases (s : ByteArray) (h : s.data.toList ≠ []) :
    (∃ p t, Scalar p ∧ s.data.toList = enc p ++ t ∧ Utf8.decode s 0 = (p, (enc p).length)) ∨
    (Utf8.decode s 0 = (65533, 1) ∧ ∀ p n, point s.data.toList = some (p, n) → isSur p = true) := by
  cases hp : point s.data.toList with
  | some x =>
    obtain ⟨p, n⟩ := x
    obtain ⟨h1, rfl, h3⟩ := point_some _ _ _ hp
    cases hs : isSur p with
    | false => exact .inl ⟨p, _, ⟨h1, hs⟩, h3, decode_enc s 0 p _ ⟨h1, hs⟩ h3⟩
    | true =>
      refine .inr ⟨decode_sur s 0 p _ hs h3, fun q m hq => ?_⟩
      injection hq with hq
      injection hq with hq _
      rw [← hq]; exact hs
  | none =>
    refine .inr ⟨?_, fun p n h => by cases h⟩
    by_cases hd : (Utf8.decode s 0).1 = 65533 ∧ (Utf8.decode s 0).2 = 1
    · exact Prod.ext hd.1 hd.2
    · exfalso
      have hs : (⟨s.data.toList.toArray⟩ : ByteArray) = s := by cases s; simp
      have hv := Lib.rune_valid s
      have hsc : Scalar (Utf8.decode s 0).1 := by
        simp [Lib.validRune] at hv
        refine ⟨decode_le_max s 0, ?_⟩
        rw [isSur_not]
        omega
      have he := Lib.encode_decode s.data.toList h (by unfold Lib.decodeL; rw [hs]; exact hd)
      unfold Lib.decodeL at he
      rw [hs, encRune_eq hsc] at he
      have hl : s.data.toList = enc (Utf8.decode s 0).1 ++ s.data.toList.drop (Utf8.decode s 0).2 := by rw [he, List.take_append_drop]
      rw [hl, point_enc _ hsc.1] at hp
      cases hp

/-! ### escaped with % -/
def isHx (c : UInt8) : Bool := (decide (48 ≤ c.toNat) && decide (c.toNat ≤ 57)) || (decide (97 ≤ c.toNat) && decide (c.toNat ≤ 102)) || (decide (65 ≤ c.toNat) && decide (c.toNat ≤ 70))
def hv (c : UInt8) : Option Nat := if 48 ≤ c.toNat ∧ c.toNat ≤ 57 then some (c.toNat - 48) else if 97 ≤ c.toNat ∧ c.toNat ≤ 102 then some (c.toNat - 97 + 10) else if 65 ≤ c.toNat ∧ c.toNat ≤ 70 then some (c.toNat - 65 + 10) else none
def hvN (c : UInt8) : Nat := (hv c).getD 0
theorem hv_some {c : UInt8} (h : isHx c = true) : hv c = some (hvN c) ∧ hvN c ≤ 15 := by
  simp [isHx] at h
  unfold hvN hv
  split
  · exact ⟨rfl, by simp; omega⟩
  · split
    · exact ⟨rfl, by simp; omega⟩
    · split
      · exact ⟨rfl, by simp; omega⟩
      · omega
theorem hv_none {c : UInt8} (h : isHx c = false) : hv c = none := by
  simp [isHx] at h
  unfold hv
  rw [if_neg (by omega), if_neg (by omega), if_neg (by omega)]
/-- a blank or a control that is no tab and no end of a line -/
def sm (c : UInt8) : Bool := decide (c.toNat ≤ 32) && !decide (c.toNat = 9) && !decide (c.toNat = 10) && !decide (c.toNat = 13)
def hx2 : List UInt8 → Bool
  | x :: y :: _ => isHx x && isHx y
  | _ => false
def escC (b : UInt8) (t : List UInt8) : Bool := decide (b.toNat = 9) || decide (b.toNat = 10) || decide (b.toNat = 13) || decide (b.toNat = 35) || (b :: t).all sm || (decide (b.toNat = 37) && hx2 t)
def hd (n : Nat) : UInt8 := UInt8.ofNat (if n < 10 then 48 + n else 55 + n)
def escL : List UInt8 → List UInt8
  | [] => []
  | b :: t => (if escC b t then [37, hd (b.toNat / 16), hd (b.toNat % 16)] else [b]) ++ escL t
theorem escL_yes {b : UInt8} {t : List UInt8} (h : escC b t = true) : escL (b :: t) = 37 :: hd (b.toNat / 16) :: hd (b.toNat % 16) :: escL t := by
  rw [escL, if_pos h]; rfl
theorem escL_no {b : UInt8} {t : List UInt8} (h : escC b t = false) : escL (b :: t) = b :: escL t := by
  rw [escL, if_neg (by rw [h]; decide)]; rfl
theorem escC_high {b : UInt8} {t : List UInt8} (h : 128 ≤ b.toNat) : escC b t = false := by
  have a : sm b = false := by simp [sm]; omega
  simp [escC, a]
  omega
theorem escL_high : ∀ (l t : List UInt8), (∀ b ∈ l, 128 ≤ b.toNat) → escL (l ++ t) = l ++ escL t
  | [], t, _ => rfl
  | b :: l, t, h => by
    rw [List.cons_append, escL_no (escC_high (h b (.head _))), escL_high l t (fun x hx => h x (.tail _ hx))]; rfl
theorem enc_high {p : Nat} (hp : p ≤ 1114111) (h : 128 ≤ p) : ∀ b ∈ enc p, 128 ≤ b.toNat := by
  intro b hb
  unfold enc at hb
  rw [if_neg (by omega)] at hb
  by_cases h1 : p < 2048
  · rw [if_pos h1] at hb
    simp only [List.mem_cons, List.not_mem_nil, or_false] at hb
    rcases hb with rfl | rfl
    · rw [toNat_ofNat_lt (by omega)]; omega
    · rw [toNat_ofNat_lt (by omega)]; omega
  · rw [if_neg h1] at hb
    by_cases h2 : p < 65536
    · rw [if_pos h2] at hb
      simp only [List.mem_cons, List.not_mem_nil, or_false] at hb
      rcases hb with rfl | rfl | rfl
      · rw [toNat_ofNat_lt (by omega)]; omega
      · rw [toNat_ofNat_lt (by omega)]; omega
      · rw [toNat_ofNat_lt (by omega)]; omega
    · rw [if_neg h2] at hb
      simp only [List.mem_cons, List.not_mem_nil, or_false] at hb
      rcases hb with rfl | rfl | rfl | rfl
      · rw [toNat_ofNat_lt (by omega)]; omega
      · rw [toNat_ofNat_lt (by omega)]; omega
      · rw [toNat_ofNat_lt (by omega)]; omega
      · rw [toNat_ofNat_lt (by omega)]; omega
theorem hd_facts : ∀ n : Fin 16, isHx (hd n.val) = true ∧ hvN (hd n.val) = n.val ∧ 48 ≤ (hd n.val).toNat ∧ (hd n.val).toNat ≠ 35 := by decide
theorem hd_at {n : Nat} (h : n < 16) : isHx (hd n) = true ∧ hvN (hd n) = n ∧ 48 ≤ (hd n).toNat ∧ (hd n).toNat ≠ 35 := hd_facts ⟨n, h⟩

/-! ### and read again -/
def dec : List UInt8 → List UInt8
  | [] => []
  | [a] => [a]
  | [a, b] => [a, b]
  | c :: a :: b :: t => if c.toNat = 37 ∧ isHx a = true ∧ isHx b = true then UInt8.ofNat (16 * hvN a + hvN b) :: dec t else c :: dec (a :: b :: t)
theorem dec_yes {c a b : UInt8} {t : List UInt8} (h : c.toNat = 37) (ha : isHx a = true) (hb : isHx b = true) : dec (c :: a :: b :: t) = UInt8.ofNat (16 * hvN a + hvN b) :: dec t := by
  rw [dec, if_pos ⟨h, ha, hb⟩]
theorem dec_no {c : UInt8} {t : List UInt8} (h : c.toNat ≠ 37 ∨ hx2 t = false) : dec (c :: t) = c :: dec t := by
  match t, h with
  | [], _ => rfl
  | [_], _ => rfl
  | a :: b :: t, h =>
    rw [dec, if_neg]
    rintro ⟨h1, h2, h3⟩
    rcases h with h | h
    · exact h h1
    · simp [hx2, h2, h3] at h
theorem hx2_esc {t : List UInt8} (h : hx2 t = false) : hx2 (escL t) = false := by
  have h37 : isHx 37 = false := by decide
  match t, h with
  | [], _ => rfl
  | [x], _ =>
    cases hx : escC x [] with
    | true => rw [escL_yes hx]; simp [hx2, h37]
    | false => rw [escL_no hx]; rfl
  | x :: y :: r, h =>
    cases hx : escC x (y :: r) with
    | true => rw [escL_yes hx]; simp [hx2, h37]
    | false =>
      rw [escL_no hx]
      cases hy : escC y r with
      | true => rw [escL_yes hy]; simp [hx2, h37]
      | false => rw [escL_no hy]; exact h
theorem dec_esc : ∀ l : List UInt8, dec (escL l) = l
  | [] => rfl
  | b :: t => by
    have ih := dec_esc t
    have hb := b.toNat_lt
    cases h : escC b t with
    | true =>
      obtain ⟨a1, a2, _⟩ := hd_at (n := b.toNat / 16) (by omega)
      obtain ⟨b1, b2, _⟩ := hd_at (n := b.toNat % 16) (by omega)
      rw [escL_yes h, dec_yes (by decide) a1 b1, a2, b2, ih, ofNat_eq (b := b) (by omega)]
    | false =>
      rw [escL_no h]
      have hc : b.toNat ≠ 37 ∨ hx2 (escL t) = false := by
        by_cases h37 : b.toNat = 37
        · right
          apply hx2_esc
          simp [escC, h37] at h
          exact h.2
        · exact .inl h37
      rw [dec_no hc, ih]

/-! ### nothing in it that reading a URL takes away -/
def cleanC (c : UInt8) : Bool := decide (c.toNat ≠ 9) && decide (c.toNat ≠ 10) && decide (c.toNat ≠ 13) && decide (c.toNat ≠ 35)
theorem esc_clean : ∀ l : List UInt8, ∀ c ∈ escL l, cleanC c = true
  | [], c, h => by cases h
  | b :: t, c, h => by
    have hb := b.toNat_lt
    cases hc : escC b t with
    | true =>
      obtain ⟨_, _, a1, a2⟩ := hd_at (n := b.toNat / 16) (by omega)
      obtain ⟨_, _, b1, b2⟩ := hd_at (n := b.toNat % 16) (by omega)
      rw [escL_yes hc] at h
      rcases List.mem_cons.1 h with rfl | h
      · decide
      · rcases List.mem_cons.1 h with rfl | h
        · simp [cleanC]; exact ⟨⟨⟨by omega, by omega⟩, by omega⟩, a2⟩
        · rcases List.mem_cons.1 h with rfl | h
          · simp [cleanC]; exact ⟨⟨⟨by omega, by omega⟩, by omega⟩, b2⟩
          · exact esc_clean t c h
    | false =>
      rw [escL_no hc] at h
      rcases List.mem_cons.1 h with rfl | h
      · simp [escC] at hc
        simp [cleanC]; omega
      · exact esc_clean t c h
theorem escL_ne {l : List UInt8} (h : l ≠ []) : escL l ≠ [] := by
  cases l with
  | nil => exact absurd rfl h
  | cons b t =>
    cases hc : escC b t with
    | true => rw [escL_yes hc]; simp
    | false => rw [escL_no hc]; simp
theorem esc_last : ∀ (l pre : List UInt8), l ≠ [] → ∃ c, (pre ++ escL l).getLast? = some c ∧ 32 < c.toNat
  | [], _, h => absurd rfl h
  | b :: t, pre, _ => by
    have hb := b.toNat_lt
    by_cases ht : t = []
    · subst ht
      cases hc : escC b [] with
      | true =>
        obtain ⟨_, _, b1, _⟩ := hd_at (n := b.toNat % 16) (by omega)
        rw [escL_yes hc]
        exact ⟨hd (b.toNat % 16), by simp [escL], by omega⟩
      | false =>
        rw [escL_no hc]
        refine ⟨b, by simp [escL], ?_⟩
        simp [escC, sm] at hc
        omega
    · cases hc : escC b t with
      | true =>
        rw [escL_yes hc]
        obtain ⟨c, h1, h2⟩ := esc_last t (pre ++ [37, hd (b.toNat / 16), hd (b.toNat % 16)]) ht
        exact ⟨c, by simpa using h1, h2⟩
      | false =>
        rw [escL_no hc]
        obtain ⟨c, h1, h2⟩ := esc_last t (pre ++ [b]) ht
        exact ⟨c, by simpa using h1, h2⟩

theorem escL_len : ∀ l : List UInt8, (escL l).length ≤ 3 * l.length
  | [] => by simp [escL]
  | b :: t => by
    have ih := escL_len t
    cases hc : escC b t with
    | true => rw [escL_yes hc]; simp; omega
    | false => rw [escL_no hc]; simp; omega
/-- where what must be escaped at the end begins -/
def Tail (l : List UInt8) (ts : Nat) : Prop := ts ≤ l.length ∧ (l.drop ts).all sm = true ∧ (ts = 0 ∨ ∃ c, l[ts - 1]? = some c ∧ sm c = false)
theorem tail_at {l : List UInt8} {ts k : Nat} {b : UInt8} {t : List UInt8} (h : Tail l ts) (hk : l.drop k = b :: t) : (b :: t).all sm = decide (ts ≤ k) := by
  obtain ⟨h1, h2, h3⟩ := h
  by_cases hc : ts ≤ k
  · rw [decide_eq_true hc, ← hk]
    rw [List.all_eq_true] at h2 ⊢
    intro x hx
    apply h2
    obtain ⟨d, rfl⟩ := Nat.le.dest hc
    rw [← List.drop_drop] at hx
    exact List.mem_of_mem_drop hx
  · rw [decide_eq_false hc, ← hk]
    rcases h3 with rfl | ⟨c, hc1, hc2⟩
    · omega
    · rw [Bool.eq_false_iff]
      intro ha
      rw [List.all_eq_true] at ha
      have : c ∈ l.drop k := by
        refine List.mem_of_getElem? (i := ts - 1 - k) ?_
        rw [List.getElem?_drop, ← hc1]
        congr 1
        omega
      rw [ha c this] at hc2
      cases hc2
end Stamp
