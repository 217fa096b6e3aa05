/- Plain laws: how far a text has been escaped with %. No program is in sight here. -/
import Derived.Test.YtjinfkhnijokmaaDoorPcP
namespace Stamp
open Go

/-- what has been written, what is kept back, and what is still to be escaped are the whole -/
def Esc (pre l bs : List UInt8) (rs i : Nat) : Prop := pre ++ escL l = bs ++ ((l.drop rs).take (i - rs) ++ escL (l.drop i)) ∧ rs ≤ i ∧ i ≤ l.length
theorem Esc.start (pre l : List UInt8) : Esc pre l pre 0 0 := ⟨by simp, Nat.le_refl _, Nat.zero_le _⟩
theorem Esc.len {pre l bs : List UInt8} {rs i : Nat} (h : Esc pre l bs rs i) : bs.length + (i - rs) ≤ pre.length + 3 * l.length := by
  have h1 := congrArg List.length h.1
  have h2 := escL_len l
  have h3 := h.2
  simp at h1
  omega
theorem Esc.keep {pre l bs x t : List UInt8} {rs i : Nat} (h : Esc pre l bs rs i) (hx : l.drop i = x ++ t) (he : escL (x ++ t) = x ++ escL t) : Esc pre l bs rs (i + x.length) := by
  obtain ⟨h1, h2, h3⟩ := h
  have hl := congrArg List.length hx
  simp at hl
  have ht : l.drop (i + x.length) = t := by rw [← List.drop_drop, hx, List.drop_left]
  refine ⟨?_, by omega, by omega⟩
  have e : (l.drop rs).take (i + x.length - rs) = (l.drop rs).take (i - rs) ++ x := by
    rw [show i + x.length - rs = (i - rs) + x.length by omega, List.take_add, List.drop_drop, show rs + (i - rs) = i by omega, hx, List.take_left]
  rw [h1, hx, he, ht, e]
  simp
theorem Esc.write {pre l bs : List UInt8} {rs i : Nat} (h : Esc pre l bs rs i) {b : UInt8} {t : List UInt8} (hx : l.drop i = b :: t) (he : escC b t = true) :
    Esc pre l (bs ++ (l.drop rs).take (i - rs) ++ [37] ++ [hd (b.toNat / 16)] ++ [hd (b.toNat % 16)]) (i + 1) (i + 1) := by
  obtain ⟨h1, h2, h3⟩ := h
  have hl := congrArg List.length hx
  simp at hl
  have ht : l.drop (i + 1) = t := by rw [← List.drop_drop, hx]; rfl
  refine ⟨?_, by omega, by omega⟩
  rw [h1, hx, escL_yes he, ht]
  simp
theorem Esc.done {pre l bs : List UInt8} {rs : Nat} (h : Esc pre l bs rs l.length) : bs ++ (l.drop rs).take (l.length - rs) = pre ++ escL l := by
  rw [h.1]
  simp [escL]
theorem Esc.nothing {pre l bs : List UInt8} {rs i : Nat} (h : Esc pre l bs rs i) (hr : ¬ rs < i) : (l.drop rs).take (i - rs) = [] := by
  rw [show i - rs = 0 by have := h.2; omega]; rfl
theorem enc_low {p : Nat} (h : p < 128) : enc p = [UInt8.ofNat p] := by rw [enc, if_pos h]; try rfl
theorem escL_one {b : UInt8} {t : List UInt8} (h : escC b t = false) : escL ([b] ++ t) = [b] ++ escL t := escL_no h
theorem escL_enc {p : Nat} (hp : p ≤ 1114111) (h : 128 ≤ p) (t : List UInt8) : escL (enc p ++ t) = enc p ++ escL t := escL_high _ _ (enc_high hp h)
/-- no code point but ASCII stands where all is blank to the end -/
theorem tail_low {l : List UInt8} {ts k : Nat} (h : Tail l ts) (hk : ts ≤ k) {p : Nat} {t : List UInt8} (hx : l.drop k = enc p ++ t) (hp : p ≤ 1114111) : p < 128 := by
  rcases Nat.lt_or_ge p 128 with h1 | h1
  · exact h1
  exfalso
  obtain ⟨b, r, hb⟩ : ∃ b r, enc p = b :: r := by
    cases he : enc p with
    | nil => exact absurd he (enc_ne p)
    | cons b r => exact ⟨b, r, rfl⟩
  have h2 := enc_high hp h1 b (by rw [hb]; exact .head _)
  have h3 := tail_at h (k := k) (b := b) (t := r ++ t) (by rw [hx, hb]; rfl)
  rw [decide_eq_true hk] at h3
  simp [sm] at h3
  omega
theorem tail_from (l : List UInt8) : ∀ n, n ≤ l.length → (l.drop n).all sm = true → ∃ ts, ts ≤ n ∧ Tail l ts
  | 0, h, ha => ⟨0, Nat.le_refl _, h, ha, .inl rfl⟩
  | n + 1, h, ha => by
    have hn : n < l.length := by omega
    cases hc : sm l[n] with
    | true =>
      obtain ⟨ts, h1, h2⟩ := tail_from l n (by omega) (by rw [List.drop_eq_getElem_cons hn, List.all_cons, hc, ha]; rfl)
      exact ⟨ts, by omega, h2⟩
    | false => exact ⟨n + 1, Nat.le_refl _, h, ha, .inr ⟨l[n], by simp, hc⟩⟩
theorem tail_ex (l : List UInt8) : ∃ ts, Tail l ts := by
  obtain ⟨ts, _, h⟩ := tail_from l l.length (Nat.le_refl _) (by simp)
  exact ⟨ts, h⟩
theorem low_toNat {p : Nat} (h : p < 128) : (UInt8.ofNat p).toNat = p := toNat_ofNat_lt (by omega)
theorem low_cons {l : List UInt8} {k p : Nat} {t : List UInt8} (h : p < 128) (hx : l.drop k = enc p ++ t) : l.drop k = UInt8.ofNat p :: t := by rw [hx, enc_low h]; rfl
theorem escC_keep {p : Nat} {t : List UInt8} (h : p < 128) (hc : escC (UInt8.ofNat p) t = false) : escL (enc p ++ t) = enc p ++ escL t := by
  rw [enc_low h]; exact escL_one hc
theorem escC_is9 {p : Nat} (t : List UInt8) (h : p = 9) : escC (UInt8.ofNat p) t = true := by subst h; simp [escC]
theorem escC_is10 {p : Nat} (t : List UInt8) (h : p = 10) : escC (UInt8.ofNat p) t = true := by subst h; simp [escC]
theorem escC_is13 {p : Nat} (t : List UInt8) (h : p = 13) : escC (UInt8.ofNat p) t = true := by subst h; simp [escC]
theorem escC_is35 {p : Nat} (t : List UInt8) (h : p = 35) : escC (UInt8.ofNat p) t = true := by subst h; simp [escC]
theorem escC_ts {p k ts : Nat} {l t : List UInt8} (h : p < 128) (hT : Tail l ts) (hx : l.drop k = enc p ++ t) (hk : ts ≤ k) : escC (UInt8.ofNat p) t = true := by
  have h1 := tail_at hT (low_cons h hx)
  rw [decide_eq_true hk] at h1
  unfold escC
  rw [h1]
  simp
theorem escC_hex {p : Nat} {a b : UInt8} {t : List UInt8} (h : p = 37) (ht : ∃ r, t = a :: b :: r) (ha : isHx a = true) (hb : isHx b = true) : escC (UInt8.ofNat p) t = true := by
  obtain ⟨r, rfl⟩ := ht
  subst h
  simp [escC, hx2, ha, hb]
theorem escC_no {p k ts : Nat} {l t : List UInt8} (h : p < 128) (c9 : ¬ p = 9) (c10 : ¬ p = 10) (c13 : ¬ p = 13) (c35 : ¬ p = 35) (hT : Tail l ts) (hx : l.drop k = enc p ++ t) (hk : ¬ ts ≤ k) (h37 : ¬ p = 37 ∨ hx2 t = false) : escC (UInt8.ofNat p) t = false := by
  have h1 := tail_at hT (low_cons h hx)
  rw [decide_eq_false hk] at h1
  unfold escC
  rw [h1, low_toNat h, decide_eq_false c9, decide_eq_false c10, decide_eq_false c13, decide_eq_false c35]
  rcases h37 with h37 | h37
  · rw [decide_eq_false h37]; rfl
  · rw [h37]; simp
theorem hx2_two {a b : UInt8} {t : List UInt8} (ht : ∃ r, t = a :: b :: r) (h : (isHx a && isHx b) = false) : hx2 t = false := by
  obtain ⟨r, rfl⟩ := ht
  exact h
theorem hx2_near {l t : List UInt8} {k p : Nat} (h : p < 128) (hx : l.drop k = enc p ++ t) (hk : ¬ k + 2 < l.length) : hx2 t = false := by
  have e := congrArg List.length hx
  rw [enc_low h] at e
  simp at e
  match t, e with
  | [], _ => rfl
  | [_], _ => rfl
  | _ :: _ :: _, e => simp at e; omega
/-- what the second loop keeps -/
def pcPre (mime : List UInt8) : List UInt8 := [100, 97, 116, 97, 58] ++ mime ++ [44]
def pcUrl (mime l : List UInt8) : List UInt8 := pcPre mime ++ escL l
def Two (mime l : List UInt8) (bs : List UInt8) (r k : Nat) (done : List Nat) : Prop :=
  Esc (pcPre mime) l bs r k ∧ l = encAll done ++ l.drop k ∧ ∀ p ∈ done, Scalar p
theorem Two.bound {mime l bs : List UInt8} {r k : Nat} {done : List Nat} (h : Two mime l bs r k done) (h1 : mime.length ≤ 2147483647) (h2 : l.length ≤ 2147483647) : bs.length + (k - r) ≤ 8589934600 := by
  have := h.1.len
  simp [pcPre] at this
  omega
theorem Two.next {mime l bs : List UInt8} {r k : Nat} {done : List Nat} (h : Two mime l bs r k done) {p : Nat} (hp : Scalar p) {t : List UInt8} (hx : l.drop k = enc p ++ t) {bs' : List UInt8} {r' : Nat} (he : Esc (pcPre mime) l bs' r' (k + (enc p).length)) :
    Two mime l bs' r' (k + (enc p).length) (done ++ [p]) := by
  obtain ⟨h1, h2, h3⟩ := h
  refine ⟨he, ?_, fun q hq => ?_⟩
  · rw [encAll_append, ← List.drop_drop, hx, List.drop_left]
    conv => lhs; rw [h2, hx]
    simp [encAll]
  · rcases List.mem_append.1 hq with hq | hq
    · exact h3 q hq
    · rw [List.mem_singleton.1 hq]; exact hp
theorem Two.end_ {mime l bs : List UInt8} {r : Nat} {done : List Nat} (h : Two mime l bs r l.length done) : (points l).isSome = true ∧ bs ++ (l.drop r).take (l.length - r) = pcUrl mime l := by
  obtain ⟨h1, h2, h3⟩ := h
  refine ⟨?_, h1.done⟩
  rw [List.drop_length] at h2
  rw [points_done h2 h3]; rfl
theorem Two.bad {mime l bs : List UInt8} {r k : Nat} {done : List Nat} (h : Two mime l bs r k done) (hk : l.drop k ≠ []) (hb : ∀ p n, point (l.drop k) = some (p, n) → isSur p = true) : (points l).isSome = false := by
  rw [points_fail h.2.1 h.2.2 hk hb]; rfl
theorem keep_two {mime l bs : List UInt8} {r k p K : Nat} {done : List Nat} {t : List UInt8} (h : Two mime l bs r k done) (hp : Scalar p) (hx : l.drop k = enc p ++ t) (hK : K = (enc p).length) (he : escL (enc p ++ t) = enc p ++ escL t) :
    Two mime l bs r (k + K) (done ++ [p]) := by
  subst hK
  exact h.next hp hx (h.1.keep hx he)
theorem esc_two {mime l bs : List UInt8} {r k p K d0 d1 : Nat} {done : List Nat} {t : List UInt8} (h : Two mime l bs r k done) (hp : Scalar p) (hx : l.drop k = enc p ++ t) (hK : K = (enc p).length) (h128 : p < 128) (he : escC (UInt8.ofNat p) t = true) (hd' : d0 = p / 16 ∧ d1 = p % 16) :
    Two mime l (bs ++ (l.drop r).take (k - r) ++ [37] ++ [hd d0] ++ [hd d1]) (k + K) (k + K) (done ++ [p]) := by
  have h1 := h.1.write (low_cons h128 hx) he
  rw [low_toNat h128, ← hd'.1, ← hd'.2] at h1
  have hK1 : (enc p).length = 1 := by rw [enc_low h128]; rfl
  subst hK
  refine h.next hp hx ?_
  rw [hK1]
  exact h1
theorem esc_two0 {mime l bs : List UInt8} {r k p K d0 d1 : Nat} {done : List Nat} {t : List UInt8} (h : Two mime l bs r k done) (hp : Scalar p) (hx : l.drop k = enc p ++ t) (hK : K = (enc p).length) (h128 : p < 128) (he : escC (UInt8.ofNat p) t = true) (hd' : d0 = p / 16 ∧ d1 = p % 16) (hr : ¬ r < k) :
    Two mime l (bs ++ [37] ++ [hd d0] ++ [hd d1]) (k + K) (k + K) (done ++ [p]) := by
  have h1 := esc_two h hp hx hK h128 he hd'
  rw [h.1.nothing hr, List.append_nil] at h1
  exact h1
end Stamp
