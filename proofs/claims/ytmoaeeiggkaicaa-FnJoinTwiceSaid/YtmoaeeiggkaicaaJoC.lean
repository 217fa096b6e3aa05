/- The contracts of 'EnsureNewlineAtEnd' and 'impl.joined'. -/
import Derived.Test.YtmoaeeiggkaicaaJoB
import Derived.Lib.SmallJoins
import Derived.Lib.ConvBytes
namespace Go.Proofs.Ytmoaeeiggkaicaa
open Go.RowKit Stamp
set_option linter.unusedVariables false

theorem JS.below {w w' : World} {B j : Nat} {acc : List UInt8} {ss : List (ByteArray × Nat)} {bb : List Itm} (h : JS w B j acc ss bb) (hb : Below w.heap.size w w') : JS w' B j acc ss bb := by
  obtain ⟨vs, vb, h1, h2, h3⟩ := h.st
  refine ⟨⟨vs, vb, h1.below hb h1.lt, own_below h2 hb, own_below h3 hb⟩, h.hB, fun x hx => ?_⟩
  obtain ⟨g, cs, fz, e1, e2, e3⟩ := h.dat x hx
  exact ⟨g, cs, fz, e1, (hb.block g (Array.getElem?_eq_some_iff.1 e2).1).trans e2, e3⟩
theorem JS.lt {w : World} {B j : Nat} {acc : List UInt8} {ss : List (ByteArray × Nat)} {bb : List Itm} (h : JS w B j acc ss bb) : j < w.heap.size := by
  obtain ⟨vs, vb, h1, _, _⟩ := h.st
  exact h1.lt

/-! ### the pieces cover what is joined, and agree with it -/
def PartOf (acc l : List UInt8) (off : Nat) : Prop := (acc.drop off).take l.length = l ∧ off + l.length ≤ acc.length
def Cov (acc : List UInt8) (ps : List (List UInt8 × Nat)) : Prop := (∀ p ∈ ps, PartOf acc p.1 p.2) ∧ ∀ i, i < acc.length → ∃ p ∈ ps, p.2 ≤ i ∧ i < p.2 + p.1.length
def pieces (ss : List (ByteArray × Nat)) (bb : List Itm) : List (List UInt8 × Nat) := ss.map (fun x => (x.1.data.toList, x.2)) ++ bb.map (fun x => (x.l, x.off))
theorem Cov.of_mem {acc : List UInt8} {ps qs : List (List UInt8 × Nat)} (h : Cov acc ps) (hm : ∀ p, p ∈ qs ↔ p ∈ ps) : Cov acc qs :=
  ⟨fun p hp => h.1 p ((hm p).1 hp), fun i hi => by obtain ⟨p, hp, h2⟩ := h.2 i hi; exact ⟨p, (hm p).2 hp, h2⟩⟩
theorem Cov.add {acc : List UInt8} {ps : List (List UInt8 × Nat)} (h : Cov acc ps) (l : List UInt8) : Cov (acc ++ l) (ps ++ [(l, acc.length)]) := by
  refine ⟨fun p hp => ?_, fun i hi => ?_⟩
  · rcases List.mem_append.1 hp with hp | hp
    · obtain ⟨h1, h2⟩ := h.1 p hp
      refine ⟨?_, by rw [List.length_append]; omega⟩
      rw [List.drop_append_of_le_length (by omega), List.take_append_of_le_length (by rw [List.length_drop]; omega)]
      exact h1
    · rw [List.mem_singleton.1 hp]
      exact ⟨by simp, by simp⟩
  · by_cases hc : i < acc.length
    · obtain ⟨p, hp, h2⟩ := h.2 i hc
      exact ⟨p, by simp [hp], h2⟩
    · exact ⟨(l, acc.length), by simp, by simp; omega, by simp at hi ⊢; omega⟩
theorem cov_nil : Cov [] (pieces [] []) := ⟨by simp [pieces], by simp⟩
theorem cov_s {acc : List UInt8} {ss : List (ByteArray × Nat)} {bb : List Itm} (h : Cov acc (pieces ss bb)) (s : ByteArray) : Cov (acc ++ s.data.toList) (pieces (ss ++ [(s, acc.length)]) bb) := by
  refine (h.add s.data.toList).of_mem fun p => ?_
  simp only [pieces, List.map_append, List.mem_append, List.map_cons, List.map_nil, List.mem_singleton]
  constructor
  · rintro ((h | h) | h)
    · exact .inl (.inl h)
    · exact .inr h
    · exact .inl (.inr h)
  · rintro ((h | h) | h)
    · exact .inl (.inl h)
    · exact .inr h
    · exact .inl (.inr h)
theorem cov_b {acc : List UInt8} {ss : List (ByteArray × Nat)} {bb : List Itm} (h : Cov acc (pieces ss bb)) (A : Option Addr) (l : List UInt8) (c : Nat) : Cov (acc ++ l) (pieces ss (bb ++ [⟨A, l, c, acc.length⟩])) := by
  refine (h.add l).of_mem fun p => ?_
  simp only [pieces, List.map_append, List.mem_append, List.map_cons, List.map_nil, List.mem_singleton]
  constructor
  · rintro (h | h | h)
    · exact .inl (.inl h)
    · exact .inl (.inr h)
    · exact .inr h
  · rintro ((h | h) | h)
    · exact .inl h
    · exact .inr (.inl h)
    · exact .inr (.inr h)

/-- a Joiner that holds acc, its pieces known -/
def JC (w : World) (B j : Nat) (acc : List UInt8) (k : Nat) : Prop := ∃ ss bb, JS w B j acc ss bb ∧ Cov acc (pieces ss bb) ∧ ss.length ≤ k ∧ bb.length ≤ k

set_option maxRecDepth 100000 in
set_option maxHeartbeats 1000000 in
theorem Ens_calls (w : World) (B j : Nat) (acc : List UInt8) (k : Nat) (t : ByteArray) (h : JC w B j acc k) (hn : acc.length ≤ 33554431) (hk : k ≤ 33554431) (hBw : B ≤ w.heap.size) :
    Calls Try.prog 18 #[.pointer (some ⟨j, 0, none⟩)] w fun e w' => e = .returned (.tuple #[]) ∧ JC w' B j (jStep acc (2, t)) (k + 1) ∧ Below B w w' := by
  obtain ⟨ss, bb, hJ, hC, hs1, hs2⟩ := h
  obtain ⟨vs, vb, hb, _, _⟩ := hJ.st
  obtain ⟨c0, c1, c2, c3, _⟩ := blk_cells hb
  have HJ := Lib.hid hJ
  clear hb
  have e0 : jStep acc (2, t) = if acc = [] then acc else if lastB acc = 10 then acc else acc ++ [10] := by unfold jStep; rw [if_neg (by simp), if_pos rfl]
  by_cases ha : acc = []
  · have e1 : jStep acc (2, t) = acc := by rw [e0, if_pos ha]
    have hl : ¬ (0 : Int) < (acc.length : Int) := by rw [ha]; simp
    have H1 := Lib.hid e1
    clear e0 e1 ha
    go_enter Try.func18, Try.ntmps18
    go_wp2
    go_end0
    exact ⟨rfl, by rw [H1.out]; exact ⟨ss, bb, HJ.out, hC, by omega, by omega⟩, Below.refl _ _⟩
  · have hl : (0 : Int) < (acc.length : Int) := by have := List.length_pos_iff.2 ha; omega
    by_cases hc : lastB acc = 10
    · have e1 : jStep acc (2, t) = acc := by rw [e0, if_neg ha, if_pos hc]
      have ht : (((lastB acc).toNat : Int) != 10) = false := by rw [hc]; rfl
      have H1 := Lib.hid e1
      clear e0 e1 ha hc
      go_enter Try.func18, Try.ntmps18
      go_wp2
      go_end0
      exact ⟨rfl, by rw [H1.out]; exact ⟨ss, bb, HJ.out, hC, by omega, by omega⟩, Below.refl _ _⟩
    · have e1 : jStep acc (2, t) = acc ++ [10] := by rw [e0, if_neg ha, if_neg hc]
      have ht : (((lastB acc).toNat : Int) != 10) = true := by
        rw [bne_iff_ne]; intro h; exact hc (UInt8.toNat_inj.1 (by show (lastB acc).toNat = 10; omega))
      have H1 := Lib.hid e1
      have HC := Lib.hid hC
      clear e0 e1 ha hc hC hJ
      go_enter Try.func18, Try.ntmps18
      go_wp2_with fail
      refine (AddS w B j acc ss bb ⟨#[10]⟩ HJ.out (by decide) (by omega) (by omega) hBw).mono ?_
      rintro e w1 ⟨rfl, h2, h3⟩
      go_wp2
      go_end0
      exact ⟨rfl, by rw [H1.out]; exact ⟨_, bb, h2, cov_s HC.out ⟨#[10]⟩, by rw [List.length_append]; simp; omega, by omega⟩, h3⟩

def stCells (l : List (Int × ByteArray)) : List Value := l.flatMap fun x => [.int .i64 x.1, .string x.2]
theorem Holds.st {w : World} {B : Nat} {A : Option Addr} {l : List (Int × ByteArray)} (h : Holds w B A (stCells l)) {i : Nat} {x : Int × ByteArray} (hx : l[i]? = some x) :
    ∃ b off, A = some ⟨b, off, none⟩ ∧ b < B ∧ w.cell? ⟨b, off + i * 2, none⟩ = some (.int .i64 x.1) ∧ w.cell? ⟨b, off + (i * 2 + 1), none⟩ = some (.string x.2) := by
  have hl : ∀ (l : List (Int × ByteArray)) (i : Nat) (x : Int × ByteArray), l[i]? = some x → (stCells l)[i * 2]? = some (.int .i64 x.1) ∧ (stCells l)[i * 2 + 1]? = some (.string x.2) := by
    intro l
    induction l with
    | nil => intro i x h; cases h
    | cons y l ih =>
      intro i x h
      match i, h with
      | 0, h => simp at h; subst h; exact ⟨rfl, rfl⟩
      | i + 1, h =>
        have := ih i x (by simpa using h)
        rw [show (i + 1) * 2 = i * 2 + 2 by omega, show i * 2 + 2 + 1 = i * 2 + 1 + 2 by omega]
        exact this
  obtain ⟨h1, h2⟩ := hl l i x hx
  obtain ⟨b, off, e, hb, hc⟩ := h (by
    rcases Nat.eq_zero_or_pos (stCells l).length with h0 | h0
    · rw [List.eq_nil_of_length_eq_zero h0] at h1; cases h1
    · exact h0)
  exact ⟨b, off, e, hb, hc _ _ h1, hc _ _ h2⟩
theorem take_ext {α : Type} {l : List α} {k : Nat} {x : α} (h : l[k]? = some x) : l.take (k + 1) = l.take k ++ [x] := by
  rw [List.take_add_one, h]; rfl
theorem weight_take (l : List (Int × ByteArray)) (k : Nat) : weight (l.take k) ≤ weight l := by
  have := weight_append (l.take k) (l.drop k)
  rw [List.take_append_drop] at this
  omega
theorem weight_len (l : List (Int × ByteArray)) : l.length ≤ weight l := by
  induction l with
  | nil => simp
  | cons x l ih => simp [weight] at ih ⊢; omega
theorem weight_mem {l : List (Int × ByteArray)} {x : Int × ByteArray} (h : x ∈ l) : x.2.size + 1 ≤ weight l := by
  induction l with
  | nil => cases h
  | cons y l ih =>
    have e : weight (y :: l) = y.2.size + 1 + weight l := by simp [weight]
    rcases List.mem_cons.1 h with rfl | h
    · omega
    · have := ih h; omega

set_option maxRecDepth 100000 in
set_option maxHeartbeats 4000000 in
theorem joined_calls (A : Option Addr) (c : Nat) (l : List (Int × ByteArray)) (w : World) (hh : Holds w w.heap.size A (stCells l)) (hw : weight l ≤ 16777300) (hk1 : ∀ x ∈ l, x.2.size ≤ 16777216) :
    Calls Try.prog 12 #[.slice A l.length c] w fun e w' => ∃ j, e = .returned (.pointer (some ⟨j, 0, none⟩)) ∧ JC w' w.heap.size j (joinAll l) l.length ∧ Below w.heap.size w w' := by
  have HW := Lib.hid hw
  have HK1 := Lib.hid hk1
  have hlen := weight_len l
  have hlen2 : l.length ≤ 16777300 := by omega
  clear hw hk1 hlen
  go_enter Try.func12, Try.ntmps12
  go_wp2
  have hJ0 : Hid (JC (w.alloc (.cells #[.slice none 0 0, .slice none 0 0, .int .u32 0, .int .u8 0] 41)) w.heap.size w.heap.size (joinAll (l.take 0)) 0) := Lib.hid
    ⟨[], [], ⟨⟨.slice none 0 0, .slice none 0 0, Blk.new w 41 _, World.ownsRow_nil _ _ _ _, World.ownsRow_nil _ _ _ _⟩, Nat.le_refl _, by simp⟩, cov_nil, Nat.le_refl _, Nat.le_refl _⟩
  go_loopw [10] (fun i wr => ∃ k : Nat, k ≤ l.length ∧ i = .int .i64 k ∧ Hid (JC wr w.heap.size w.heap.size (joinAll (l.take k)) k) ∧ Below w.heap.size w wr) (fun i _ => l.length - (intOf i).toNat)
  case atStart => exact ⟨0, Nat.zero_le _, rfl, hJ0, (Below.refl _ _).alloc (Nat.le_refl _) _⟩
  case round =>
    clear hJ0
    obtain ⟨k, hk, rfl, HJ, hb⟩ := hrel
    have hbs := hb.size
    by_cases hlt : k < l.length
    · have hlt' : (k : Int) < (l.length : Int) := by omega
      obtain ⟨⟨kd, t⟩, hx⟩ : ∃ x, l[k]? = some x := ⟨_, List.getElem?_eq_getElem hlt⟩
      obtain ⟨b, off, rfl, hbl, g1, g2⟩ := Holds.st hh hx
      have f1 : wr.cell? ⟨b, off + k * 2, none⟩ = some (.int .i64 kd) := (hb.cell (p := ⟨b, off + k * 2, none⟩) hbl).trans g1
      have f2 : wr.cell? ⟨b, off + k * 2 + 1, none⟩ = some (.string t) := (hb.cell (p := ⟨b, off + (k * 2 + 1), none⟩) hbl).trans g2
      have ht : t.size ≤ 16777216 := HK1.out (kd, t) (List.mem_of_getElem? hx)
      have HT := Lib.hid (show joinAll (l.take (k + 1)) = jStep (joinAll (l.take k)) (kd, t) by rw [take_ext hx, joinAll_snoc])
      obtain ⟨acc, Hacc⟩ : ∃ acc, Hid (acc = joinAll (l.take k)) := ⟨_, Lib.hid rfl⟩
      rw [← Hacc.out] at HT HJ
      have hal : acc.length ≤ 16777300 := by
        rw [Hacc.out]
        have a := joinAll_len (l.take k)
        have b := weight_take l k
        have c := HW.out
        omega
      have hb2 := hb.alloc hbs (.cells #[.int .i64 kd, .string t] 29)
      have hb2s := hb2.size
      have HJ2 : Hid (JC (wr.alloc (.cells #[.int .i64 kd, .string t] 29)) w.heap.size w.heap.size acc k) := by
        obtain ⟨ss, bb, h1, h2, h3, h4⟩ := HJ.out
        exact Lib.hid ⟨ss, bb, h1.below ((Below.refl _ _).alloc (Nat.le_refl _) _), h2, h3, h4⟩
      clear hx g1 g2 HJ hh
      by_cases k0 : kd = 0
      · have t0 : (kd == 0) = true := by simp [k0]
        have e1 : jStep acc (kd, t) = acc ++ t.data.toList := by unfold jStep; rw [if_pos (.inl k0)]
        have HE := Lib.hid e1
        clear k0 e1
        obtain ⟨ss, bb, h1, h2, h3, h4⟩ := HJ2.out
        have H1 := Lib.hid h1
        have H2 := Lib.hid h2
        clear h1 h2
        go_wp2_with fail
        refine (AddS _ w.heap.size w.heap.size acc ss bb t H1.out ht (by omega) (by omega) (by simp; omega)).mono ?_
        rintro e w4 ⟨rfl, h5, h6⟩
        have hb4 := hb2.trans h6
        have HN : Hid (JC w4 w.heap.size w.heap.size (joinAll (l.take (k + 1))) (k + 1)) := Lib.hid (by rw [HT.out, HE.out]; exact ⟨_, bb, h5, cov_s H2.out t, by rw [List.length_append]; simp; omega, by omega⟩)
        clear h5 h6
        go_wp2
        go_roundw
        case rel => exact ⟨k + 1, by omega, by go_num, HN, hb4⟩
        case measure => simp [intOf]; omega
      · have t0 : (kd == 0) = false := by simp [k0]
        by_cases k1 : kd = 1
        · have t1 : (kd == 1) = true := by simp [k1]
          have e1 : jStep acc (kd, t) = acc ++ t.data.toList := by unfold jStep; rw [if_pos (.inr k1)]
          have HE := Lib.hid e1
          clear k0 k1 e1
          obtain ⟨ss, bb, h1, h2, h3, h4⟩ := HJ2.out
          have hcv := Lib.run_convert_string_bytes (P := Try.prog) (wr.alloc (.cells #[.int .i64 kd, .string t] 29)) 9 36 5 t Try.underlying9 Try.underlying36 Try.underlying5
          obtain ⟨W2, hW2⟩ : ∃ W2, W2 = Lib.bytesWorld (wr.alloc (.cells #[.int .i64 kd, .string t] 29)) 5 t := ⟨_, rfl⟩
          obtain ⟨cp, hcp⟩ : ∃ cp, cp = grownCap (wr.alloc (.cells #[.int .i64 kd, .string t] 29)) t.size 0 5 := ⟨_, rfl⟩
          have hbl2 : Below (wr.alloc (.cells #[.int .i64 kd, .string t] 29)).heap.size (wr.alloc (.cells #[.int .i64 kd, .string t] 29)) W2 := by rw [hW2]; exact Joins.below_bytesWorld _ _ _ _ (Nat.le_refl _)
          have hnew : Dat W2 ⟨some ⟨(wr.alloc (.cells #[.int .i64 kd, .string t] 29)).heap.size, 0, none⟩, t.data.toList, cp, acc.length⟩ := by
            refine ⟨_, _, _, rfl, by rw [hW2]; exact Lib.bytesWorld_at_new _ 5 t, fun i u hu => ?_⟩
            simp only [bytesV, List.getElem?_map] at hu
            simp only [Lib.bytesCells]
            rw [Array.getElem?_append_left (by
              rcases Nat.lt_or_ge i t.data.size with h | h
              · simpa using h
              · rw [List.getElem?_eq_none (by simpa using h)] at hu; cases hu)]
            simpa using hu
          obtain ⟨gg, hgg⟩ : ∃ gg, gg = (wr.alloc (.cells #[.int .i64 kd, .string t] 29)).heap.size := ⟨_, rfl⟩
          rw [← hW2, ← hcp, ← hgg] at hcv
          rw [← hgg] at hnew
          have hJ3 := h1.below hbl2
          have hb3 := hb2.trans (hbl2.mono hb2s)
          have hb3s := hb3.size
          have htl : t.data.toList.length = t.size := by simp
          have HB := AddB W2 w.heap.size w.heap.size acc ss bb _ t.data.toList cp hnew hJ3 (by omega) (by omega) (by omega) hb3s
          rw [htl] at HB
          have HB2 := Lib.hid HB
          have H2 := Lib.hid h2
          clear h1 h2 hW2 hcp hgg hnew hJ3 htl HB hbl2
          go_wp2_with fail
          refine (HB2.out).mono ?_
          rintro e w4 ⟨rfl, h5, h6⟩
          have hb4 := hb3.trans h6
          have HN : Hid (JC w4 w.heap.size w.heap.size (joinAll (l.take (k + 1))) (k + 1)) := Lib.hid (by rw [HT.out, HE.out]; exact ⟨ss, _, h5, cov_b H2.out _ _ _, by omega, by rw [List.length_append]; simp; omega⟩)
          clear h5 h6
          go_wp2
          go_roundw
          case rel => exact ⟨k + 1, by omega, by go_num, HN, hb4⟩
          case measure => simp [intOf]; omega
        · have t1 : (kd == 1) = false := by simp [k1]
          by_cases k2 : kd = 2
          · have t2 : (kd == 2) = true := by simp [k2]
            have HE := Lib.hid (show jStep acc (kd, t) = jStep acc (2, t) by rw [k2])
            clear k0 k1 k2
            go_wp2_with fail
            refine (Ens_calls _ w.heap.size w.heap.size acc k t HJ2.out (by omega) (by omega) (by simp; omega)).mono ?_
            rintro e w4 ⟨rfl, h5, h6⟩
            have hb4 := hb2.trans h6
            have HN : Hid (JC w4 w.heap.size w.heap.size (joinAll (l.take (k + 1))) (k + 1)) := Lib.hid (by rw [HT.out, HE.out]; exact h5)
            clear h5 h6
            go_wp2
            go_roundw
            case rel => exact ⟨k + 1, by omega, by go_num, HN, hb4⟩
            case measure => simp [intOf]; omega
          · have t2 : (kd == 2) = false := by simp [k2]
            have HE := Lib.hid (show jStep acc (kd, t) = acc by unfold jStep; rw [if_neg (by simp [k0, k1]), if_neg k2])
            clear k0 k1 k2
            have HN : Hid (JC (wr.alloc (.cells #[.int .i64 kd, .string t] 29)) w.heap.size w.heap.size (joinAll (l.take (k + 1))) (k + 1)) := Lib.hid (by
              rw [HT.out, HE.out]
              obtain ⟨ss, bb, h1, h2, h3, h4⟩ := HJ2.out
              exact ⟨ss, bb, h1, h2, by omega, by omega⟩)
            go_wp2
            go_roundw
            case rel => exact ⟨k + 1, by omega, by go_num, HN, hb2⟩
            case measure => simp [intOf]; omega
    · obtain rfl : k = l.length := by omega
      rw [List.take_length] at HJ
      go_wp2
      go_ret
      exact ⟨_, rfl, HJ.out, hb⟩
end Go.Proofs.Ytmoaeeiggkaicaa
