/- The contracts of 'impl.Glob', 'GlobPatternToString', 'impl.GlobText'. -/
import Derived.Test.YtbpghbkaaiembaaGlC
import Derived.Test.YtbpghbkaaiembaaBld
namespace Go.Proofs.Ytbpghbkaaiembaa
open Go.RowKit Stamp
set_option linter.unusedVariables false

theorem infoPart : (Try.prog.info? 29).map (fun i => (i.zero, i.size, i.bytes)) = some (some (.agg #[.string ByteArray.empty, .int .i64 0]), 2, 24) := by kernel_rfl

/-- the two cells of a part in a row of parts -/
theorem Holds.gp {w : World} {B : Nat} {A : Option Addr} {k : IntKind} {l : List (List UInt8 × Nat)} (h : Holds w B A (gpCells k l)) {i : Nat} {x : List UInt8 × Nat} (hx : l[i]? = some x) :
    ∃ b off, A = some ⟨b, off, none⟩ ∧ b < B ∧ w.cell? ⟨b, off + i * 2, none⟩ = some (.string (bs x.1)) ∧ w.cell? ⟨b, off + (i * 2 + 1), none⟩ = some (.int k (x.2 : Int)) := by
  have hl : ∀ (l : List (List UInt8 × Nat)) (i : Nat) (x : List UInt8 × Nat), l[i]? = some x → (gpCells k l)[i * 2]? = some (.string (bs x.1)) ∧ (gpCells k l)[i * 2 + 1]? = some (.int k (x.2 : Int)) := by
    intro l
    induction l with
    | nil => intro i x h; cases h
    | cons y l ih =>
      intro i x h
      match i, h with
      | 0, h => simp at h; subst h; exact ⟨rfl, rfl⟩
      | i + 1, h =>
        have := ih i x (by simpa using h)
        rw [show (i + 1) * 2 = i * 2 + 2 by omega, show i * 2 + 2 + 1 = i * 2 + 1 + 2 by omega]
        exact this
  obtain ⟨h1, h2⟩ := hl l i x hx
  obtain ⟨b, off, e, hb, hc⟩ := h (by
    rcases Nat.eq_zero_or_pos (gpCells k l).length with h0 | h0
    · rw [List.eq_nil_of_length_eq_zero h0] at h1; cases h1
    · exact h0)
  exact ⟨b, off, e, hb, hc _ _ h1, hc _ _ h2⟩
theorem partsOf_size (D : List (List UInt8 × Nat)) (t : List UInt8) : (heads (partsOf D t)).length ≤ (flat D t).length ∧ ((∀ x ∈ D, 1 ≤ x.2) → (partsOf D t).length ≤ (flat D t).length + 1) := by
  induction D with
  | nil => simp [heads, partsOf, flat]
  | cons x D ih =>
    have e : (heads (partsOf (x :: D) t)).length = x.1.length + (heads (partsOf D t)).length := by simp [heads, partsOf]
    refine ⟨?_, fun h => ?_⟩
    · rw [e]; simp [flat]; omega
    · have h1 := h x (by simp)
      have h2 := ih.2 (fun y hy => h y (by simp [hy]))
      simp [partsOf, flat] at h2 ⊢
      omega
theorem take_ext {α : Type} {l : List α} {k : Nat} {x : α} (h : l[k]? = some x) : l.take (k + 1) = l.take k ++ [x] := by
  rw [List.take_add_one, h]; rfl

set_option maxRecDepth 100000 in
set_option maxHeartbeats 2000000 in
theorem Glob_calls (s : ByteArray) (hs : s.size ≤ 2147483647) (D : List (List UInt8 × Nat)) (t : List UInt8) (hl : s.data.toList = flat D t) (hD : okParts D t) (w : World) :
    Calls Try.prog 7 #[.string s] w fun e w' => ∃ A c, e = .returned (.slice A (partsOf D t).length c) ∧ (partsOf D t).length ≤ c ∧ c ≤ maxLen ∧ Holds w' w'.heap.size A (gpCells .i64 (partsOf D t)) ∧ Below w.heap.size w w' := by
  obtain ⟨i0, hi0, hz0, hz1, hz2⟩ := info_parts infoPart
  have hcall := fun w => Parse_calls s hs D t hl hD w
  have Hb : ∀ x ∈ partsOf D t, x.2 ≤ 2 := fun x hx => by
    obtain ⟨i, hi⟩ := List.getElem?_of_mem hx
    exact (parts_kind D t i x hi).2
  have hpl := (partsOf_size D t).2 (fun x hx => (hD.1 x hx).2)
  rw [← hl] at hpl
  have hsl : s.data.toList.length = s.size := by simp
  rw [hsl] at hpl
  generalize hall : partsOf D t = all at *
  have HB := Lib.hid Hb
  have HC := Lib.hid hcall
  clear hall hl hD Hb hcall hsl
  go_enter Try.func7, Try.ntmps7
  go_wp2_with fail
  refine (HC.out _).mono ?_
  rintro e w1 ⟨A, c, rfl, hc1, hc2, hh, hb⟩
  clear HC
  have hbs := hb.size
  go_wp2
  go_loopw [3, 9] (fun v i wr => ∃ k : Nat, k ≤ all.length ∧ i = .int .i64 k ∧ wr.ownsRow w1.heap.size 29 2 v k (gpCells .i64 (all.take k)) ∧ Below w1.heap.size w1 wr) (fun _ i _ => all.length - (intOf i).toNat)
  case atStart => exact ⟨0, Nat.zero_le _, rfl, World.ownsRow_nil _ _ _ _, Below.refl _ _⟩
  case round =>
    obtain ⟨k, hk, rfl, hown, hb1⟩ := hrel
    have hb1s := hb1.size
    by_cases hlt : k < all.length
    · have hlt' : (k : Int) < (all.length : Int) := by omega
      obtain ⟨x, hx⟩ : ∃ x, all[k]? = some x := ⟨_, List.getElem?_eq_getElem hlt⟩
      obtain ⟨b, off, rfl, hbl, g1, g2⟩ := Holds.gp hh hx
      have f1 : wr.cell? ⟨b, off + k * 2, none⟩ = some (.string (bs x.1)) := (hb1.cell (p := ⟨b, off + k * 2, none⟩) hbl).trans g1
      have f2 : wr.cell? ⟨b, off + k * 2 + 1, none⟩ = some (.int .u8 (x.2 : Int)) := (hb1.cell (p := ⟨b, off + (k * 2 + 1), none⟩) hbl).trans g2
      have hx2 := HB.out x (List.mem_of_getElem? hx)
      have HX := Lib.hid hx
      clear hx g1 g2
      go_wp2_with (at_builtin
                   refine wpList_append_holds _ rfl (.tmp 13) (.tmp 20) _ rfl w1.heap.size 29 i0 _ 2 24 Try.underlying22 hi0 hz0 hz1 hz2 rfl (by omega) _ k _ rfl ((hown.alloc _).alloc _) (wr.heap.size + 1 + 1) _ 1 1 [.string (bs x.1), .int .i64 (x.2 : Int)] rfl rfl (Holds.pair _ _ _ _ (by simp)) oneCell_gp (by simp only [maxLen]; omega) (by omega) (by simp; omega) ?_
                   intro v1 w4 hown4 hg4 hat4)
      have hb4 := Below.grown ((hb1.alloc hb1s (.cells #[.string (bs x.1), .int .u8 (x.2 : Int)] 39)).alloc (by simp; omega) (.cells #[.string (bs x.1), .int .i64 (x.2 : Int)] 29)) hg4 (by simp; omega) (own_row_ge hown)
      exact ⟨⟨k + 1, by omega, by go_num, by rw [take_ext HX.out, gpCells_snoc]; exact hown4, hb4⟩, by simp [intOf]; omega⟩
    · obtain rfl : k = all.length := by omega
      rw [List.take_length] at hown
      obtain ⟨A1, c1, rfl, hd1, hd2, hh1⟩ := own_form2 hown
      go_wp2
      go_ret
      exact ⟨A1, c1, rfl, hd1, hd2, hh1, hb.trans (hb1.mono hbs)⟩

theorem bcell {B : Nat} {W w1 : World} (hb : Below B W w1) : (∀ b o, b < B → w1.cell? ⟨b, o, none⟩ = W.cell? ⟨b, o, none⟩) ∧ (∀ b o, b < B → w1.frozen? ⟨b, o, none⟩ = W.frozen? ⟨b, o, none⟩) :=
  ⟨fun b o h => hb.cell (p := ⟨b, o, none⟩) h, fun b o h => hb.frozen (p := ⟨b, o, none⟩) h⟩
theorem written_take {l : List (List UInt8 × Nat)} {k : Nat} {x : List UInt8 × Nat} (h : l[k]? = some x) : Stamp.written (l.take (k + 1)) = Stamp.written (l.take k) ++ (x.1 ++ List.replicate x.2 42) := by
  rw [take_ext h, written_append]; simp [Stamp.written]
theorem written_prefix (l : List (List UInt8 × Nat)) (k : Nat) : (Stamp.written (l.take k)).length ≤ (Stamp.written l).length := by
  conv => rhs; rw [← List.take_append_drop k l, written_append]
  simp

set_option maxRecDepth 100000 in
set_option maxHeartbeats 4000000 in
theorem PatText_calls (A : Option Addr) (c : Nat) (l : List (List UInt8 × Nat)) (w : World) (hh : Holds w w.heap.size A (gpCells .u8 l)) (hk : ∀ x ∈ l, x.2 ≤ 2) (hn : l.length ≤ 4294967296) (hw : (Stamp.written l).length ≤ 17179869184) :
    Calls Try.prog 15 #[.slice A l.length c] w fun e w' => e = .returned (.string (bs (Stamp.written l))) ∧ Below w.heap.size w w' := by
  have HK := Lib.hid hk
  have HW := Lib.hid hw
  clear hk hw
  go_enter Try.func15, Try.ntmps15
  go_wp2
  go_loopw [9] (fun i wr => ∃ k : Nat, k ≤ l.length ∧ i = .int .i64 k ∧ Lib.IsBuilder 46 5 w.heap.size w.heap.size (Lib.byteCells (Stamp.written (l.take k))) wr ∧ Below w.heap.size w wr) (fun i _ => l.length - (intOf i).toNat)
  case atStart => exact ⟨0, Nat.zero_le _, rfl, Lib.fresh_isBuilder 46 5 w, (Below.refl _ _).alloc (Nat.le_refl _) _⟩
  case round =>
    obtain ⟨k, hk, rfl, hbd, hb⟩ := hrel
    have hbs := hb.size
    by_cases hlt : k < l.length
    · have hlt' : (k : Int) < (l.length : Int) := by omega
      obtain ⟨⟨p, q⟩, hx⟩ : ∃ x, l[k]? = some x := ⟨_, List.getElem?_eq_getElem hlt⟩
      obtain ⟨b, off, rfl, hbl, g1, g2⟩ := Holds.gp hh hx
      have f1 : wr.cell? ⟨b, off + k * 2, none⟩ = some (.string (bs p)) := (hb.cell (p := ⟨b, off + k * 2, none⟩) hbl).trans g1
      have f2 : wr.cell? ⟨b, off + k * 2 + 1, none⟩ = some (.int .u8 (q : Int)) := (hb.cell (p := ⟨b, off + (k * 2 + 1), none⟩) hbl).trans g2
      have hx2 : q ≤ 2 := HK.out (p, q) (List.mem_of_getElem? hx)
      have HT := Lib.hid (show Stamp.written (l.take (k + 1)) = (Stamp.written (l.take k) ++ p) ++ List.replicate q 42 by rw [written_take hx, List.append_assoc])
      have hp1 := written_prefix l (k + 1)
      rw [HT.out] at hp1
      simp only [List.length_append, List.length_replicate] at hp1
      have hw2 := HW.out
      obtain ⟨L, HL⟩ : ∃ L, Hid (L = (Stamp.written (l.take k)).length) := ⟨_, Lib.hid rfl⟩
      rw [← HL.out] at hp1
      have hp2 : L + (p.length + q) ≤ 17179869184 := by omega
      have hb2 := hb.alloc hbs (.cells #[.string (bs p), .int .u8 (q : Int)] 39)
      have Hbd := Lib.hid (bld_alloc hbd (.cells #[.string (bs p), .int .u8 (q : Int)] 39))
      have hlt2 := bld_lt hbd
      clear hx g1 g2 hp1 hw2 hbd
      go_wp2_with fail
      refine (Bld_string w.heap.size w.heap.size _ (bs p) _ Hbd.out (by rw [Lib.byteCells_length, ← HL.out, bs_size]; omega) (by simp; omega)).mono ?_
      rintro e w1 ⟨rfl, hbd3, hb3, hk3⟩
      have Hb3 := Lib.hid (show Lib.IsBuilder 46 5 w.heap.size w.heap.size (Lib.byteCells (Stamp.written (l.take k) ++ p)) w1 by rw [Lib.byteCells_append]; exact hbd3)
      have hb4 := hb2.trans hb3
      have hb4s := hb4.size
      have hblk := kept_cells hk3 (heap_alloc_new wr _) (by omega) (by decide)
      have r2 : w1.cell? ⟨wr.heap.size, 1, none⟩ = some (.int .u8 (q : Int)) := by rw [Lib.cell_of_heap hblk]; rfl
      clear hblk hbd3 hb3 hk3 hb2
      rcases (show q = 0 ∨ q = 1 ∨ q = 2 by omega) with hq | hq | hq
      · have t1 : ((q : Int) == 1) = false := by rw [hq]; rfl
        have t2 : ((q : Int) == 2) = false := by rw [hq]; rfl
        have HE := Lib.hid (show Stamp.written (l.take (k + 1)) = Stamp.written (l.take k) ++ p by rw [HT.out, hq]; simp)
        clear hq
        go_wp2
        go_roundw
        case rel => exact ⟨k + 1, by omega, by go_num, by rw [HE.out]; exact Hb3.out, hb4⟩
        case measure => simp [intOf]; omega
      · have t1 : ((q : Int) == 1) = true := by rw [hq]; rfl
        have t2 : ((q : Int) == 2) = false := by rw [hq]; rfl
        have HE := Lib.hid (show Stamp.written (l.take (k + 1)) = (Stamp.written (l.take k) ++ p) ++ [42] by rw [HT.out, hq]; rfl)
        clear hq
        go_wp2_with fail
        refine (Bld_byte w.heap.size w.heap.size _ 42 _ Hb3.out (by rw [Lib.byteCells_length, List.length_append, ← HL.out]; omega) (by omega)).mono ?_
        rintro e w2 ⟨rfl, hbd5, hb5, hk5⟩
        have hb6 := hb4.trans hb5
        have Hb5 := Lib.hid (show Lib.IsBuilder 46 5 w.heap.size w.heap.size (Lib.byteCells (Stamp.written (l.take (k + 1)))) w2 by rw [HE.out, Lib.byteCells_append]; exact hbd5)
        clear hbd5 hb5 hk5
        go_wp2
        go_roundw
        case rel => exact ⟨k + 1, by omega, by go_num, Hb5.out, hb6⟩
        case measure => simp [intOf]; omega
      · have t1 : ((q : Int) == 1) = false := by rw [hq]; rfl
        have t2 : ((q : Int) == 2) = true := by rw [hq]; rfl
        have HE := Lib.hid (show Stamp.written (l.take (k + 1)) = (Stamp.written (l.take k) ++ p) ++ [42, 42] by rw [HT.out, hq]; rfl)
        have hq2 : 2 ≤ q := by omega
        clear hq
        go_wp2_with fail
        refine (Bld_string w.heap.size w.heap.size _ (⟨#[42, 42]⟩ : ByteArray) _ Hb3.out (by rw [Lib.byteCells_length, List.length_append, ← HL.out]; show L + p.length + 2 ≤ _; omega) (by omega)).mono ?_
        rintro e w2 ⟨rfl, hbd5, hb5, hk5⟩
        have hb6 := hb4.trans hb5
        have Hb5 := Lib.hid (show Lib.IsBuilder 46 5 w.heap.size w.heap.size (Lib.byteCells (Stamp.written (l.take (k + 1)))) w2 by rw [HE.out, Lib.byteCells_append]; exact hbd5)
        clear hbd5 hb5 hk5
        go_wp2
        go_roundw
        case rel => exact ⟨k + 1, by omega, by go_num, Hb5.out, hb6⟩
        case measure => simp [intOf]; omega
    · obtain rfl : k = l.length := by omega
      rw [List.take_length] at hbd
      go_wp2_with fail
      refine (Try.Builder_String_any w.heap.size w.heap.size (Stamp.written l) wr hbd hbs).mono ?_
      rintro e w1 ⟨rfl, hb1⟩
      go_wp2
      go_ret
      exact ⟨rfl, hb.trans hb1⟩

set_option maxRecDepth 100000 in
set_option maxHeartbeats 2000000 in
theorem GlobText_calls (A : Option Addr) (c : Nat) (all : List (List UInt8 × Nat)) (w : World) (hh : Holds w w.heap.size A (gpCells .i64 all)) (hk : ∀ x ∈ all, x.2 ≤ 2) (hn : all.length ≤ 4294967296) (hw : (Stamp.written all).length ≤ 17179869184) :
    Calls Try.prog 12 #[.slice A all.length c] w fun e w' => e = .returned (.string (bs (Stamp.written all))) ∧ Below w.heap.size w w' := by
  obtain ⟨i0, hi0, hz0, hz1, hz2⟩ := info_parts infoGP
  have HB := Lib.hid hk
  have HW := Lib.hid hw
  clear hk hw
  go_enter Try.func12, Try.ntmps12
  go_wp2
  go_loopw [3, 8] (fun v i wr => ∃ k : Nat, k ≤ all.length ∧ i = .int .i64 k ∧ wr.ownsRow w.heap.size 39 2 v k (gpCells .u8 (all.take k)) ∧ Below w.heap.size w wr) (fun _ i _ => all.length - (intOf i).toNat)
  case atStart => exact ⟨0, Nat.zero_le _, rfl, World.ownsRow_nil _ _ _ _, Below.refl _ _⟩
  case round =>
    obtain ⟨k, hk, rfl, hown, hb1⟩ := hrel
    have hb1s := hb1.size
    by_cases hlt : k < all.length
    · have hlt' : (k : Int) < (all.length : Int) := by omega
      obtain ⟨⟨p, q⟩, hx⟩ : ∃ x, all[k]? = some x := ⟨_, List.getElem?_eq_getElem hlt⟩
      obtain ⟨b, off, rfl, hbl, g1, g2⟩ := Holds.gp hh hx
      have f1 : wr.cell? ⟨b, off + k * 2, none⟩ = some (.string (bs p)) := (hb1.cell (p := ⟨b, off + k * 2, none⟩) hbl).trans g1
      have f2 : wr.cell? ⟨b, off + k * 2 + 1, none⟩ = some (.int .i64 (q : Int)) := (hb1.cell (p := ⟨b, off + (k * 2 + 1), none⟩) hbl).trans g2
      have hx2 : q ≤ 2 := HB.out (p, q) (List.mem_of_getElem? hx)
      have HX := Lib.hid hx
      clear hx g1 g2
      go_wp2_with (at_builtin
                   refine wpList_append_holds _ rfl (.tmp 12) (.tmp 19) _ rfl w.heap.size 39 i0 _ 2 24 Try.underlying35 hi0 hz0 hz1 hz2 rfl (by omega) _ k _ rfl ((hown.alloc _).alloc _) (wr.heap.size + 1 + 1) _ 1 1 [.string (bs p), .int .u8 (q : Int)] rfl rfl (Holds.pair _ _ _ _ (by simp)) oneCell_gp (by simp only [maxLen]; omega) (by omega) (by simp; omega) ?_
                   intro v1 w4 hown4 hg4 hat4)
      have hb4 := Below.grown ((hb1.alloc hb1s (.cells #[.string (bs p), .int .i64 (q : Int)] 29)).alloc (by simp; omega) (.cells #[.string (bs p), .int .u8 (q : Int)] 39)) hg4 (by simp; omega) (own_row_ge hown)
      exact ⟨⟨k + 1, by omega, by go_num, by rw [take_ext HX.out, gpCells_snoc]; exact hown4, hb4⟩, by simp [intOf]; omega⟩
    · obtain rfl : k = all.length := by omega
      rw [List.take_length] at hown
      obtain ⟨A1, c1, rfl, hd1, hd2, hh1⟩ := own_form2 hown
      go_wp2_with fail
      refine (PatText_calls A1 c1 all wr hh1 HB.out hn HW.out).mono ?_
      rintro e w1 ⟨rfl, hb2⟩
      go_wp2
      go_ret
      exact ⟨rfl, hb1.trans (hb2.mono hb1s)⟩
end Go.Proofs.Ytbpghbkaaiembaa
