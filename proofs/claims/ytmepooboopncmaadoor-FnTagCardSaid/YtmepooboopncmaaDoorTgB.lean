/- The contracts of 'strings.EqualFold' at a tag, of 'EscapeClosingTag' and 'impl.EscapeTag'. -/
import Derived.Test.YtmepooboopncmaaDoorTgE
import Derived.Test.YtmepooboopncmaaDoorTgA
import Derived.Test.YtmepooboopncmaaDoorBld
namespace Go.Proofs.YtmepooboopncmaaDoor
open Go.RowKit Stamp
set_option linter.unusedVariables false

theorem EF_calls (s t : ByteArray) (hst : s.size = t.size) (hs : s.size ≤ 1048576) (ht : ∀ c ∈ t.data.toList, isTag c = true) (w : World) (hF : FoldTabs w) :
    Calls Tryd.prog 20 #[.string s, .string t] w fun e w' => e = .returned (.bool (decide (lowL s.data.toList = t.data.toList))) ∧ Below w.heap.size w w' := by
  by_cases hx : ∃ c ∈ s.data.toList, 128 ≤ c.toNat
  · rw [low_not ht hx]
    exact EF_no s t hst hs ht hx w hF
  · refine (Tryd.strings_EqualFold s t w (by omega) (fun j b hj => ?_) (fun j b hj => tag_low (ht b (List.mem_of_getElem? hj)))).mono ?_
    · rcases Nat.lt_or_ge b.toNat 128 with h | h
      · exact h
      · exact absurd ⟨b, List.mem_of_getElem? hj, h⟩ hx
    · rintro e w' ⟨rfl, rfl⟩
      rw [equalFold_low _ _ ht]
      exact ⟨rfl, Below.refl _ _⟩
theorem at_lt (l : List UInt8) (i : Nat) : atX l [60, 47] i ↔ ltAt l i := by
  unfold atX ltAt
  show (l.drop i).take 2 = [60, 47] ↔ _
  constructor
  · intro h
    refine ⟨(l.drop i).drop 2, ?_⟩
    conv => lhs; rw [← List.take_append_drop 2 (l.drop i), h]
    rfl
  · rintro ⟨r, h⟩
    rw [h]; rfl
theorem ix_lt {l : List UInt8} {r : Int} (h : IxPost l (⟨#[60, 47]⟩ : ByteArray).data.toList r) : FirstLt l r := by
  have e : (⟨#[60, 47]⟩ : ByteArray).data.toList = [60, 47] := rfl
  rw [e] at h
  rcases h with ⟨h1, h2⟩ | ⟨k, h1, h2, h3⟩
  · exact .inl ⟨h1, fun i hi => h2 i ((at_lt l i).2 hi)⟩
  · exact .inr ⟨k, h1, (at_lt l k).1 h2, fun i hi hh => h3 i hi ((at_lt l i).2 hh)⟩
theorem bld_below {T e : TypeId} {B b : Nat} {bs : List Value} {w w' : World} (h : Lib.IsBuilder T e B b bs w) (hb : Below w.heap.size w w') : Lib.IsBuilder T e B b bs w' := by
  have k : ∀ {p : Value}, Lib.BuilderAt T e B b p bs w → Lib.BuilderAt T e B b p bs w' := fun {p} h => by
    have hlt := h.lt
    obtain ⟨hB, v, hbk, hown, hne⟩ := h
    exact ⟨hB, v, (hb.block b hlt).trans hbk, own_below hown hb, hne⟩
  rcases h with h | h
  · exact .inl (k h)
  · exact .inr (k h)
theorem bytes_from (m : ByteArray) (k : Nat) : (m.extract k m.size).data.toList = m.data.toList.drop k := by
  rw [ByteArray.data_extract, Array.toList_extract, List.extract_eq_take_drop, List.take_of_length_le]
  rw [List.length_drop]
  have : m.data.toList.length = m.size := by simp
  omega
theorem bytes_to (m : ByteArray) (k : Nat) : (m.extract 0 k).data.toList = m.data.toList.take k := by
  rw [ByteArray.data_extract, Array.toList_extract, List.extract_eq_take_drop, Nat.sub_zero, List.drop_zero]
/-- what the loop keeps: where '</' stands in what is left, and what has been written -/
def EscS (tag l m bs : List UInt8) (k : Nat) : Prop := ltAt m k ∧ (∀ i, i < k → ¬ ltAt m i) ∧ tagged tag l = bs ++ tagged tag m
theorem EscS.bound {tag l m bs : List UInt8} {k : Nat} (h : EscS tag l m bs k) : k + 2 ≤ m.length ∧ bs.length + m.length ≤ 2 * l.length := by
  refine ⟨lt_len h.1, ?_⟩
  have h1 := congrArg List.length h.2.2
  have h2 := (tagged_len tag l).2
  have h3 := (tagged_len tag m).1
  simp at h1
  omega
theorem EscS.step {x l m bs : List UInt8} {k : Nat} (h : EscS (47 :: x) l m bs k) {b : Bool} (hb : pre (47 :: x) (lowL (m.drop (k + 1))) = b) :
    tagged (47 :: x) l = (bs ++ m.take (k + 1) ++ (if b then [92] else [])) ++ tagged (47 :: x) (m.drop (k + 1)) := by
  rw [h.2.2, tagged_at h.2.1 h.1, hb]
  simp

set_option maxRecDepth 1000000 in
set_option maxHeartbeats 8000000 in
theorem Esc_calls (s t : ByteArray) (x : List UInt8) (htx : t.data.toList = 47 :: x) (ht : ∀ c ∈ t.data.toList, isTag c = true) (htz : t.size ≤ 1024) (hs : s.size ≤ 4294967296) (w0 : World) (hF : FoldTabs w0) :
    Calls Tryd.prog 13 #[.string s, .string t] w0 fun e w' => e = .returned (.string ⟨(tagged t.data.toList s.data.toList).toArray⟩) ∧ Below w0.heap.size w0 w' := by
  have HF := Lib.hid hF
  have HTT := Lib.hid ht
  have HTX := Lib.hid htx
  have hte : t.toList.isEmpty = false := by rw [Go.ByteArray.toList_eq, htx]; rfl
  have htl : t.data.toList.length = t.size := by simp
  have HTL := Lib.hid htl
  have hsl : s.data.toList.length = s.size := by simp
  have HSL := Lib.hid hsl
  clear hF ht htx htl hsl
  go_enter Tryd.func13, Tryd.ntmps13
  go_wp2_with fail
  refine (Index_calls s (⟨#[60, 47]⟩ : ByteArray) (by omega) (by decide) (by decide) w0).mono ?_
  rintro e w1 ⟨⟨r, rfl, hr⟩, rfl⟩
  rcases ix_lt hr.out with ⟨rfl, hno⟩ | ⟨k, rfl, hk1, hk2⟩
  · have HN := Lib.hid (show tagged t.data.toList s.data.toList = s.data.toList by rw [HTX.out]; exact tagged_none hno)
    clear hno hr
    go_wp2
    go_ret
    refine ⟨?_, Below.refl _ _⟩
    rw [HN.out]
    cases s; simp
  · have hkn : ¬ (k : Int) < 0 := by omega
    have HK := Lib.hid (show EscS t.data.toList s.data.toList s.data.toList [] k from ⟨hk1, hk2, rfl⟩)
    clear hr hk1 hk2
    go_wp2
    go_loopw [0, 5] (fun m i wr => ∃ (mm : ByteArray) (bs : List UInt8) (k : Nat), m = .string mm ∧ i = .int .i64 (k : Int) ∧ mm.size ≤ s.size ∧ Hid (EscS t.data.toList s.data.toList mm.data.toList bs k) ∧ Hid (Lib.IsBuilder 32 5 w1.heap.size w1.heap.size (Lib.byteCells bs) wr) ∧ Below w1.heap.size w1 wr) (fun m _ _ => strLen m)
    case atStart => exact ⟨s, [], k, rfl, rfl, Nat.le_refl _, HK, Lib.hid (Lib.fresh_isBuilder 32 5 w1), (Below.refl _ _).alloc (Nat.le_refl _) _⟩
    case round =>
      clear HK hkn
      obtain ⟨m, bs, k, rfl, rfl, hms, hE, hbd, hb⟩ := hrel
      have hbs := hb.size
      have hml : m.data.toList.length = m.size := by simp
      obtain ⟨hkm, hbl⟩ := hE.out.bound
      rw [HSL.out, hml] at hbl
      rw [hml] at hkm
      obtain ⟨m1, hm1⟩ : ∃ m1, m.extract 0 (k + 1) = m1 := ⟨_, rfl⟩
      obtain ⟨m2, hm2⟩ : ∃ m2, m.extract (k + 1) m.size = m2 := ⟨_, rfl⟩
      have hm1b : m1.data.toList = m.data.toList.take (k + 1) := by rw [← hm1]; exact bytes_to m (k + 1)
      have hm2b : m2.data.toList = m.data.toList.drop (k + 1) := by rw [← hm2]; exact bytes_from m (k + 1)
      have hm1s : m1.size = k + 1 := by rw [← hm1, ByteArray.size_extract]; omega
      have hm2s : m2.size = m.size - (k + 1) := by rw [← hm2, ByteArray.size_extract]; omega
      have hkm' : (k : Int) + 1 ≤ (m.size : Int) := by omega
      have hsl1 : ∀ W, (Instr.slice 9 (Value.string m) none (some (Value.int IntKind.i64 ((k : Int) + 1))) none).run Tryd.prog W = .ok (.string m1) W := fun W => by
        have := run_slice_string_to_if (P := Tryd.prog) W 9 m .i64 ((k : Int) + 1) Tryd.underlying9
        rw [if_pos ⟨by omega, by omega⟩] at this
        rw [this]
        rw [← hm1]; rfl
      have hsl2 : ∀ W, (Instr.slice 9 (Value.string m) (some (Value.int IntKind.i64 ((k : Int) + 1))) none none).run Tryd.prog W = .ok (.string m2) W := fun W => by
        have := run_slice_string_from_if (P := Tryd.prog) W 9 m .i64 ((k : Int) + 1) Tryd.underlying9
        rw [if_pos ⟨by omega, by omega⟩] at this
        rw [this]
        rw [← hm2]; rfl
      have hm2le : m2.size ≤ s.size := by omega
      have hm2lt : Hid (m2.size < m.size) := Lib.hid (by omega)
      have HM2 := Lib.hid hm2b
      have HIX := Lib.hid (fun W => Index_calls m2 (⟨#[60, 47]⟩ : ByteArray) (by omega) (by decide) (by decide) W)
      have H1 := Lib.hid (show bs ++ m.data.toList.take (k + 1) = bs ++ m1.data.toList by rw [hm1b])
      have hbn : bs.length + m1.size + 1 ≤ 2 * s.size + 1 := by omega
      have hbn2 : bs.length + m1.size + m2.size ≤ 2 * s.size := by omega
      have hm1l : m1.data.toList.length = m1.size := by simp
      have HM1L := Lib.hid hm1l
      clear hm1 hm2 hm1b hm2s hm1s hml hm1l
      by_cases hlen : t.size ≤ m2.size
      · have hlen' : (t.size : Int) ≤ (m2.size : Int) := by omega
        obtain ⟨m3, hm3⟩ : ∃ m3, m2.extract 0 t.size = m3 := ⟨_, rfl⟩
        have hm3b : m3.data.toList = m2.data.toList.take t.size := by rw [← hm3]; exact bytes_to m2 t.size
        have hm3s : m3.size = t.size := by rw [← hm3, ByteArray.size_extract]; omega
        have hsl3 : ∀ W, (Instr.slice 9 (Value.string m2) none (some (Value.int IntKind.i64 (t.size : Int))) none).run Tryd.prog W = .ok (.string m3) W := fun W => by
          have := run_slice_string_to_if (P := Tryd.prog) W 9 m2 .i64 (t.size : Int) Tryd.underlying9
          rw [if_pos ⟨by omega, by omega⟩] at this
          rw [this]
          rw [← hm3]; rfl
        have hpe : pre t.data.toList (lowL (m.data.toList.drop (k + 1))) = decide (lowL m3.data.toList = t.data.toList) := by
          rw [pre_low, ← HM2.out, HTL.out, hm3b]
        have HEF := Lib.hid (fun W hW => EF_calls m3 t hm3s (by omega) HTT.out W hW)
        cases hp : decide (lowL m3.data.toList = t.data.toList) with
        | true =>
          rw [hp] at HEF hpe
          have HE := Lib.hid (show tagged t.data.toList s.data.toList = (bs ++ m1.data.toList ++ [92]) ++ tagged t.data.toList m2.data.toList by
            have h1 := hE.out
            rw [HTX.out] at h1 hpe
            rw [HTX.out, h1.step hpe, if_pos rfl, H1.out, HM2.out])
          clear hp hpe hm3 hm3b hm3s hm2b hE H1
          go_wp2_with fail
          refine (Bld_string w1.heap.size w1.heap.size _ m1 _ hbd.out (by rw [Lib.byteCells_length]; omega) hbs).mono ?_
          rintro e w5 ⟨rfl, hbd5, hb5, _⟩
          have hb5 := hb.trans hb5
          have hs5 := hb5.size
          have Hd5 : Hid (Lib.IsBuilder 32 5 w1.heap.size w1.heap.size (Lib.byteCells (bs ++ m1.data.toList)) w5) := by
            rw [Lib.byteCells_append]
            exact hbd5
          clear hbd5 hb hbs hbd
          have hF5 := Lib.hid (HF.out.below hb5)
          go_wp2_with fail
          refine (HEF.out _ hF5.out).mono ?_
          rintro e w6 ⟨rfl, hb6⟩
          have Hd6 := Lib.hid (bld_below Hd5.out hb6)
          have hb6 := hb5.trans (hb6.mono hs5)
          have hs6 := hb6.size
          clear Hd5 hb5 hs5 hF5
          go_wp2_with fail
          refine (Bld_byte w1.heap.size w1.heap.size _ 92 _ Hd6.out (by rw [Lib.byteCells_length, List.length_append, HM1L.out]; omega) hs6).mono ?_
          rintro e w10 ⟨rfl, hbd10, hb10, _⟩
          have hb6 := hb6.trans hb10
          have hs6 := hb6.size
          have Hd10 : Hid (Lib.IsBuilder 32 5 w1.heap.size w1.heap.size (Lib.byteCells (bs ++ m1.data.toList ++ [92])) w10) := by
            rw [Lib.byteCells_append]
            exact hbd10
          clear hbd10 Hd6
          go_wp2_with fail
          refine (HIX.out _).mono ?_
          rintro e w9 ⟨⟨r2, rfl, hr2⟩, rfl⟩
          rcases ix_lt hr2.out with ⟨rfl, hno⟩ | ⟨k2, rfl, hk1, hk2⟩
          · have HN := Lib.hid (show tagged t.data.toList s.data.toList = (bs ++ m1.data.toList ++ [92]) ++ m2.data.toList by rw [HE.out, HTX.out, tagged_none hno])
            clear hno hr2
            go_wp2_with fail
            refine (Bld_string w1.heap.size w1.heap.size _ m2 _ Hd10.out (by rw [Lib.byteCells_length]; simp [HM1L.out]; omega) hs6).mono ?_
            rintro e w7 ⟨rfl, hbd7, hb7, _⟩
            have hb7 := hb6.trans hb7
            have hs7 := hb7.size
            have Hd7 : Hid (Lib.IsBuilder 32 5 w1.heap.size w1.heap.size (Lib.byteCells (tagged t.data.toList s.data.toList)) w7) := by
              rw [HN.out, Lib.byteCells_append]
              exact hbd7
            clear hbd7
            go_wp2_with fail
            refine (Tryd.Builder_String_any w1.heap.size w1.heap.size _ _ Hd7.out hs7).mono ?_
            rintro e w8 ⟨rfl, hb8⟩
            go_wp2
            go_ret
            exact ⟨rfl, hb7.trans hb8⟩
          · have hkn : ¬ (k2 : Int) < 0 := by omega
            have HN := Lib.hid (show EscS t.data.toList s.data.toList m2.data.toList ((bs ++ m1.data.toList ++ [92])) k2 from ⟨hk1, hk2, HE.out⟩)
            clear hr2 hk1 hk2
            go_wp2
            go_roundw
            case rel => exact ⟨m2, _, k2, rfl, rfl, hm2le, HN, Hd10, hb6⟩
            case measure => simp only [strLen]; exact hm2lt.out
        | false =>
          rw [hp] at HEF hpe
          have HE := Lib.hid (show tagged t.data.toList s.data.toList = (bs ++ m1.data.toList) ++ tagged t.data.toList m2.data.toList by
            have h1 := hE.out
            rw [HTX.out] at h1 hpe
            rw [HTX.out, h1.step hpe, if_neg (by decide), H1.out, HM2.out, List.append_nil])
          clear hp hpe hm3 hm3b hm3s hm2b hE H1
          go_wp2_with fail
          refine (Bld_string w1.heap.size w1.heap.size _ m1 _ hbd.out (by rw [Lib.byteCells_length]; omega) hbs).mono ?_
          rintro e w5 ⟨rfl, hbd5, hb5, _⟩
          have hb5 := hb.trans hb5
          have hs5 := hb5.size
          have Hd5 : Hid (Lib.IsBuilder 32 5 w1.heap.size w1.heap.size (Lib.byteCells (bs ++ m1.data.toList)) w5) := by
            rw [Lib.byteCells_append]
            exact hbd5
          clear hbd5 hb hbs hbd
          have hF5 := Lib.hid (HF.out.below hb5)
          go_wp2_with fail
          refine (HEF.out _ hF5.out).mono ?_
          rintro e w6 ⟨rfl, hb6⟩
          have Hd6 := Lib.hid (bld_below Hd5.out hb6)
          have hb6 := hb5.trans (hb6.mono hs5)
          have hs6 := hb6.size
          clear Hd5 hb5 hs5 hF5
          go_wp2_with fail
          refine (HIX.out _).mono ?_
          rintro e w9 ⟨⟨r2, rfl, hr2⟩, rfl⟩
          rcases ix_lt hr2.out with ⟨rfl, hno⟩ | ⟨k2, rfl, hk1, hk2⟩
          · have HN := Lib.hid (show tagged t.data.toList s.data.toList = (bs ++ m1.data.toList) ++ m2.data.toList by rw [HE.out, HTX.out, tagged_none hno])
            clear hno hr2
            go_wp2_with fail
            refine (Bld_string w1.heap.size w1.heap.size _ m2 _ Hd6.out (by rw [Lib.byteCells_length]; simp [HM1L.out]; omega) hs6).mono ?_
            rintro e w7 ⟨rfl, hbd7, hb7, _⟩
            have hb7 := hb6.trans hb7
            have hs7 := hb7.size
            have Hd7 : Hid (Lib.IsBuilder 32 5 w1.heap.size w1.heap.size (Lib.byteCells (tagged t.data.toList s.data.toList)) w7) := by
              rw [HN.out, Lib.byteCells_append]
              exact hbd7
            clear hbd7
            go_wp2_with fail
            refine (Tryd.Builder_String_any w1.heap.size w1.heap.size _ _ Hd7.out hs7).mono ?_
            rintro e w8 ⟨rfl, hb8⟩
            go_wp2
            go_ret
            exact ⟨rfl, hb7.trans hb8⟩
          · have hkn : ¬ (k2 : Int) < 0 := by omega
            have HN := Lib.hid (show EscS t.data.toList s.data.toList m2.data.toList ((bs ++ m1.data.toList)) k2 from ⟨hk1, hk2, HE.out⟩)
            clear hr2 hk1 hk2
            go_wp2
            go_roundw
            case rel => exact ⟨m2, _, k2, rfl, rfl, hm2le, HN, Hd6, hb6⟩
            case measure => simp only [strLen]; exact hm2lt.out
      · have hlen' : ¬ (t.size : Int) ≤ (m2.size : Int) := by omega
        have hpe : pre t.data.toList (lowL (m.data.toList.drop (k + 1))) = false := by
          refine pre_short ?_
          rw [← hm2b, HTL.out]
          have : m2.data.toList.length = m2.size := by simp
          omega
        have HE := Lib.hid (show tagged t.data.toList s.data.toList = (bs ++ m1.data.toList) ++ tagged t.data.toList m2.data.toList by
          have h1 := hE.out
          rw [HTX.out] at h1 hpe
          rw [HTX.out, h1.step hpe, if_neg (by decide), H1.out, HM2.out, List.append_nil])
        clear hpe hm2b hE H1 hlen
        go_wp2_with fail
        refine (Bld_string w1.heap.size w1.heap.size _ m1 _ hbd.out (by rw [Lib.byteCells_length]; omega) hbs).mono ?_
        rintro e w5 ⟨rfl, hbd5, hb5, _⟩
        have hb5 := hb.trans hb5
        have hs5 := hb5.size
        have Hd5 : Hid (Lib.IsBuilder 32 5 w1.heap.size w1.heap.size (Lib.byteCells (bs ++ m1.data.toList)) w5) := by
          rw [Lib.byteCells_append]
          exact hbd5
        clear hbd5 hb hbs hbd
        have hb6 := hb5
        have hs6 := hs5
        clear hb5 hs5
        go_wp2_with fail
        refine (HIX.out _).mono ?_
        rintro e w9 ⟨⟨r2, rfl, hr2⟩, rfl⟩
        rcases ix_lt hr2.out with ⟨rfl, hno⟩ | ⟨k2, rfl, hk1, hk2⟩
        · have HN := Lib.hid (show tagged t.data.toList s.data.toList = (bs ++ m1.data.toList) ++ m2.data.toList by rw [HE.out, HTX.out, tagged_none hno])
          clear hno hr2
          go_wp2_with fail
          refine (Bld_string w1.heap.size w1.heap.size _ m2 _ Hd5.out (by rw [Lib.byteCells_length]; simp [HM1L.out]; omega) hs6).mono ?_
          rintro e w7 ⟨rfl, hbd7, hb7, _⟩
          have hb7 := hb6.trans hb7
          have hs7 := hb7.size
          have Hd7 : Hid (Lib.IsBuilder 32 5 w1.heap.size w1.heap.size (Lib.byteCells (tagged t.data.toList s.data.toList)) w7) := by
            rw [HN.out, Lib.byteCells_append]
            exact hbd7
          clear hbd7
          go_wp2_with fail
          refine (Tryd.Builder_String_any w1.heap.size w1.heap.size _ _ Hd7.out hs7).mono ?_
          rintro e w8 ⟨rfl, hb8⟩
          go_wp2
          go_ret
          exact ⟨rfl, hb7.trans hb8⟩
        · have hkn : ¬ (k2 : Int) < 0 := by omega
          have HN := Lib.hid (show EscS t.data.toList s.data.toList m2.data.toList ((bs ++ m1.data.toList)) k2 from ⟨hk1, hk2, HE.out⟩)
          clear hr2 hk1 hk2
          go_wp2
          go_roundw
          case rel => exact ⟨m2, _, k2, rfl, rfl, hm2le, HN, Hd5, hb6⟩
          case measure => simp only [strLen]; exact hm2lt.out

set_option maxRecDepth 100000 in
theorem EscT_calls (s t : ByteArray) (x : List UInt8) (htx : t.data.toList = 47 :: x) (ht : ∀ c ∈ t.data.toList, isTag c = true) (htz : t.size ≤ 1024) (hs : s.size ≤ 4294967296) (w : World) (hF : FoldTabs w) :
    Calls Tryd.prog 8 #[.string s, .string t] w fun e w' => e = .returned (.string ⟨(tagged t.data.toList s.data.toList).toArray⟩) ∧ Below w.heap.size w w' := by
  have HC := Lib.hid (Esc_calls s t x htx ht htz hs w hF)
  clear hF ht htx
  go_enter Tryd.func8, Tryd.ntmps8
  go_wp2_with fail
  refine HC.out.mono ?_
  rintro e w' ⟨rfl, hb⟩
  go_wp2
  go_ret
  exact ⟨rfl, hb⟩
end Go.Proofs.YtmepooboopncmaaDoor
