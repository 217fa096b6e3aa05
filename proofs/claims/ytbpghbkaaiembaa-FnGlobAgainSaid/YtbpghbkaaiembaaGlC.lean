/- The contract of 'ParseGlobPattern'. -/
import Derived.Test.YtbpghbkaaiembaaGlB
import Derived.Test.YtbpghbkaaiembaaShelf
import Derived.Deep.DeepCutAuto
import Derived.Laws.DeepStrings4
import Derived.Laws.Strings3
namespace Go.Proofs.Ytbpghbkaaiembaa
open Go.RowKit Stamp
set_option linter.unusedVariables false

theorem infoGP : (Try.prog.info? 39).map (fun i => (i.zero, i.size, i.bytes)) = some (some (.agg #[.string ByteArray.empty, .int .u8 0]), 2, 24) := by kernel_rfl

def bs (l : List UInt8) : ByteArray := ⟨l.toArray⟩
theorem bs_data (s : ByteArray) : bs s.data.toList = s := by unfold bs; simp
theorem bs_size (l : List UInt8) : (bs l).size = l.length := by simp [bs, ByteArray.size]
def gpCells (k : IntKind) (l : List (List UInt8 × Nat)) : List Value := l.flatMap fun x => [.string (bs x.1), .int k (x.2 : Int)]
theorem gpCells_snoc (k : IntKind) (l : List (List UInt8 × Nat)) (x : List UInt8 × Nat) : gpCells k (l ++ [x]) = gpCells k l ++ [.string (bs x.1), .int k (x.2 : Int)] := by simp [gpCells]
theorem oneCell_gp {k : IntKind} {a : ByteArray} {b : Int} : ∀ u ∈ [Value.string a, Value.int k b], u.oneCell' = true := by
  intro u hu
  simp only [List.mem_cons, List.not_mem_nil, or_false] at hu
  rcases hu with rfl | rfl <;> rfl

theorem indexByte_of {p R : List UInt8} {c : UInt8} (h : c ∉ p) : Lib.indexByte (p ++ c :: R) c = p.length := by
  obtain ⟨o, ho⟩ : ∃ o : Nat, Lib.indexByte (p ++ c :: R) c = o := by
    by_cases h1 : Lib.indexByte (p ++ c :: R) c = -1
    · exact absurd (by simp) (Lib.indexByte_none h1 p.length)
    · have := Lib.indexByte_ge (p ++ c :: R) c
      exact ⟨(Lib.indexByte (p ++ c :: R) c).toNat, by omega⟩
  obtain ⟨h1, h2⟩ := Lib.indexByte_some ho
  have : o = p.length := by
    rcases Nat.lt_trichotomy o p.length with hl | he | hg
    · rw [List.getElem?_append_left hl] at h1
      exact absurd (List.mem_of_getElem? h1) h
    · exact he
    · exact absurd (by simp) (h2 p.length hg)
  rw [ho, this]
theorem indexByte_no {l : List UInt8} {c : UInt8} (h : c ∉ l) : Lib.indexByte l c = -1 := by
  by_cases h1 : Lib.indexByte l c = -1
  · exact h1
  · have := Lib.indexByte_ge l c
    obtain ⟨h2, _⟩ := Lib.indexByte_some (l := l) (c := c) (o := (Lib.indexByte l c).toNat) (by omega)
    exact absurd (List.mem_of_getElem? h2) h

/-- what the loop keeps -/
def PRel (all : List (List UInt8 × Nat)) (r : ByteArray) (done : List (List UInt8 × Nat)) : Prop :=
  ∃ E t, r.data.toList = flat E t ∧ okParts E t ∧ done ++ partsOf E t = all
theorem PRel.cases {all : List (List UInt8 × Nat)} {r : ByteArray} {done : List (List UInt8 × Nat)} (h : PRel all r done) :
    (Lib.indexByte r.data.toList 42 = -1 ∧ done ++ [(r.data.toList, 0)] = all) ∨
    ∃ p c R, r.data.toList = p ++ (List.replicate c 42 ++ R) ∧ Lib.indexByte r.data.toList 42 = p.length ∧ 1 ≤ c ∧ R.head? ≠ some 42 ∧
      ∀ r' : ByteArray, r'.data.toList = R → PRel all r' (done ++ [(p, kindOf p c R)]) := by
  obtain ⟨E, t, h1, h2, h3⟩ := h
  match E, h1, h2, h3 with
  | [], h1, h2, h3 => exact .inl ⟨by rw [h1]; exact indexByte_no h2.2.1, by rw [h1]; exact h3⟩
  | (p, c) :: E, h1, h2, h3 =>
    have hp := h2.1 (p, c) (by simp)
    refine .inr ⟨p, c, flat E t, h1, ?_, hp.2, ?_, fun r' hr' => ⟨E, t, hr', h2.tail, by rw [← h3]; simp [partsOf]⟩⟩
    · rw [h1]
      obtain ⟨n, hn⟩ : ∃ n, c = n + 1 := ⟨c - 1, by have := hp.2; simp at this; omega⟩
      simp only [flat, hn, List.replicate_succ, List.cons_append]
      exact indexByte_of hp.1
    · exact head_not h2.tail (fun x hx => h2.2.2 x (by simpa using hx))

theorem before_cases {r : ByteArray} {p X : List UInt8} (h : r.data.toList = p ++ X) {a : Nat} (ha : a = p.length) :
    (a = 0 ∧ edgeE p = true) ∨ (0 < a ∧ ∃ hk : a - 1 < r.size, ((r[a - 1] = 47 ∧ edgeE p = true) ∨ (r[a - 1] = 92 ∧ edgeE p = true) ∨ (r[a - 1] ≠ 47 ∧ r[a - 1] ≠ 92 ∧ edgeE p = false))) := by
  rcases List.eq_nil_or_concat p with rfl | ⟨q, x, rfl⟩
  · exact .inl ⟨ha, rfl⟩
  · have hl : (q.concat x).length = q.length + 1 := by simp
    have hx : r.data.toList[a - 1]? = some x := by
      rw [h, ha, List.getElem?_append_left (by omega), hl, List.concat_eq_append]; simp
    obtain ⟨hk, hx⟩ := byte_of hx
    refine .inr ⟨by omega, hk, ?_⟩
    rw [hx]
    have he : edgeE (q.concat x) = slash x := by simp [edgeE]
    rw [he]
    by_cases h1 : x = 47
    · exact .inl ⟨h1, by rw [h1]; rfl⟩
    · by_cases h2 : x = 92
      · exact .inr (.inl ⟨h2, by rw [h2]; rfl⟩)
      · exact .inr (.inr ⟨h1, h2, by simp [slash, h1, h2]⟩)
theorem behind_cases {r : ByteArray} {p R : List UInt8} {c : Nat} (h : r.data.toList = p ++ (List.replicate c 42 ++ R)) {a : Nat} (ha : a = p.length) :
    (r.size = a + c ∧ edgeS R = true) ∨ (∃ hk : a + c < r.size, ((r[a + c] = 47 ∧ edgeS R = true) ∨ (r[a + c] = 92 ∧ edgeS R = true) ∨ (r[a + c] ≠ 47 ∧ r[a + c] ≠ 92 ∧ edgeS R = false))) := by
  match R, h with
  | [], h =>
    have := congrArg List.length h
    have e : r.data.toList.length = r.size := by simp
    rw [e] at this
    simp at this
    exact .inl ⟨by omega, rfl⟩
  | x :: R, h =>
    have hx : r.data.toList[a + c]? = some x := by
      rw [h, ha, List.getElem?_append_right (by omega), List.getElem?_append_right (by simp)]
      simp
    obtain ⟨hk, hx⟩ := byte_of hx
    refine .inr ⟨hk, ?_⟩
    rw [hx]
    have he : edgeS (x :: R) = slash x := rfl
    rw [he]
    by_cases h1 : x = 47
    · exact .inl ⟨h1, by rw [h1]; rfl⟩
    · by_cases h2 : x = 92
      · exact .inr (.inl ⟨h2, by rw [h2]; rfl⟩)
      · exact .inr (.inr ⟨h1, h2, by simp [slash, h1, h2]⟩)
theorem i_eq {x : UInt8} {n : Nat} (hn : n < 256) (h : x = UInt8.ofNat n) : ((x.toNat : Int) == (n : Int)) = true := by
  rw [h, UInt8.toNat_ofNat']; simp; omega
theorem i_ne {x : UInt8} {n : Nat} (hn : n < 256) (h : x ≠ UInt8.ofNat n) : ((x.toNat : Int) == (n : Int)) = false := by
  rw [beq_eq_false_iff_ne]; intro e
  exact h (UInt8.toNat_inj.1 (by rw [UInt8.toNat_ofNat']; omega))
theorem kind_two {p : List UInt8} {c : Nat} {R : List UInt8} (h1 : 1 < c) (h2 : edgeE p = true) (h3 : edgeS R = true) : decide (kindOf p c R = 2) = true := by
  unfold kindOf; rw [if_pos ⟨h1, h2, h3⟩]; rfl
theorem kind_c {p : List UInt8} {c : Nat} {R : List UInt8} (h1 : ¬ 1 < c) : decide (kindOf p c R = 2) = false := by
  unfold kindOf; rw [if_neg (fun h => h1 h.1)]; rfl
theorem kind_p {p : List UInt8} {c : Nat} {R : List UInt8} (h1 : edgeE p = false) : decide (kindOf p c R = 2) = false := by
  unfold kindOf; rw [if_neg (fun h => by rw [h1] at h; simp at h)]; rfl
theorem kind_r {p : List UInt8} {c : Nat} {R : List UInt8} (h1 : edgeS R = false) : decide (kindOf p c R = 2) = false := by
  unfold kindOf; rw [if_neg (fun h => by rw [h1] at h; simp at h)]; rfl

set_option maxRecDepth 100000 in
set_option maxHeartbeats 4000000 in
theorem Parse_calls (s : ByteArray) (hs : s.size ≤ 2147483647) (D : List (List UInt8 × Nat)) (t : List UInt8) (hl : s.data.toList = flat D t) (hD : okParts D t) (w : World) :
    Calls Try.prog 13 #[.string s] w fun e w' => ∃ A c, e = .returned (.slice A (partsOf D t).length c) ∧ (partsOf D t).length ≤ c ∧ c ≤ maxLen ∧ Holds w' w'.heap.size A (gpCells .u8 (partsOf D t)) ∧ Below w.heap.size w w' := by
  obtain ⟨i0, hi0, hz0, hz1, hz2⟩ := info_parts infoGP
  have hR : Hid (PRel (partsOf D t) s []) := Lib.hid ⟨D, t, hl, hD, rfl⟩
  generalize hall : partsOf D t = all at *
  clear hall hl hD
  go_enter Try.func13, Try.ntmps13
  go_wp2
  go_loopw [0, 2] (fun tx v wr => ∃ (r : ByteArray) (done : List (List UInt8 × Nat)), tx = .string r ∧ r.size + done.length ≤ s.size ∧ Hid (PRel all r done) ∧ wr.ownsRow w.heap.size 39 2 v done.length (gpCells .u8 done) ∧ Below w.heap.size w wr) (fun tx _ _ => strLen tx)
  case atStart => exact ⟨s, [], rfl, by simp, hR, World.ownsRow_nil _ _ _ _, Below.refl _ _⟩
  case round =>
    clear hR
    obtain ⟨r, done, rfl, hsz, HR, hown, hb⟩ := hrel
    have hbs := hb.size
    rcases HR.out.cases with ⟨h1, h2⟩ | ⟨p, c, R, h1, h2, h3, h4, h5⟩
    · have H1 := Lib.hid h1
      subst h2
      clear h1 HR
      go_wp2_with fail
      refine (Try.strings_IndexByte r 42 wr).mono ?_
      rintro e wr ⟨rfl, rfl⟩
      rw [show ((42 : Int).toNat.toUInt8) = 42 from rfl, H1.out]
      go_wp2_with (at_builtin
                   refine wpList_append_holds _ rfl (.tmp 10) (.tmp 13) _ rfl w.heap.size 39 i0 _ 2 24 Try.underlying35 hi0 hz0 hz1 hz2 rfl (by omega) _ done.length _ rfl (hown.alloc _) (wr.heap.size + 1) _ 1 1 [.string r, .int .u8 0] rfl rfl (Holds.pair _ _ _ _ rfl) oneCell_gp (by simp only [maxLen]; omega) (by omega) (by simp; omega) ?_
                   intro v1 w4 hown4 hg4 hat4)
      have hb4 := Below.grown (hb.alloc hbs (.cells #[.string r, .int .u8 0] 39)) hg4 (by simp; omega) (own_row_ge hown)
      obtain ⟨A1, c1, rfl, hc1, hc2, hh⟩ := own_form2 hown4
      go_ret
      refine ⟨A1, c1, by simp, by simpa using hc1, hc2, ?_, hb4⟩
      rw [gpCells_snoc, bs_data]; exact hh
    · have hrs : r.size = p.length + c + R.length := by
        have := congrArg List.length h1
        have e : r.data.toList.length = r.size := by simp
        rw [e] at this
        simp at this
        omega
      obtain ⟨a, HA⟩ : ∃ a, Hid (a = p.length) := ⟨_, Lib.hid rfl⟩
      rw [← HA.out] at h2 hrs
      have hrs1 : a + c + R.length ≤ r.size := by omega
      have hrs2 : r.size ≤ a + c + R.length := by omega
      clear hrs
      have H2 := Lib.hid h2
      have na : ¬ (a : Int) < 0 := by omega
      have BC := Lib.hid (before_cases h1 HA.out)
      have AC := Lib.hid (behind_cases h1 HA.out)
      have H6 := Lib.hid (show (r.extract 0 a) = bs p by
        apply ByteArray.ext; apply Array.ext'
        show (r.extract 0 a).data.toList = p
        rw [Lib.extract_eq, h1, HA.out]; simp)
      have H7 := Lib.hid (show (r.extract (a + c) r.size).data.toList = R by
        rw [Lib.extract_to_end, h1, HA.out, ← List.append_assoc, List.drop_left' (by simp)])
      have H5 := Lib.hid h5
      have H3 : ∀ m, m < c → r.data.toList[a + m]? = some 42 := fun m hm => run_at (R := R) (c := c) (by rw [h1, HA.out, List.drop_left]) hm
      have H4 := Lib.hid (show r.data.toList[a + c]? ≠ some 42 by rw [run_end (R := R) (c := c) (by rw [h1, HA.out, List.drop_left])]; exact h4)
      have HH3 := Lib.hid H3
      clear h1 h2 h4 h5 H3 HR
      go_wp2_with fail
      refine (Try.strings_IndexByte r 42 wr).mono ?_
      rintro e wr ⟨rfl, rfl⟩
      rw [show ((42 : Int).toNat.toUInt8) = 42 from rfl, H2.out]
      go_wp2
      go_loop [4] (fun n => ∃ m : Nat, 1 ≤ m ∧ m ≤ c ∧ n = .int .i64 m) (fun n => c - (intOf n).toNat)
      case atStart => exact ⟨1, Nat.le_refl _, h3, rfl⟩
      case round =>
        obtain ⟨m, hm1, hm2, rfl⟩ := hrel
        by_cases hm : m < c
        · obtain ⟨hk, hx⟩ := byte_of (HH3.out m hm)
          have hk' : (a : Int) + (m : Int) < (r.size : Int) := by omega
          have ht2 : ((r[a + m].toNat : Int) == 42) = true := by rw [hx]; rfl
          clear hx
          go_wp2
          go_round
          case rel => exact ⟨m + 1, by omega, by omega, by go_num⟩
          case measure => simp [intOf]; omega
        · obtain rfl : m = c := by omega
          have hac : a + m ≤ r.size := by omega
          have hac' : (a : Int) + (m : Int) ≤ (r.size : Int) := by omega
          have hsl1 : ∀ W, (Instr.slice 9 (Value.string r) none (some (Value.int IntKind.i64 (a : Int))) none).run Try.prog W = .ok (.string (r.extract 0 a)) W := fun W => by
            have := run_slice_string_to_if (P := Try.prog) W 9 r .i64 a Try.underlying9
            rw [if_pos ⟨by omega, by omega⟩] at this
            exact this
          have hsl2 : ∀ W, (Instr.slice 9 (Value.string r) (some (Value.int IntKind.i64 ((a : Int) + (m : Int)))) none none).run Try.prog W = .ok (.string (r.extract (a + m) r.size)) W := fun W => by
            have := run_slice_string_from_if (P := Try.prog) W 9 r .i64 ((a + m : Nat) : Int) Try.underlying9
            rw [if_pos ⟨by omega, by omega⟩] at this
            exact this
          have hsz2 : Hid ((r.extract (a + m) r.size).size = R.length) := Lib.hid (by rw [ByteArray.size_extract]; omega)
          by_cases hz : a + m < r.size
          · have hk' : (a : Int) + (m : Int) < (r.size : Int) := by omega
            have ht2 : ((r[a + m].toNat : Int) == 42) = false := by
              rw [beq_eq_false_iff_ne]; intro h
              exact H4.out (by rw [Lib.data_getElem? r _ hz]; exact congrArg some (UInt8.toNat_inj.1 (by show r[a + m].toNat = 42; omega)))
            have hze : ((a : Int) + (m : Int) == (r.size : Int)) = false := by simp; omega
            have AC2 : Hid ((r[a + m] = 47 ∧ edgeS R = true) ∨ (r[a + m] = 92 ∧ edgeS R = true) ∨ (r[a + m] ≠ 47 ∧ r[a + m] ≠ 92 ∧ edgeS R = false)) := by
              rcases AC.out with ⟨h, _⟩ | ⟨_, h⟩
              · omega
              · exact Lib.hid h
            clear AC
            go_upto_region 8 with fail
            go_cut [74] (fun v wx => v = .bool (decide (kindOf p m R = 2)) ∧ wx = wr)
            case first =>
              by_cases h1c : 1 < m
              · have q1 : (1 : Int) < (m : Int) := by omega
                rcases BC.out with ⟨e1, e2⟩ | ⟨e0, hk0, ⟨e1, e2⟩ | ⟨e1, e2⟩ | ⟨e1, e2, e3⟩⟩
                · have hpe := Lib.hid e2
                  have g1 : ((a : Int) == 0) = true := by simp; omega
                  clear e1 e2 BC
                  rcases AC2.out with ⟨e1, e2⟩ | ⟨e1, e2⟩ | ⟨e1, e2, e3⟩
                  · have HK := Lib.hid (kind_two h1c hpe.out e2)
                    have f1 : ((r[a + m].toNat : Int) == 47) = true := i_eq (n := 47) (by decide) e1
                    clear e1 e2
                    go_wp2
                    go_meet
                    exact ⟨by rw [HK.out], rfl⟩
                  · have HK := Lib.hid (kind_two h1c hpe.out e2)
                    have f1 : ((r[a + m].toNat : Int) == 92) = true := i_eq (n := 92) (by decide) e1
                    have f2 : ((r[a + m].toNat : Int) == 47) = false := by rw [e1]; rfl
                    clear e1 e2
                    go_wp2
                    go_meet
                    exact ⟨by rw [HK.out], rfl⟩
                  · have HK := Lib.hid (kind_r (p := p) (c := m) e3)
                    have f1 : ((r[a + m].toNat : Int) == 47) = false := i_ne (n := 47) (by decide) e1
                    have f2 : ((r[a + m].toNat : Int) == 92) = false := i_ne (n := 92) (by decide) e2
                    clear e1 e2 e3
                    go_wp2
                    go_meet
                    exact ⟨by rw [HK.out], rfl⟩
                · have hpe := Lib.hid e2
                  have g1 : ((a : Int) == 0) = false := by simp; omega
                  have g2 : ((r[a - 1].toNat : Int) == 47) = true := i_eq (n := 47) (by decide) e1
                  clear e1 e2 BC
                  rcases AC2.out with ⟨e1, e2⟩ | ⟨e1, e2⟩ | ⟨e1, e2, e3⟩
                  · have HK := Lib.hid (kind_two h1c hpe.out e2)
                    have f1 : ((r[a + m].toNat : Int) == 47) = true := i_eq (n := 47) (by decide) e1
                    clear e1 e2
                    go_wp2
                    go_meet
                    exact ⟨by rw [HK.out], rfl⟩
                  · have HK := Lib.hid (kind_two h1c hpe.out e2)
                    have f1 : ((r[a + m].toNat : Int) == 92) = true := i_eq (n := 92) (by decide) e1
                    have f2 : ((r[a + m].toNat : Int) == 47) = false := by rw [e1]; rfl
                    clear e1 e2
                    go_wp2
                    go_meet
                    exact ⟨by rw [HK.out], rfl⟩
                  · have HK := Lib.hid (kind_r (p := p) (c := m) e3)
                    have f1 : ((r[a + m].toNat : Int) == 47) = false := i_ne (n := 47) (by decide) e1
                    have f2 : ((r[a + m].toNat : Int) == 92) = false := i_ne (n := 92) (by decide) e2
                    clear e1 e2 e3
                    go_wp2
                    go_meet
                    exact ⟨by rw [HK.out], rfl⟩
                · have hpe := Lib.hid e2
                  have g1 : ((a : Int) == 0) = false := by simp; omega
                  have g2 : ((r[a - 1].toNat : Int) == 92) = true := i_eq (n := 92) (by decide) e1
                  have g3 : ((r[a - 1].toNat : Int) == 47) = false := by rw [e1]; rfl
                  clear e1 e2 BC
                  rcases AC2.out with ⟨e1, e2⟩ | ⟨e1, e2⟩ | ⟨e1, e2, e3⟩
                  · have HK := Lib.hid (kind_two h1c hpe.out e2)
                    have f1 : ((r[a + m].toNat : Int) == 47) = true := i_eq (n := 47) (by decide) e1
                    clear e1 e2
                    go_wp2
                    go_meet
                    exact ⟨by rw [HK.out], rfl⟩
                  · have HK := Lib.hid (kind_two h1c hpe.out e2)
                    have f1 : ((r[a + m].toNat : Int) == 92) = true := i_eq (n := 92) (by decide) e1
                    have f2 : ((r[a + m].toNat : Int) == 47) = false := by rw [e1]; rfl
                    clear e1 e2
                    go_wp2
                    go_meet
                    exact ⟨by rw [HK.out], rfl⟩
                  · have HK := Lib.hid (kind_r (p := p) (c := m) e3)
                    have f1 : ((r[a + m].toNat : Int) == 47) = false := i_ne (n := 47) (by decide) e1
                    have f2 : ((r[a + m].toNat : Int) == 92) = false := i_ne (n := 92) (by decide) e2
                    clear e1 e2 e3
                    go_wp2
                    go_meet
                    exact ⟨by rw [HK.out], rfl⟩
                · have g1 : ((a : Int) == 0) = false := by simp; omega
                  have g2 : ((r[a - 1].toNat : Int) == 47) = false := i_ne (n := 47) (by decide) e1
                  have g3 : ((r[a - 1].toNat : Int) == 92) = false := i_ne (n := 92) (by decide) e2
                  have HK := Lib.hid (kind_p (c := m) (R := R) e3)
                  clear e1 e2 e3 BC
                  go_wp2
                  go_meet
                  exact ⟨by rw [HK.out], rfl⟩
              · have q1 : ¬ (1 : Int) < (m : Int) := by omega
                have HK := Lib.hid (kind_c (p := p) (R := R) h1c)
                go_wp2
                go_meet
                exact ⟨by rw [HK.out], rfl⟩
            case rest =>
              obtain ⟨rfl, rfl⟩ := hcut
              have hkb := kindOf_bd p m R
              by_cases hk2 : kindOf p m R = 2
              · have hd : decide (kindOf p m R = 2) = true := by simpa using hk2
                obtain ⟨kk, HK⟩ : ∃ kk, Hid (kindOf p m R = kk ∧ kk = 2) := ⟨_, Lib.hid ⟨rfl, by omega⟩⟩
                clear hk2 hkb
                rw [hd]
                clear hd
                go_wp2_with (at_builtin
                             refine wpList_append_holds _ rfl (.tmp 75) (.tmp 81) _ rfl w.heap.size 39 i0 _ 2 24 Try.underlying35 hi0 hz0 hz1 hz2 rfl (by omega) _ done.length _ rfl (hown.alloc _) (wc.heap.size + 1) _ 1 1 [.string (r.extract 0 a), .int .u8 2] rfl rfl (Holds.pair _ _ _ _ rfl) oneCell_gp (by simp only [maxLen]; omega) (by omega) (by simp; omega) ?_
                             intro v1 w4 hown4 hg4 hat4)
                have hb4 := Below.grown (hb.alloc hbs (.cells #[.string (r.extract 0 a), .int .u8 2] 39)) hg4 (by simp; omega) (own_row_ge hown)
                exact ⟨⟨_, done ++ [(p, 2)], rfl, by rw [hsz2.out]; simp; omega, Lib.hid (by have := H5.out _ H7.out; rw [HK.out.1, HK.out.2] at this; exact this), by rw [gpCells_snoc, List.length_append, ← H6.out]; exact hown4, hb4⟩, by simp only [strLen]; rw [hsz2.out]; omega⟩
              · have hd : decide (kindOf p m R = 2) = false := by simpa using hk2
                obtain ⟨kk, HK⟩ : ∃ kk, Hid (kindOf p m R = kk ∧ kk = 1) := ⟨_, Lib.hid ⟨rfl, by omega⟩⟩
                clear hk2 hkb
                rw [hd]
                clear hd
                go_wp2_with (at_builtin
                             refine wpList_append_holds _ rfl (.tmp 75) (.tmp 81) _ rfl w.heap.size 39 i0 _ 2 24 Try.underlying35 hi0 hz0 hz1 hz2 rfl (by omega) _ done.length _ rfl (hown.alloc _) (wc.heap.size + 1) _ 1 1 [.string (r.extract 0 a), .int .u8 1] rfl rfl (Holds.pair _ _ _ _ rfl) oneCell_gp (by simp only [maxLen]; omega) (by omega) (by simp; omega) ?_
                             intro v1 w4 hown4 hg4 hat4)
                have hb4 := Below.grown (hb.alloc hbs (.cells #[.string (r.extract 0 a), .int .u8 1] 39)) hg4 (by simp; omega) (own_row_ge hown)
                exact ⟨⟨_, done ++ [(p, 1)], rfl, by rw [hsz2.out]; simp; omega, Lib.hid (by have := H5.out _ H7.out; rw [HK.out.1, HK.out.2] at this; exact this), by rw [gpCells_snoc, List.length_append, ← H6.out]; exact hown4, hb4⟩, by simp only [strLen]; rw [hsz2.out]; omega⟩
          · have hk' : decide ((a : Int) + (m : Int) < (r.size : Int)) = false := by simp; omega
            have hze : ((a : Int) + (m : Int) == (r.size : Int)) = true := by simp; omega
            have AC2 : Hid (edgeS R = true) := by
              rcases AC.out with ⟨_, h⟩ | ⟨h0, _⟩
              · exact Lib.hid h
              · omega
            clear AC
            go_upto_region 8 with fail
            go_cut [74] (fun v wx => v = .bool (decide (kindOf p m R = 2)) ∧ wx = wr)
            case first =>
              by_cases h1c : 1 < m
              · have q1 : (1 : Int) < (m : Int) := by omega
                rcases BC.out with ⟨e1, e2⟩ | ⟨e0, hk0, ⟨e1, e2⟩ | ⟨e1, e2⟩ | ⟨e1, e2, e3⟩⟩
                · have hpe := Lib.hid e2
                  have g1 : ((a : Int) == 0) = true := by simp; omega
                  clear e1 e2 BC
                  have HK := Lib.hid (kind_two h1c hpe.out AC2.out)
                  go_wp2
                  go_meet
                  exact ⟨by rw [HK.out], rfl⟩
                · have hpe := Lib.hid e2
                  have g1 : ((a : Int) == 0) = false := by simp; omega
                  have g2 : ((r[a - 1].toNat : Int) == 47) = true := i_eq (n := 47) (by decide) e1
                  clear e1 e2 BC
                  have HK := Lib.hid (kind_two h1c hpe.out AC2.out)
                  go_wp2
                  go_meet
                  exact ⟨by rw [HK.out], rfl⟩
                · have hpe := Lib.hid e2
                  have g1 : ((a : Int) == 0) = false := by simp; omega
                  have g2 : ((r[a - 1].toNat : Int) == 92) = true := i_eq (n := 92) (by decide) e1
                  have g3 : ((r[a - 1].toNat : Int) == 47) = false := by rw [e1]; rfl
                  clear e1 e2 BC
                  have HK := Lib.hid (kind_two h1c hpe.out AC2.out)
                  go_wp2
                  go_meet
                  exact ⟨by rw [HK.out], rfl⟩
                · have g1 : ((a : Int) == 0) = false := by simp; omega
                  have g2 : ((r[a - 1].toNat : Int) == 47) = false := i_ne (n := 47) (by decide) e1
                  have g3 : ((r[a - 1].toNat : Int) == 92) = false := i_ne (n := 92) (by decide) e2
                  have HK := Lib.hid (kind_p (c := m) (R := R) e3)
                  clear e1 e2 e3 BC
                  go_wp2
                  go_meet
                  exact ⟨by rw [HK.out], rfl⟩
              · have q1 : ¬ (1 : Int) < (m : Int) := by omega
                have HK := Lib.hid (kind_c (p := p) (R := R) h1c)
                go_wp2
                go_meet
                exact ⟨by rw [HK.out], rfl⟩
            case rest =>
              obtain ⟨rfl, rfl⟩ := hcut
              have hkb := kindOf_bd p m R
              by_cases hk2 : kindOf p m R = 2
              · have hd : decide (kindOf p m R = 2) = true := by simpa using hk2
                obtain ⟨kk, HK⟩ : ∃ kk, Hid (kindOf p m R = kk ∧ kk = 2) := ⟨_, Lib.hid ⟨rfl, by omega⟩⟩
                clear hk2 hkb
                rw [hd]
                clear hd
                go_wp2_with (at_builtin
                             refine wpList_append_holds _ rfl (.tmp 75) (.tmp 81) _ rfl w.heap.size 39 i0 _ 2 24 Try.underlying35 hi0 hz0 hz1 hz2 rfl (by omega) _ done.length _ rfl (hown.alloc _) (wc.heap.size + 1) _ 1 1 [.string (r.extract 0 a), .int .u8 2] rfl rfl (Holds.pair _ _ _ _ rfl) oneCell_gp (by simp only [maxLen]; omega) (by omega) (by simp; omega) ?_
                             intro v1 w4 hown4 hg4 hat4)
                have hb4 := Below.grown (hb.alloc hbs (.cells #[.string (r.extract 0 a), .int .u8 2] 39)) hg4 (by simp; omega) (own_row_ge hown)
                exact ⟨⟨_, done ++ [(p, 2)], rfl, by rw [hsz2.out]; simp; omega, Lib.hid (by have := H5.out _ H7.out; rw [HK.out.1, HK.out.2] at this; exact this), by rw [gpCells_snoc, List.length_append, ← H6.out]; exact hown4, hb4⟩, by simp only [strLen]; rw [hsz2.out]; omega⟩
              · have hd : decide (kindOf p m R = 2) = false := by simpa using hk2
                obtain ⟨kk, HK⟩ : ∃ kk, Hid (kindOf p m R = kk ∧ kk = 1) := ⟨_, Lib.hid ⟨rfl, by omega⟩⟩
                clear hk2 hkb
                rw [hd]
                clear hd
                go_wp2_with (at_builtin
                             refine wpList_append_holds _ rfl (.tmp 75) (.tmp 81) _ rfl w.heap.size 39 i0 _ 2 24 Try.underlying35 hi0 hz0 hz1 hz2 rfl (by omega) _ done.length _ rfl (hown.alloc _) (wc.heap.size + 1) _ 1 1 [.string (r.extract 0 a), .int .u8 1] rfl rfl (Holds.pair _ _ _ _ rfl) oneCell_gp (by simp only [maxLen]; omega) (by omega) (by simp; omega) ?_
                             intro v1 w4 hown4 hg4 hat4)
                have hb4 := Below.grown (hb.alloc hbs (.cells #[.string (r.extract 0 a), .int .u8 1] 39)) hg4 (by simp; omega) (own_row_ge hown)
                exact ⟨⟨_, done ++ [(p, 1)], rfl, by rw [hsz2.out]; simp; omega, Lib.hid (by have := H5.out _ H7.out; rw [HK.out.1, HK.out.2] at this; exact this), by rw [gpCells_snoc, List.length_append, ← H6.out]; exact hown4, hb4⟩, by simp only [strLen]; rw [hsz2.out]; omega⟩
end Go.Proofs.Ytbpghbkaaiembaa
