/- The contract of 'EncodeStringAsPercentEscapedDataURL'. -/
import Derived.Test.YtjinfkhnijokmaaDoorPcA
import Derived.Test.YtjinfkhnijokmaaDoorPcQ
import Derived.Test.YtjinfkhnijokmaaDoorBld
import Derived.Test.YtjinfkhnijokmaaDoorShelf
import Derived.Deep.DeepCutAuto
import Derived.Deep.CutBlock
namespace Go.Proofs.YtjinfkhnijokmaaDoor
open Go.RowKit Stamp
set_option linter.unusedVariables false

def EncPost (mime l : List UInt8) (w : World) (e : Ending) (w' : World) : Prop :=
  e = .returned (.tuple #[.string (if validB l then ⟨(pcUrl mime l).toArray⟩ else ⟨#[]⟩), .bool (validB l)]) ∧ Below w.heap.size w w'
theorem encPost_no {mime l : List UInt8} {w w' : World} (h : validB l = false) (hb : Below w.heap.size w w') : EncPost mime l w (.returned (.tuple #[.string ⟨#[]⟩, .bool false])) w' := by
  unfold EncPost; rw [h]; exact ⟨rfl, hb⟩
theorem encPost_yes {mime l : List UInt8} {w w' : World} {u : List UInt8} (hu : u = pcUrl mime l) (h : validB l = true) (hb : Below w.heap.size w w') : EncPost mime l w (.returned (.tuple #[.string ⟨u.toArray⟩, .bool true])) w' := by
  unfold EncPost; rw [h, hu]; exact ⟨rfl, hb⟩
theorem and15 (a : Nat) (h1 : a ≤ 255) : bits .and .i32 (a : Int) 15 = ((a % 16 : Nat) : Int) := by
  have : ∀ x : Fin 256, bits .and .i32 (x.val : Int) 15 = ((x.val % 16 : Nat) : Int) := by decide +kernel
  exact this ⟨a, by omega⟩
theorem hexs (d : Nat) (h : (d : Int) < 16) : ((⟨#[48, 49, 50, 51, 52, 53, 54, 55, 56, 57, 65, 66, 67, 68, 69, 70]⟩ : ByteArray)[d]'(by show d < 16; omega)).toNat = (hd d).toNat := by
  have : ∀ x : Fin 16, ((⟨#[48, 49, 50, 51, 52, 53, 54, 55, 56, 57, 65, 66, 67, 68, 69, 70]⟩ : ByteArray)[x.1]'(x.2)).toNat = (hd x.1).toNat := by decide
  exact this ⟨d, by omega⟩
theorem cut_bytes (s : ByteArray) (r k : Nat) : (s.extract r k).data.toList = (s.data.toList.drop r).take (k - r) := by
  rw [ByteArray.data_extract, Array.toList_extract, List.extract_eq_take_drop]
theorem decGo_eq (m : ByteArray) (h : m.data.toList ≠ []) : Lib.decodeGo m = Utf8.decode m 0 := by
  unfold Lib.decodeGo
  rw [if_neg]
  intro e
  exact h (List.eq_nil_of_length_eq_zero (by have : m.data.size = 0 := e; simpa using this))
theorem bld_below {T e : TypeId} {B b : Nat} {bs : List Value} {w w' : World} (h : Lib.IsBuilder T e B b bs w) (hb : Below w.heap.size w w') : Lib.IsBuilder T e B b bs w' := by
  have k : ∀ {p : Value}, Lib.BuilderAt T e B b p bs w → Lib.BuilderAt T e B b p bs w' := fun {p} h => by
    have hlt := h.lt
    obtain ⟨hB, v, hbk, hown, hne⟩ := h
    exact ⟨hB, v, (hb.block b hlt).trans hbk, own_below hown hb, hne⟩
  rcases h with h | h
  · exact .inl (k h)
  · exact .inr (k h)
theorem two_next {s : ByteArray} {k p : Nat} {t : List UInt8} (h : p < 128) (hx : s.data.toList.drop k = enc p ++ t) (h2 : k + 2 < s.size) : ∃ r, t = (s[k + 1]'(by omega)) :: (s[k + 2]'h2) :: r := by
  rw [drop_at (bytes_at s k (by omega)), enc_low h] at hx
  injection hx with _ hx
  rw [drop_at (bytes_at s (k + 1) (by omega)), drop_at (bytes_at s (k + 2) (by omega))] at hx
  exact ⟨_, hx.symm⟩

set_option maxRecDepth 100000 in
set_option maxHeartbeats 16000000 in
theorem Enc_calls (mime s : ByteArray) (hm : mime.size ≤ 2147483647) (hs : s.size ≤ 2147483647) (w : World) (hT : Lib.Utf8Tabs 0 1 w) :
    Calls Tryd.prog 11 #[.string mime, .string s] w (EncPost mime.data.toList s.data.toList w) := by
  have HT := Lib.hid hT
  clear hT
  go_enter Tryd.func11, Tryd.ntmps11
  go_wp2_with fail
  refine (Bld_string w.heap.size w.heap.size [] (⟨#[100, 97, 116, 97, 58]⟩ : ByteArray) _ (Lib.fresh_isBuilder 34 5 w) (by simp; show 5 ≤ _; omega) (by simp)).mono ?_
  rintro e w1 ⟨rfl, hd1, hb1, _⟩
  have hb1 := ((Below.refl _ _).alloc (Nat.le_refl _) _).trans hb1
  have hs1 := hb1.size
  go_wp2_with fail
  refine (Bld_string w.heap.size w.heap.size _ mime _ hd1 (by simp [Lib.strCells_length]; show 5 + _ ≤ _; omega) hs1).mono ?_
  rintro e w2 ⟨rfl, hd2, hb2, _⟩
  have hb2 := hb1.trans hb2
  have hs2 := hb2.size
  clear hb1 hs1 hd1
  go_wp2_with fail
  refine (Bld_byte w.heap.size w.heap.size _ 44 _ hd2 (by simp [Lib.strCells_length]; show 5 + mime.size ≤ _; omega) hs2).mono ?_
  rintro e w3 ⟨rfl, hd3, hb3, _⟩
  have hb3 := hb2.trans hb3
  have hs3 := hb3.size
  clear hb2 hs2 hd2
  have Hd3 : Hid (Lib.IsBuilder 34 5 w.heap.size w.heap.size (Lib.byteCells (pcPre mime.data.toList)) w3) := by
    rw [pcPre, Lib.byteCells_append, Lib.byteCells_append]
    exact hd3
  clear hd3
  obtain ⟨ts, hts⟩ := tail_ex s.data.toList
  have HTS := Lib.hid hts
  have hl0 : s.data.toList.length = s.size := by simp
  have hts1 : ts ≤ s.size := by have := hts.1; omega
  have HL0 := Lib.hid hl0
  clear hts hl0
  go_upto_block 0 with fail
  go_cut [11] (fun s11 wx => s11 = .int .i64 (ts : Int) ∧ wx = w3)
  case first =>
    go_wp2_with fail
    go_loop [11] (fun x => ∃ k : Nat, x = .int .i64 (k : Int) ∧ ts ≤ k ∧ k ≤ s.size) (fun x => (intOf x).toNat)
    case atStart => exact ⟨s.size, rfl, hts1, Nat.le_refl _⟩
    case round =>
      obtain ⟨k, rfl, hk1, hk2⟩ := hrel
      by_cases hlt : ts < k
      · have h0 : (0 : Int) < (k : Int) := by omega
        have hlt1 : k - 1 < s.size := by omega
        have hsm : sm (s[k - 1]'hlt1) = true := by
          have h1 := HTS.out.2.1
          rw [List.all_eq_true] at h1
          apply h1
          refine List.mem_of_getElem? (i := k - 1 - ts) ?_
          rw [List.getElem?_drop, show ts + (k - 1 - ts) = k - 1 by omega]
          exact bytes_at s _ hlt1
        simp [sm] at hsm
        obtain ⟨⟨⟨q1, q2⟩, q3⟩, q4⟩ := hsm
        have t32 : decide ((32 : Int) < ((s[k - 1]'hlt1).toNat : Int)) = false := by simp; omega
        have t9 : (((s[k - 1]'hlt1).toNat : Int) == 9) = false := by simp; omega
        have t10 : (((s[k - 1]'hlt1).toNat : Int) == 10) = false := by simp; omega
        have t13 : (((s[k - 1]'hlt1).toNat : Int) == 13) = false := by simp; omega
        have e2 : (k : Int) - 1 < (s.size : Int) := by omega
        have e3 : (1 : Int) ≤ (k : Int) := by omega
        clear q1 q2 q3 q4
        go_wp2
        go_round
        case rel => exact ⟨k - 1, by rw [show ((k - 1 : Nat) : Int) = (k : Int) - 1 by omega], by omega, by omega⟩
        case measure => simp [intOf]; omega
      · obtain rfl : ts = k := by omega
        by_cases h00 : ts = 0
        · have h0 : ¬ (0 : Int) < (ts : Int) := by omega
          go_wp2
          go_meet
          exact ⟨by rw [h00]; rfl, rfl⟩
        · have h0 : (0 : Int) < (ts : Int) := by omega
          have hlt1 : ts - 1 < s.size := by omega
          have hsm : sm (s[ts - 1]'hlt1) = false := by
            rcases HTS.out.2.2 with h1 | ⟨c, h1, h2⟩
            · exact absurd h1 h00
            · rw [bytes_at s _ hlt1] at h1
              injection h1 with h1
              rw [h1]; exact h2
          have e2 : (ts : Int) - 1 < (s.size : Int) := by omega
          have e3 : (1 : Int) ≤ (ts : Int) := by omega
          simp [sm] at hsm
          by_cases c32 : 32 < (s[ts - 1]'hlt1).toNat
          · have t32 : (32 : Int) < ((s[ts - 1]'hlt1).toNat : Int) := by omega
            clear hsm c32
            go_wp2
            go_meet
            exact ⟨rfl, rfl⟩
          · have t32 : decide ((32 : Int) < ((s[ts - 1]'hlt1).toNat : Int)) = false := by simp; omega
            rcases (show (s[ts - 1]'hlt1).toNat = 9 ∨ (s[ts - 1]'hlt1).toNat = 10 ∨ (s[ts - 1]'hlt1).toNat = 13 by omega) with h9 | h9 | h9
            · have t9 : (((s[ts - 1]'hlt1).toNat : Int) == 9) = true := by simp; omega
              clear hsm c32 h9
              go_wp2
              go_meet
              exact ⟨rfl, rfl⟩
            · have t9 : (((s[ts - 1]'hlt1).toNat : Int) == 9) = false := by simp; omega
              have t10 : (((s[ts - 1]'hlt1).toNat : Int) == 10) = true := by simp; omega
              clear hsm c32 h9
              go_wp2
              go_meet
              exact ⟨rfl, rfl⟩
            · have t9 : (((s[ts - 1]'hlt1).toNat : Int) == 9) = false := by simp; omega
              have t10 : (((s[ts - 1]'hlt1).toNat : Int) == 10) = false := by simp; omega
              have t13 : (((s[ts - 1]'hlt1).toNat : Int) == 13) = true := by simp; omega
              clear hsm c32 h9
              go_wp2
              go_meet
              exact ⟨rfl, rfl⟩
  case rest =>
    obtain ⟨rfl, rfl⟩ := hcut
    go_wp2_with fail
    go_loopw [9, 10] (fun i rs wr => ∃ (k r : Nat) (bs : List UInt8) (done : List Nat), i = .int .i64 (k : Int) ∧ rs = .int .i64 (r : Int) ∧ r ≤ k ∧ k ≤ s.size ∧ Hid (Two mime.data.toList s.data.toList bs r k done) ∧ Hid (Lib.IsBuilder 34 5 w.heap.size w.heap.size (Lib.byteCells bs) wr) ∧ Below w.heap.size w wr) (fun i _ _ => s.size - (intOf i).toNat)
    case atStart => exact ⟨0, 0, pcPre mime.data.toList, [], rfl, rfl, Nat.le_refl _, Nat.zero_le _, Lib.hid ⟨Esc.start _ _, rfl, by simp⟩, Hd3, hb3⟩
    case round =>
      clear Hd3 hb3 hs3
      obtain ⟨k, r, bs, done, rfl, rfl, hrk, hk, h2, hbd, hb⟩ := hrel
      have hbs := hb.size
      have hbn := h2.out.bound (by have := HL0.out; simp; omega) (by have := HL0.out; omega)
      by_cases hlt : k < s.size
      · have hlt' : (k : Int) < (s.size : Int) := by omega
        have hmd : (s.extract k s.size).data.toList = s.data.toList.drop k := by
          rw [cut_bytes, List.take_of_length_le (by rw [List.length_drop, HL0.out]; exact Nat.le_refl _)]
        have hne : s.data.toList.drop k ≠ [] := by
          intro e
          have := congrArg List.length e
          rw [List.length_drop, HL0.out] at this
          simp at this; omega
        have hdg := decGo_eq (s.extract k s.size) (by rw [hmd]; exact hne)
        rcases dec_cases (s.extract k s.size) (by rw [hmd]; exact hne) with ⟨p, t, hp, hx, hdc⟩ | ⟨hdc, hbad⟩
        · rw [hmd] at hx
          obtain ⟨K, hKl⟩ : ∃ K, K = (enc p).length := ⟨_, rfl⟩
          rw [← hKl] at hdc
          have hK := enc_len p
          rw [← hKl] at hK
          have HC : Hid (∀ W, Lib.Utf8Tabs 0 1 W → Calls Tryd.prog 18 #[.string (s.extract k s.size)] W fun e w' => e = .returned (.tuple #[.int .i32 (p : Int), .int .i64 (K : Int)]) ∧ Below W.heap.size W w') := Lib.hid fun W hT => by
            have := Tryd.utf8_DecodeRuneInString (s.extract k s.size) W hT
            rw [hdg, hdc] at this
            exact this
          have hkK : k + K ≤ s.size := by
            have := congrArg List.length hx
            rw [List.length_drop, HL0.out, List.length_append, ← hKl] at this
            omega
          have HX := Lib.hid hx
          have HK := Lib.hid hKl
          have HP := Lib.hid hp
          have hkK' : (k : Int) + (K : Int) ≤ (s.size : Int) := by omega
          obtain ⟨hK1, hK4⟩ := hK
          have hp1 : p ≤ 1114111 := hp.1
          have hTw := Lib.hid (Go.Proofs.Utf8Tabs_below HT.out hb)
          clear hx hKl hmd hne hdg hdc hp
          by_cases h128 : 128 ≤ p
          · have HE := Lib.hid (escL_enc hp1 h128)
            have HN := Lib.hid (keep_two h2.out HP.out HX.out HK.out (HE.out t))
            have hkt : (k : Int) < (ts : Int) := by
              rcases Nat.lt_or_ge k ts with h | h
              · omega
              · have := tail_low HTS.out h HX.out hp1; omega
            have kt : decide (ts ≤ k) = false := by simp; omega
            have t9 : ((p : Int) == 9) = false := by simp; omega
            have t10 : ((p : Int) == 10) = false := by simp; omega
            have t13 : ((p : Int) == 13) = false := by simp; omega
            have t35 : ((p : Int) == 35) = false := by simp; omega
            have t37 : ((p : Int) == 37) = false := by simp; omega
            by_cases hbad : p = 65533
            · have tb : ((p : Int) == 65533) = true := by simp; omega
              have tk : ((K : Int) == 1) = false := by
                have : K = 3 := by rw [HK.out, hbad]; rfl
                simp; omega
              clear hbad h128 kt
              go_wp2_with fail
              refine (HC.out _ hTw.out).mono ?_
              rintro e w4 ⟨rfl, hb4⟩
              have hbd4 := Lib.hid (bld_below hbd.out hb4)
              have hb4 := hb.trans (hb4.mono hbs)
              have hs4 := hb4.size
              clear hbd hb hbs HC hTw
              go_wp2
              go_roundw
              case rel => exact ⟨k + K, r, bs, done ++ [p], by go_num, rfl, by omega, hkK, HN, hbd4, hb4⟩
              case measure => simp [intOf]; omega
            · have tb : ((p : Int) == 65533) = false := by simp; omega
              clear hbad h128 kt
              go_wp2_with fail
              refine (HC.out _ hTw.out).mono ?_
              rintro e w4 ⟨rfl, hb4⟩
              have hbd4 := Lib.hid (bld_below hbd.out hb4)
              have hb4 := hb.trans (hb4.mono hbs)
              have hs4 := hb4.size
              clear hbd hb hbs HC hTw
              go_wp2
              go_roundw
              case rel => exact ⟨k + K, r, bs, done ++ [p], by go_num, rfl, by omega, hkK, HN, hbd4, hb4⟩
              case measure => simp [intOf]; omega
          · have h128 : p < 128 := by omega
            have tb : ((p : Int) == 65533) = false := by simp; omega
            by_cases c9 : p = 9
            · have t9 : ((p : Int) == 9) = true := by simp; omega
              have HE := Lib.hid (escC_is9 t c9)
              clear c9
              obtain ⟨d0, d1, e0, e1, l0, l1, HD⟩ : ∃ d0 d1 : Nat, (p : Int) / 16 = (d0 : Int) ∧ bits .and .i32 (p : Int) 15 = (d1 : Int) ∧ (d0 : Int) < 16 ∧ (d1 : Int) < 16 ∧ Hid (d0 = p / 16 ∧ d1 = p % 16) := ⟨p / 16, p % 16, by omega, and15 p (by omega), by omega, by omega, Lib.hid ⟨rfl, rfl⟩⟩
              have x0 := hexs d0 l0
              have x1 := hexs d1 l1
              by_cases hr : r < k
              · have hr' : (r : Int) < (k : Int) := by omega
                have HN := Lib.hid (esc_two h2.out HP.out HX.out HK.out h128 HE.out HD.out)
                clear h128
                go_wp2_with fail
                refine (HC.out _ hTw.out).mono ?_
                rintro e w4 ⟨rfl, hb4⟩
                have hbd4 := Lib.hid (bld_below hbd.out hb4)
                have hb4 := hb.trans (hb4.mono hbs)
                have hs4 := hb4.size
                clear hbd hb hbs HC hTw
                go_wp2_with fail
                refine (Bld_string w.heap.size w.heap.size _ (s.extract r k) _ hbd4.out (by rw [Lib.byteCells_length, ByteArray.size_extract]; omega) hs4).mono ?_
                rintro e w5 ⟨rfl, hbd5, hb5, _⟩
                have hb5 := hb4.trans hb5
                have hs5 := hb5.size
                have Hd5 : Hid (Lib.IsBuilder 34 5 w.heap.size w.heap.size (Lib.byteCells (bs ++ (s.data.toList.drop r).take (k - r))) w5) := by
                  rw [Lib.byteCells_append, ← cut_bytes]
                  exact hbd5
                have hln : (bs ++ (s.data.toList.drop r).take (k - r)).length ≤ 8589934600 := by
                  have := List.length_take_le (k - r) (s.data.toList.drop r)
                  rw [List.length_append]; omega
                clear hbd5 hb4 hs4 hbd4
                obtain ⟨cs, Hcs⟩ : ∃ cs, Hid (cs = bs ++ (s.data.toList.drop r).take (k - r)) := ⟨_, Lib.hid rfl⟩
                rw [← Hcs.out] at Hd5 HN hln
                go_wp2_with fail
                refine (Bld_byte w.heap.size w.heap.size _ 37 _ Hd5.out (by rw [Lib.byteCells_length]; simp; omega) hs5).mono ?_
                rintro e w6 ⟨rfl, hbd6, hb6, _⟩
                have hb6 := hb5.trans hb6
                have hs6 := hb6.size
                have Hd6 := Lib.hid hbd6
                clear hbd6 hb5 hs5 Hd5
                go_wp2_with fail
                refine (Bld_byte w.heap.size w.heap.size _ ((hd d0).toNat : Int) _ Hd6.out (by rw [List.length_append, Lib.byteCells_length]; simp; omega) hs6).mono ?_
                rintro e w7 ⟨rfl, hbd7, hb7, _⟩
                have hb7 := hb6.trans hb7
                have hs7 := hb7.size
                have Hd7 := Lib.hid hbd7
                clear hbd7 hb6 hs6 Hd6
                go_wp2_with fail
                refine (Bld_byte w.heap.size w.heap.size _ ((hd d1).toNat : Int) _ Hd7.out (by rw [List.length_append, List.length_append, Lib.byteCells_length]; simp; omega) hs7).mono ?_
                rintro e w8 ⟨rfl, hbd8, hb8, _⟩
                have hb8 := hb7.trans hb8
                have Hd8 : Hid (Lib.IsBuilder 34 5 w.heap.size w.heap.size (Lib.byteCells (cs ++ [37] ++ [hd d0] ++ [hd d1])) w8) := by
                  rw [Lib.byteCells_append, Lib.byteCells_append, Lib.byteCells_append]
                  exact hbd8
                clear hbd8 hb7 hs7 Hd7
                go_wp2
                go_roundw
                case rel => exact ⟨k + K, k + K, _, done ++ [p], by go_num, by go_num, by omega, hkK, HN, Hd8, hb8⟩
                case measure => simp [intOf]; omega
              · have hr' : ¬ (r : Int) < (k : Int) := by omega
                have HN := Lib.hid (esc_two0 h2.out HP.out HX.out HK.out h128 HE.out HD.out hr)
                clear h128
                go_wp2_with fail
                refine (HC.out _ hTw.out).mono ?_
                rintro e w4 ⟨rfl, hb4⟩
                have hbd4 := Lib.hid (bld_below hbd.out hb4)
                have hb4 := hb.trans (hb4.mono hbs)
                have hs4 := hb4.size
                clear hbd hb hbs HC hTw
                have hb5 := hb4
                have hs5 := hs4
                have Hd5 := hbd4
                have hln : bs.length ≤ 8589934600 := by omega
                clear hb4 hs4 hbd4
                go_wp2_with fail
                refine (Bld_byte w.heap.size w.heap.size _ 37 _ Hd5.out (by rw [Lib.byteCells_length]; simp; omega) hs5).mono ?_
                rintro e w6 ⟨rfl, hbd6, hb6, _⟩
                have hb6 := hb5.trans hb6
                have hs6 := hb6.size
                have Hd6 := Lib.hid hbd6
                clear hbd6 hb5 hs5 Hd5
                go_wp2_with fail
                refine (Bld_byte w.heap.size w.heap.size _ ((hd d0).toNat : Int) _ Hd6.out (by rw [List.length_append, Lib.byteCells_length]; simp; omega) hs6).mono ?_
                rintro e w7 ⟨rfl, hbd7, hb7, _⟩
                have hb7 := hb6.trans hb7
                have hs7 := hb7.size
                have Hd7 := Lib.hid hbd7
                clear hbd7 hb6 hs6 Hd6
                go_wp2_with fail
                refine (Bld_byte w.heap.size w.heap.size _ ((hd d1).toNat : Int) _ Hd7.out (by rw [List.length_append, List.length_append, Lib.byteCells_length]; simp; omega) hs7).mono ?_
                rintro e w8 ⟨rfl, hbd8, hb8, _⟩
                have hb8 := hb7.trans hb8
                have Hd8 : Hid (Lib.IsBuilder 34 5 w.heap.size w.heap.size (Lib.byteCells (bs ++ [37] ++ [hd d0] ++ [hd d1])) w8) := by
                  rw [Lib.byteCells_append, Lib.byteCells_append, Lib.byteCells_append]
                  exact hbd8
                clear hbd8 hb7 hs7 Hd7
                go_wp2
                go_roundw
                case rel => exact ⟨k + K, k + K, _, done ++ [p], by go_num, by go_num, by omega, hkK, HN, Hd8, hb8⟩
                case measure => simp [intOf]; omega
            have t9 : ((p : Int) == 9) = false := by simp; omega
            by_cases c10 : p = 10
            · have t10 : ((p : Int) == 10) = true := by simp; omega
              have HE := Lib.hid (escC_is10 t c10)
              clear c10
              obtain ⟨d0, d1, e0, e1, l0, l1, HD⟩ : ∃ d0 d1 : Nat, (p : Int) / 16 = (d0 : Int) ∧ bits .and .i32 (p : Int) 15 = (d1 : Int) ∧ (d0 : Int) < 16 ∧ (d1 : Int) < 16 ∧ Hid (d0 = p / 16 ∧ d1 = p % 16) := ⟨p / 16, p % 16, by omega, and15 p (by omega), by omega, by omega, Lib.hid ⟨rfl, rfl⟩⟩
              have x0 := hexs d0 l0
              have x1 := hexs d1 l1
              by_cases hr : r < k
              · have hr' : (r : Int) < (k : Int) := by omega
                have HN := Lib.hid (esc_two h2.out HP.out HX.out HK.out h128 HE.out HD.out)
                clear h128
                go_wp2_with fail
                refine (HC.out _ hTw.out).mono ?_
                rintro e w4 ⟨rfl, hb4⟩
                have hbd4 := Lib.hid (bld_below hbd.out hb4)
                have hb4 := hb.trans (hb4.mono hbs)
                have hs4 := hb4.size
                clear hbd hb hbs HC hTw
                go_wp2_with fail
                refine (Bld_string w.heap.size w.heap.size _ (s.extract r k) _ hbd4.out (by rw [Lib.byteCells_length, ByteArray.size_extract]; omega) hs4).mono ?_
                rintro e w5 ⟨rfl, hbd5, hb5, _⟩
                have hb5 := hb4.trans hb5
                have hs5 := hb5.size
                have Hd5 : Hid (Lib.IsBuilder 34 5 w.heap.size w.heap.size (Lib.byteCells (bs ++ (s.data.toList.drop r).take (k - r))) w5) := by
                  rw [Lib.byteCells_append, ← cut_bytes]
                  exact hbd5
                have hln : (bs ++ (s.data.toList.drop r).take (k - r)).length ≤ 8589934600 := by
                  have := List.length_take_le (k - r) (s.data.toList.drop r)
                  rw [List.length_append]; omega
                clear hbd5 hb4 hs4 hbd4
                obtain ⟨cs, Hcs⟩ : ∃ cs, Hid (cs = bs ++ (s.data.toList.drop r).take (k - r)) := ⟨_, Lib.hid rfl⟩
                rw [← Hcs.out] at Hd5 HN hln
                go_wp2_with fail
                refine (Bld_byte w.heap.size w.heap.size _ 37 _ Hd5.out (by rw [Lib.byteCells_length]; simp; omega) hs5).mono ?_
                rintro e w6 ⟨rfl, hbd6, hb6, _⟩
                have hb6 := hb5.trans hb6
                have hs6 := hb6.size
                have Hd6 := Lib.hid hbd6
                clear hbd6 hb5 hs5 Hd5
                go_wp2_with fail
                refine (Bld_byte w.heap.size w.heap.size _ ((hd d0).toNat : Int) _ Hd6.out (by rw [List.length_append, Lib.byteCells_length]; simp; omega) hs6).mono ?_
                rintro e w7 ⟨rfl, hbd7, hb7, _⟩
                have hb7 := hb6.trans hb7
                have hs7 := hb7.size
                have Hd7 := Lib.hid hbd7
                clear hbd7 hb6 hs6 Hd6
                go_wp2_with fail
                refine (Bld_byte w.heap.size w.heap.size _ ((hd d1).toNat : Int) _ Hd7.out (by rw [List.length_append, List.length_append, Lib.byteCells_length]; simp; omega) hs7).mono ?_
                rintro e w8 ⟨rfl, hbd8, hb8, _⟩
                have hb8 := hb7.trans hb8
                have Hd8 : Hid (Lib.IsBuilder 34 5 w.heap.size w.heap.size (Lib.byteCells (cs ++ [37] ++ [hd d0] ++ [hd d1])) w8) := by
                  rw [Lib.byteCells_append, Lib.byteCells_append, Lib.byteCells_append]
                  exact hbd8
                clear hbd8 hb7 hs7 Hd7
                go_wp2
                go_roundw
                case rel => exact ⟨k + K, k + K, _, done ++ [p], by go_num, by go_num, by omega, hkK, HN, Hd8, hb8⟩
                case measure => simp [intOf]; omega
              · have hr' : ¬ (r : Int) < (k : Int) := by omega
                have HN := Lib.hid (esc_two0 h2.out HP.out HX.out HK.out h128 HE.out HD.out hr)
                clear h128
                go_wp2_with fail
                refine (HC.out _ hTw.out).mono ?_
                rintro e w4 ⟨rfl, hb4⟩
                have hbd4 := Lib.hid (bld_below hbd.out hb4)
                have hb4 := hb.trans (hb4.mono hbs)
                have hs4 := hb4.size
                clear hbd hb hbs HC hTw
                have hb5 := hb4
                have hs5 := hs4
                have Hd5 := hbd4
                have hln : bs.length ≤ 8589934600 := by omega
                clear hb4 hs4 hbd4
                go_wp2_with fail
                refine (Bld_byte w.heap.size w.heap.size _ 37 _ Hd5.out (by rw [Lib.byteCells_length]; simp; omega) hs5).mono ?_
                rintro e w6 ⟨rfl, hbd6, hb6, _⟩
                have hb6 := hb5.trans hb6
                have hs6 := hb6.size
                have Hd6 := Lib.hid hbd6
                clear hbd6 hb5 hs5 Hd5
                go_wp2_with fail
                refine (Bld_byte w.heap.size w.heap.size _ ((hd d0).toNat : Int) _ Hd6.out (by rw [List.length_append, Lib.byteCells_length]; simp; omega) hs6).mono ?_
                rintro e w7 ⟨rfl, hbd7, hb7, _⟩
                have hb7 := hb6.trans hb7
                have hs7 := hb7.size
                have Hd7 := Lib.hid hbd7
                clear hbd7 hb6 hs6 Hd6
                go_wp2_with fail
                refine (Bld_byte w.heap.size w.heap.size _ ((hd d1).toNat : Int) _ Hd7.out (by rw [List.length_append, List.length_append, Lib.byteCells_length]; simp; omega) hs7).mono ?_
                rintro e w8 ⟨rfl, hbd8, hb8, _⟩
                have hb8 := hb7.trans hb8
                have Hd8 : Hid (Lib.IsBuilder 34 5 w.heap.size w.heap.size (Lib.byteCells (bs ++ [37] ++ [hd d0] ++ [hd d1])) w8) := by
                  rw [Lib.byteCells_append, Lib.byteCells_append, Lib.byteCells_append]
                  exact hbd8
                clear hbd8 hb7 hs7 Hd7
                go_wp2
                go_roundw
                case rel => exact ⟨k + K, k + K, _, done ++ [p], by go_num, by go_num, by omega, hkK, HN, Hd8, hb8⟩
                case measure => simp [intOf]; omega
            have t10 : ((p : Int) == 10) = false := by simp; omega
            by_cases c13 : p = 13
            · have t13 : ((p : Int) == 13) = true := by simp; omega
              have HE := Lib.hid (escC_is13 t c13)
              clear c13
              obtain ⟨d0, d1, e0, e1, l0, l1, HD⟩ : ∃ d0 d1 : Nat, (p : Int) / 16 = (d0 : Int) ∧ bits .and .i32 (p : Int) 15 = (d1 : Int) ∧ (d0 : Int) < 16 ∧ (d1 : Int) < 16 ∧ Hid (d0 = p / 16 ∧ d1 = p % 16) := ⟨p / 16, p % 16, by omega, and15 p (by omega), by omega, by omega, Lib.hid ⟨rfl, rfl⟩⟩
              have x0 := hexs d0 l0
              have x1 := hexs d1 l1
              by_cases hr : r < k
              · have hr' : (r : Int) < (k : Int) := by omega
                have HN := Lib.hid (esc_two h2.out HP.out HX.out HK.out h128 HE.out HD.out)
                clear h128
                go_wp2_with fail
                refine (HC.out _ hTw.out).mono ?_
                rintro e w4 ⟨rfl, hb4⟩
                have hbd4 := Lib.hid (bld_below hbd.out hb4)
                have hb4 := hb.trans (hb4.mono hbs)
                have hs4 := hb4.size
                clear hbd hb hbs HC hTw
                go_wp2_with fail
                refine (Bld_string w.heap.size w.heap.size _ (s.extract r k) _ hbd4.out (by rw [Lib.byteCells_length, ByteArray.size_extract]; omega) hs4).mono ?_
                rintro e w5 ⟨rfl, hbd5, hb5, _⟩
                have hb5 := hb4.trans hb5
                have hs5 := hb5.size
                have Hd5 : Hid (Lib.IsBuilder 34 5 w.heap.size w.heap.size (Lib.byteCells (bs ++ (s.data.toList.drop r).take (k - r))) w5) := by
                  rw [Lib.byteCells_append, ← cut_bytes]
                  exact hbd5
                have hln : (bs ++ (s.data.toList.drop r).take (k - r)).length ≤ 8589934600 := by
                  have := List.length_take_le (k - r) (s.data.toList.drop r)
                  rw [List.length_append]; omega
                clear hbd5 hb4 hs4 hbd4
                obtain ⟨cs, Hcs⟩ : ∃ cs, Hid (cs = bs ++ (s.data.toList.drop r).take (k - r)) := ⟨_, Lib.hid rfl⟩
                rw [← Hcs.out] at Hd5 HN hln
                go_wp2_with fail
                refine (Bld_byte w.heap.size w.heap.size _ 37 _ Hd5.out (by rw [Lib.byteCells_length]; simp; omega) hs5).mono ?_
                rintro e w6 ⟨rfl, hbd6, hb6, _⟩
                have hb6 := hb5.trans hb6
                have hs6 := hb6.size
                have Hd6 := Lib.hid hbd6
                clear hbd6 hb5 hs5 Hd5
                go_wp2_with fail
                refine (Bld_byte w.heap.size w.heap.size _ ((hd d0).toNat : Int) _ Hd6.out (by rw [List.length_append, Lib.byteCells_length]; simp; omega) hs6).mono ?_
                rintro e w7 ⟨rfl, hbd7, hb7, _⟩
                have hb7 := hb6.trans hb7
                have hs7 := hb7.size
                have Hd7 := Lib.hid hbd7
                clear hbd7 hb6 hs6 Hd6
                go_wp2_with fail
                refine (Bld_byte w.heap.size w.heap.size _ ((hd d1).toNat : Int) _ Hd7.out (by rw [List.length_append, List.length_append, Lib.byteCells_length]; simp; omega) hs7).mono ?_
                rintro e w8 ⟨rfl, hbd8, hb8, _⟩
                have hb8 := hb7.trans hb8
                have Hd8 : Hid (Lib.IsBuilder 34 5 w.heap.size w.heap.size (Lib.byteCells (cs ++ [37] ++ [hd d0] ++ [hd d1])) w8) := by
                  rw [Lib.byteCells_append, Lib.byteCells_append, Lib.byteCells_append]
                  exact hbd8
                clear hbd8 hb7 hs7 Hd7
                go_wp2
                go_roundw
                case rel => exact ⟨k + K, k + K, _, done ++ [p], by go_num, by go_num, by omega, hkK, HN, Hd8, hb8⟩
                case measure => simp [intOf]; omega
              · have hr' : ¬ (r : Int) < (k : Int) := by omega
                have HN := Lib.hid (esc_two0 h2.out HP.out HX.out HK.out h128 HE.out HD.out hr)
                clear h128
                go_wp2_with fail
                refine (HC.out _ hTw.out).mono ?_
                rintro e w4 ⟨rfl, hb4⟩
                have hbd4 := Lib.hid (bld_below hbd.out hb4)
                have hb4 := hb.trans (hb4.mono hbs)
                have hs4 := hb4.size
                clear hbd hb hbs HC hTw
                have hb5 := hb4
                have hs5 := hs4
                have Hd5 := hbd4
                have hln : bs.length ≤ 8589934600 := by omega
                clear hb4 hs4 hbd4
                go_wp2_with fail
                refine (Bld_byte w.heap.size w.heap.size _ 37 _ Hd5.out (by rw [Lib.byteCells_length]; simp; omega) hs5).mono ?_
                rintro e w6 ⟨rfl, hbd6, hb6, _⟩
                have hb6 := hb5.trans hb6
                have hs6 := hb6.size
                have Hd6 := Lib.hid hbd6
                clear hbd6 hb5 hs5 Hd5
                go_wp2_with fail
                refine (Bld_byte w.heap.size w.heap.size _ ((hd d0).toNat : Int) _ Hd6.out (by rw [List.length_append, Lib.byteCells_length]; simp; omega) hs6).mono ?_
                rintro e w7 ⟨rfl, hbd7, hb7, _⟩
                have hb7 := hb6.trans hb7
                have hs7 := hb7.size
                have Hd7 := Lib.hid hbd7
                clear hbd7 hb6 hs6 Hd6
                go_wp2_with fail
                refine (Bld_byte w.heap.size w.heap.size _ ((hd d1).toNat : Int) _ Hd7.out (by rw [List.length_append, List.length_append, Lib.byteCells_length]; simp; omega) hs7).mono ?_
                rintro e w8 ⟨rfl, hbd8, hb8, _⟩
                have hb8 := hb7.trans hb8
                have Hd8 : Hid (Lib.IsBuilder 34 5 w.heap.size w.heap.size (Lib.byteCells (bs ++ [37] ++ [hd d0] ++ [hd d1])) w8) := by
                  rw [Lib.byteCells_append, Lib.byteCells_append, Lib.byteCells_append]
                  exact hbd8
                clear hbd8 hb7 hs7 Hd7
                go_wp2
                go_roundw
                case rel => exact ⟨k + K, k + K, _, done ++ [p], by go_num, by go_num, by omega, hkK, HN, Hd8, hb8⟩
                case measure => simp [intOf]; omega
            have t13 : ((p : Int) == 13) = false := by simp; omega
            by_cases c35 : p = 35
            · have t35 : ((p : Int) == 35) = true := by simp; omega
              have HE := Lib.hid (escC_is35 t c35)
              clear c35
              obtain ⟨d0, d1, e0, e1, l0, l1, HD⟩ : ∃ d0 d1 : Nat, (p : Int) / 16 = (d0 : Int) ∧ bits .and .i32 (p : Int) 15 = (d1 : Int) ∧ (d0 : Int) < 16 ∧ (d1 : Int) < 16 ∧ Hid (d0 = p / 16 ∧ d1 = p % 16) := ⟨p / 16, p % 16, by omega, and15 p (by omega), by omega, by omega, Lib.hid ⟨rfl, rfl⟩⟩
              have x0 := hexs d0 l0
              have x1 := hexs d1 l1
              by_cases hr : r < k
              · have hr' : (r : Int) < (k : Int) := by omega
                have HN := Lib.hid (esc_two h2.out HP.out HX.out HK.out h128 HE.out HD.out)
                clear h128
                go_wp2_with fail
                refine (HC.out _ hTw.out).mono ?_
                rintro e w4 ⟨rfl, hb4⟩
                have hbd4 := Lib.hid (bld_below hbd.out hb4)
                have hb4 := hb.trans (hb4.mono hbs)
                have hs4 := hb4.size
                clear hbd hb hbs HC hTw
                go_wp2_with fail
                refine (Bld_string w.heap.size w.heap.size _ (s.extract r k) _ hbd4.out (by rw [Lib.byteCells_length, ByteArray.size_extract]; omega) hs4).mono ?_
                rintro e w5 ⟨rfl, hbd5, hb5, _⟩
                have hb5 := hb4.trans hb5
                have hs5 := hb5.size
                have Hd5 : Hid (Lib.IsBuilder 34 5 w.heap.size w.heap.size (Lib.byteCells (bs ++ (s.data.toList.drop r).take (k - r))) w5) := by
                  rw [Lib.byteCells_append, ← cut_bytes]
                  exact hbd5
                have hln : (bs ++ (s.data.toList.drop r).take (k - r)).length ≤ 8589934600 := by
                  have := List.length_take_le (k - r) (s.data.toList.drop r)
                  rw [List.length_append]; omega
                clear hbd5 hb4 hs4 hbd4
                obtain ⟨cs, Hcs⟩ : ∃ cs, Hid (cs = bs ++ (s.data.toList.drop r).take (k - r)) := ⟨_, Lib.hid rfl⟩
                rw [← Hcs.out] at Hd5 HN hln
                go_wp2_with fail
                refine (Bld_byte w.heap.size w.heap.size _ 37 _ Hd5.out (by rw [Lib.byteCells_length]; simp; omega) hs5).mono ?_
                rintro e w6 ⟨rfl, hbd6, hb6, _⟩
                have hb6 := hb5.trans hb6
                have hs6 := hb6.size
                have Hd6 := Lib.hid hbd6
                clear hbd6 hb5 hs5 Hd5
                go_wp2_with fail
                refine (Bld_byte w.heap.size w.heap.size _ ((hd d0).toNat : Int) _ Hd6.out (by rw [List.length_append, Lib.byteCells_length]; simp; omega) hs6).mono ?_
                rintro e w7 ⟨rfl, hbd7, hb7, _⟩
                have hb7 := hb6.trans hb7
                have hs7 := hb7.size
                have Hd7 := Lib.hid hbd7
                clear hbd7 hb6 hs6 Hd6
                go_wp2_with fail
                refine (Bld_byte w.heap.size w.heap.size _ ((hd d1).toNat : Int) _ Hd7.out (by rw [List.length_append, List.length_append, Lib.byteCells_length]; simp; omega) hs7).mono ?_
                rintro e w8 ⟨rfl, hbd8, hb8, _⟩
                have hb8 := hb7.trans hb8
                have Hd8 : Hid (Lib.IsBuilder 34 5 w.heap.size w.heap.size (Lib.byteCells (cs ++ [37] ++ [hd d0] ++ [hd d1])) w8) := by
                  rw [Lib.byteCells_append, Lib.byteCells_append, Lib.byteCells_append]
                  exact hbd8
                clear hbd8 hb7 hs7 Hd7
                go_wp2
                go_roundw
                case rel => exact ⟨k + K, k + K, _, done ++ [p], by go_num, by go_num, by omega, hkK, HN, Hd8, hb8⟩
                case measure => simp [intOf]; omega
              · have hr' : ¬ (r : Int) < (k : Int) := by omega
                have HN := Lib.hid (esc_two0 h2.out HP.out HX.out HK.out h128 HE.out HD.out hr)
                clear h128
                go_wp2_with fail
                refine (HC.out _ hTw.out).mono ?_
                rintro e w4 ⟨rfl, hb4⟩
                have hbd4 := Lib.hid (bld_below hbd.out hb4)
                have hb4 := hb.trans (hb4.mono hbs)
                have hs4 := hb4.size
                clear hbd hb hbs HC hTw
                have hb5 := hb4
                have hs5 := hs4
                have Hd5 := hbd4
                have hln : bs.length ≤ 8589934600 := by omega
                clear hb4 hs4 hbd4
                go_wp2_with fail
                refine (Bld_byte w.heap.size w.heap.size _ 37 _ Hd5.out (by rw [Lib.byteCells_length]; simp; omega) hs5).mono ?_
                rintro e w6 ⟨rfl, hbd6, hb6, _⟩
                have hb6 := hb5.trans hb6
                have hs6 := hb6.size
                have Hd6 := Lib.hid hbd6
                clear hbd6 hb5 hs5 Hd5
                go_wp2_with fail
                refine (Bld_byte w.heap.size w.heap.size _ ((hd d0).toNat : Int) _ Hd6.out (by rw [List.length_append, Lib.byteCells_length]; simp; omega) hs6).mono ?_
                rintro e w7 ⟨rfl, hbd7, hb7, _⟩
                have hb7 := hb6.trans hb7
                have hs7 := hb7.size
                have Hd7 := Lib.hid hbd7
                clear hbd7 hb6 hs6 Hd6
                go_wp2_with fail
                refine (Bld_byte w.heap.size w.heap.size _ ((hd d1).toNat : Int) _ Hd7.out (by rw [List.length_append, List.length_append, Lib.byteCells_length]; simp; omega) hs7).mono ?_
                rintro e w8 ⟨rfl, hbd8, hb8, _⟩
                have hb8 := hb7.trans hb8
                have Hd8 : Hid (Lib.IsBuilder 34 5 w.heap.size w.heap.size (Lib.byteCells (bs ++ [37] ++ [hd d0] ++ [hd d1])) w8) := by
                  rw [Lib.byteCells_append, Lib.byteCells_append, Lib.byteCells_append]
                  exact hbd8
                clear hbd8 hb7 hs7 Hd7
                go_wp2
                go_roundw
                case rel => exact ⟨k + K, k + K, _, done ++ [p], by go_num, by go_num, by omega, hkK, HN, Hd8, hb8⟩
                case measure => simp [intOf]; omega
            have t35 : ((p : Int) == 35) = false := by simp; omega
            by_cases cts : ts ≤ k
            · have cts' : (ts : Int) ≤ (k : Int) := by omega
              have HE := Lib.hid (escC_ts h128 HTS.out HX.out cts)
              clear c9 c10 c13 c35
              obtain ⟨d0, d1, e0, e1, l0, l1, HD⟩ : ∃ d0 d1 : Nat, (p : Int) / 16 = (d0 : Int) ∧ bits .and .i32 (p : Int) 15 = (d1 : Int) ∧ (d0 : Int) < 16 ∧ (d1 : Int) < 16 ∧ Hid (d0 = p / 16 ∧ d1 = p % 16) := ⟨p / 16, p % 16, by omega, and15 p (by omega), by omega, by omega, Lib.hid ⟨rfl, rfl⟩⟩
              have x0 := hexs d0 l0
              have x1 := hexs d1 l1
              by_cases hr : r < k
              · have hr' : (r : Int) < (k : Int) := by omega
                have HN := Lib.hid (esc_two h2.out HP.out HX.out HK.out h128 HE.out HD.out)
                clear h128
                go_wp2_with fail
                refine (HC.out _ hTw.out).mono ?_
                rintro e w4 ⟨rfl, hb4⟩
                have hbd4 := Lib.hid (bld_below hbd.out hb4)
                have hb4 := hb.trans (hb4.mono hbs)
                have hs4 := hb4.size
                clear hbd hb hbs HC hTw
                go_wp2_with fail
                refine (Bld_string w.heap.size w.heap.size _ (s.extract r k) _ hbd4.out (by rw [Lib.byteCells_length, ByteArray.size_extract]; omega) hs4).mono ?_
                rintro e w5 ⟨rfl, hbd5, hb5, _⟩
                have hb5 := hb4.trans hb5
                have hs5 := hb5.size
                have Hd5 : Hid (Lib.IsBuilder 34 5 w.heap.size w.heap.size (Lib.byteCells (bs ++ (s.data.toList.drop r).take (k - r))) w5) := by
                  rw [Lib.byteCells_append, ← cut_bytes]
                  exact hbd5
                have hln : (bs ++ (s.data.toList.drop r).take (k - r)).length ≤ 8589934600 := by
                  have := List.length_take_le (k - r) (s.data.toList.drop r)
                  rw [List.length_append]; omega
                clear hbd5 hb4 hs4 hbd4
                obtain ⟨cs, Hcs⟩ : ∃ cs, Hid (cs = bs ++ (s.data.toList.drop r).take (k - r)) := ⟨_, Lib.hid rfl⟩
                rw [← Hcs.out] at Hd5 HN hln
                go_wp2_with fail
                refine (Bld_byte w.heap.size w.heap.size _ 37 _ Hd5.out (by rw [Lib.byteCells_length]; simp; omega) hs5).mono ?_
                rintro e w6 ⟨rfl, hbd6, hb6, _⟩
                have hb6 := hb5.trans hb6
                have hs6 := hb6.size
                have Hd6 := Lib.hid hbd6
                clear hbd6 hb5 hs5 Hd5
                go_wp2_with fail
                refine (Bld_byte w.heap.size w.heap.size _ ((hd d0).toNat : Int) _ Hd6.out (by rw [List.length_append, Lib.byteCells_length]; simp; omega) hs6).mono ?_
                rintro e w7 ⟨rfl, hbd7, hb7, _⟩
                have hb7 := hb6.trans hb7
                have hs7 := hb7.size
                have Hd7 := Lib.hid hbd7
                clear hbd7 hb6 hs6 Hd6
                go_wp2_with fail
                refine (Bld_byte w.heap.size w.heap.size _ ((hd d1).toNat : Int) _ Hd7.out (by rw [List.length_append, List.length_append, Lib.byteCells_length]; simp; omega) hs7).mono ?_
                rintro e w8 ⟨rfl, hbd8, hb8, _⟩
                have hb8 := hb7.trans hb8
                have Hd8 : Hid (Lib.IsBuilder 34 5 w.heap.size w.heap.size (Lib.byteCells (cs ++ [37] ++ [hd d0] ++ [hd d1])) w8) := by
                  rw [Lib.byteCells_append, Lib.byteCells_append, Lib.byteCells_append]
                  exact hbd8
                clear hbd8 hb7 hs7 Hd7
                go_wp2
                go_roundw
                case rel => exact ⟨k + K, k + K, _, done ++ [p], by go_num, by go_num, by omega, hkK, HN, Hd8, hb8⟩
                case measure => simp [intOf]; omega
              · have hr' : ¬ (r : Int) < (k : Int) := by omega
                have HN := Lib.hid (esc_two0 h2.out HP.out HX.out HK.out h128 HE.out HD.out hr)
                clear h128
                go_wp2_with fail
                refine (HC.out _ hTw.out).mono ?_
                rintro e w4 ⟨rfl, hb4⟩
                have hbd4 := Lib.hid (bld_below hbd.out hb4)
                have hb4 := hb.trans (hb4.mono hbs)
                have hs4 := hb4.size
                clear hbd hb hbs HC hTw
                have hb5 := hb4
                have hs5 := hs4
                have Hd5 := hbd4
                have hln : bs.length ≤ 8589934600 := by omega
                clear hb4 hs4 hbd4
                go_wp2_with fail
                refine (Bld_byte w.heap.size w.heap.size _ 37 _ Hd5.out (by rw [Lib.byteCells_length]; simp; omega) hs5).mono ?_
                rintro e w6 ⟨rfl, hbd6, hb6, _⟩
                have hb6 := hb5.trans hb6
                have hs6 := hb6.size
                have Hd6 := Lib.hid hbd6
                clear hbd6 hb5 hs5 Hd5
                go_wp2_with fail
                refine (Bld_byte w.heap.size w.heap.size _ ((hd d0).toNat : Int) _ Hd6.out (by rw [List.length_append, Lib.byteCells_length]; simp; omega) hs6).mono ?_
                rintro e w7 ⟨rfl, hbd7, hb7, _⟩
                have hb7 := hb6.trans hb7
                have hs7 := hb7.size
                have Hd7 := Lib.hid hbd7
                clear hbd7 hb6 hs6 Hd6
                go_wp2_with fail
                refine (Bld_byte w.heap.size w.heap.size _ ((hd d1).toNat : Int) _ Hd7.out (by rw [List.length_append, List.length_append, Lib.byteCells_length]; simp; omega) hs7).mono ?_
                rintro e w8 ⟨rfl, hbd8, hb8, _⟩
                have hb8 := hb7.trans hb8
                have Hd8 : Hid (Lib.IsBuilder 34 5 w.heap.size w.heap.size (Lib.byteCells (bs ++ [37] ++ [hd d0] ++ [hd d1])) w8) := by
                  rw [Lib.byteCells_append, Lib.byteCells_append, Lib.byteCells_append]
                  exact hbd8
                clear hbd8 hb7 hs7 Hd7
                go_wp2
                go_roundw
                case rel => exact ⟨k + K, k + K, _, done ++ [p], by go_num, by go_num, by omega, hkK, HN, Hd8, hb8⟩
                case measure => simp [intOf]; omega
            have cts' : (k : Int) < (ts : Int) := by omega
            by_cases c37 : p = 37
            · have t37 : ((p : Int) == 37) = true := by simp; omega
              by_cases hk2 : k + 2 < s.size
              · have hk2' : (k : Int) + 2 < (s.size : Int) := by omega
                have hk1' : (k : Int) + 1 < (s.size : Int) := by omega
                have ht2 := two_next h128 HX.out hk2
                cases hx1 : isHx (s[k + 1]'(by omega)) with
                | true =>
                  have HX1 : Hid (∀ W, Calls Tryd.prog 19 #[.int .u8 ((s[k + 1]'(by omega)).toNat : Int)] W fun e w' => e = .returned (.bool true) ∧ w' = W) := Lib.hid fun W => by
                    have := isHex_calls (s[k + 1]'(by omega)) W
                    rw [hx1] at this
                    exact this
                  cases hx2 : isHx (s[k + 2]'(by omega)) with
                  | true =>
                    have HX2 : Hid (∀ W, Calls Tryd.prog 19 #[.int .u8 ((s[k + 2]'(by omega)).toNat : Int)] W fun e w' => e = .returned (.bool true) ∧ w' = W) := Lib.hid fun W => by
                      have := isHex_calls (s[k + 2]'(by omega)) W
                      rw [hx2] at this
                      exact this
                    have HE := Lib.hid (escC_hex (p := p) c37 ht2 hx1 hx2)
                    clear c9 c10 c13 c35 cts c37 ht2 hx1 hx2
                    obtain ⟨d0, d1, e0, e1, l0, l1, HD⟩ : ∃ d0 d1 : Nat, (p : Int) / 16 = (d0 : Int) ∧ bits .and .i32 (p : Int) 15 = (d1 : Int) ∧ (d0 : Int) < 16 ∧ (d1 : Int) < 16 ∧ Hid (d0 = p / 16 ∧ d1 = p % 16) := ⟨p / 16, p % 16, by omega, and15 p (by omega), by omega, by omega, Lib.hid ⟨rfl, rfl⟩⟩
                    have x0 := hexs d0 l0
                    have x1 := hexs d1 l1
                    by_cases hr : r < k
                    · have hr' : (r : Int) < (k : Int) := by omega
                      have HN := Lib.hid (esc_two h2.out HP.out HX.out HK.out h128 HE.out HD.out)
                      clear h128
                      go_wp2_with fail
                      refine (HC.out _ hTw.out).mono ?_
                      rintro e w4 ⟨rfl, hb4⟩
                      have hbd4 := Lib.hid (bld_below hbd.out hb4)
                      have hb4 := hb.trans (hb4.mono hbs)
                      have hs4 := hb4.size
                      clear hbd hb hbs HC hTw
                      go_wp2_with fail
                      refine (HX1.out _).mono ?_
                      rintro e w5 ⟨rfl, rfl⟩
                      go_wp2_with fail
                      refine (HX2.out _).mono ?_
                      rintro e w5 ⟨rfl, rfl⟩
                      go_wp2_with fail
                      refine (Bld_string w.heap.size w.heap.size _ (s.extract r k) _ hbd4.out (by rw [Lib.byteCells_length, ByteArray.size_extract]; omega) hs4).mono ?_
                      rintro e w5 ⟨rfl, hbd5, hb5, _⟩
                      have hb5 := hb4.trans hb5
                      have hs5 := hb5.size
                      have Hd5 : Hid (Lib.IsBuilder 34 5 w.heap.size w.heap.size (Lib.byteCells (bs ++ (s.data.toList.drop r).take (k - r))) w5) := by
                        rw [Lib.byteCells_append, ← cut_bytes]
                        exact hbd5
                      have hln : (bs ++ (s.data.toList.drop r).take (k - r)).length ≤ 8589934600 := by
                        have := List.length_take_le (k - r) (s.data.toList.drop r)
                        rw [List.length_append]; omega
                      clear hbd5 hb4 hs4 hbd4
                      obtain ⟨cs, Hcs⟩ : ∃ cs, Hid (cs = bs ++ (s.data.toList.drop r).take (k - r)) := ⟨_, Lib.hid rfl⟩
                      rw [← Hcs.out] at Hd5 HN hln
                      go_wp2_with fail
                      refine (Bld_byte w.heap.size w.heap.size _ 37 _ Hd5.out (by rw [Lib.byteCells_length]; simp; omega) hs5).mono ?_
                      rintro e w6 ⟨rfl, hbd6, hb6, _⟩
                      have hb6 := hb5.trans hb6
                      have hs6 := hb6.size
                      have Hd6 := Lib.hid hbd6
                      clear hbd6 hb5 hs5 Hd5
                      go_wp2_with fail
                      refine (Bld_byte w.heap.size w.heap.size _ ((hd d0).toNat : Int) _ Hd6.out (by rw [List.length_append, Lib.byteCells_length]; simp; omega) hs6).mono ?_
                      rintro e w7 ⟨rfl, hbd7, hb7, _⟩
                      have hb7 := hb6.trans hb7
                      have hs7 := hb7.size
                      have Hd7 := Lib.hid hbd7
                      clear hbd7 hb6 hs6 Hd6
                      go_wp2_with fail
                      refine (Bld_byte w.heap.size w.heap.size _ ((hd d1).toNat : Int) _ Hd7.out (by rw [List.length_append, List.length_append, Lib.byteCells_length]; simp; omega) hs7).mono ?_
                      rintro e w8 ⟨rfl, hbd8, hb8, _⟩
                      have hb8 := hb7.trans hb8
                      have Hd8 : Hid (Lib.IsBuilder 34 5 w.heap.size w.heap.size (Lib.byteCells (cs ++ [37] ++ [hd d0] ++ [hd d1])) w8) := by
                        rw [Lib.byteCells_append, Lib.byteCells_append, Lib.byteCells_append]
                        exact hbd8
                      clear hbd8 hb7 hs7 Hd7
                      go_wp2
                      go_roundw
                      case rel => exact ⟨k + K, k + K, _, done ++ [p], by go_num, by go_num, by omega, hkK, HN, Hd8, hb8⟩
                      case measure => simp [intOf]; omega
                    · have hr' : ¬ (r : Int) < (k : Int) := by omega
                      have HN := Lib.hid (esc_two0 h2.out HP.out HX.out HK.out h128 HE.out HD.out hr)
                      clear h128
                      go_wp2_with fail
                      refine (HC.out _ hTw.out).mono ?_
                      rintro e w4 ⟨rfl, hb4⟩
                      have hbd4 := Lib.hid (bld_below hbd.out hb4)
                      have hb4 := hb.trans (hb4.mono hbs)
                      have hs4 := hb4.size
                      clear hbd hb hbs HC hTw
                      go_wp2_with fail
                      refine (HX1.out _).mono ?_
                      rintro e w5 ⟨rfl, rfl⟩
                      go_wp2_with fail
                      refine (HX2.out _).mono ?_
                      rintro e w5 ⟨rfl, rfl⟩
                      have hb5 := hb4
                      have hs5 := hs4
                      have Hd5 := hbd4
                      have hln : bs.length ≤ 8589934600 := by omega
                      clear hb4 hs4 hbd4
                      go_wp2_with fail
                      refine (Bld_byte w.heap.size w.heap.size _ 37 _ Hd5.out (by rw [Lib.byteCells_length]; simp; omega) hs5).mono ?_
                      rintro e w6 ⟨rfl, hbd6, hb6, _⟩
                      have hb6 := hb5.trans hb6
                      have hs6 := hb6.size
                      have Hd6 := Lib.hid hbd6
                      clear hbd6 hb5 hs5 Hd5
                      go_wp2_with fail
                      refine (Bld_byte w.heap.size w.heap.size _ ((hd d0).toNat : Int) _ Hd6.out (by rw [List.length_append, Lib.byteCells_length]; simp; omega) hs6).mono ?_
                      rintro e w7 ⟨rfl, hbd7, hb7, _⟩
                      have hb7 := hb6.trans hb7
                      have hs7 := hb7.size
                      have Hd7 := Lib.hid hbd7
                      clear hbd7 hb6 hs6 Hd6
                      go_wp2_with fail
                      refine (Bld_byte w.heap.size w.heap.size _ ((hd d1).toNat : Int) _ Hd7.out (by rw [List.length_append, List.length_append, Lib.byteCells_length]; simp; omega) hs7).mono ?_
                      rintro e w8 ⟨rfl, hbd8, hb8, _⟩
                      have hb8 := hb7.trans hb8
                      have Hd8 : Hid (Lib.IsBuilder 34 5 w.heap.size w.heap.size (Lib.byteCells (bs ++ [37] ++ [hd d0] ++ [hd d1])) w8) := by
                        rw [Lib.byteCells_append, Lib.byteCells_append, Lib.byteCells_append]
                        exact hbd8
                      clear hbd8 hb7 hs7 Hd7
                      go_wp2
                      go_roundw
                      case rel => exact ⟨k + K, k + K, _, done ++ [p], by go_num, by go_num, by omega, hkK, HN, Hd8, hb8⟩
                      case measure => simp [intOf]; omega
                  | false =>
                    have HX2 : Hid (∀ W, Calls Tryd.prog 19 #[.int .u8 ((s[k + 2]'(by omega)).toNat : Int)] W fun e w' => e = .returned (.bool false) ∧ w' = W) := Lib.hid fun W => by
                      have := isHex_calls (s[k + 2]'(by omega)) W
                      rw [hx2] at this
                      exact this
                    have HN := Lib.hid (keep_two h2.out HP.out HX.out HK.out (escC_keep h128 (escC_no h128 c9 c10 c13 c35 HTS.out HX.out cts (.inr (hx2_two ht2 (by rw [hx1, hx2]; rfl))))))
                    clear c9 c10 c13 c35 cts c37 ht2 hx1 hx2 h128
                    go_wp2_with fail
                    refine (HC.out _ hTw.out).mono ?_
                    rintro e w4 ⟨rfl, hb4⟩
                    have hbd4 := Lib.hid (bld_below hbd.out hb4)
                    have hb4 := hb.trans (hb4.mono hbs)
                    have hs4 := hb4.size
                    clear hbd hb hbs HC hTw
                    go_wp2_with fail
                    refine (HX1.out _).mono ?_
                    rintro e w5 ⟨rfl, rfl⟩
                    go_wp2_with fail
                    refine (HX2.out _).mono ?_
                    rintro e w5 ⟨rfl, rfl⟩
                    go_wp2
                    go_roundw
                    case rel => exact ⟨k + K, r, bs, done ++ [p], by go_num, rfl, by omega, hkK, HN, hbd4, hb4⟩
                    case measure => simp [intOf]; omega
                | false =>
                  have HX1 : Hid (∀ W, Calls Tryd.prog 19 #[.int .u8 ((s[k + 1]'(by omega)).toNat : Int)] W fun e w' => e = .returned (.bool false) ∧ w' = W) := Lib.hid fun W => by
                    have := isHex_calls (s[k + 1]'(by omega)) W
                    rw [hx1] at this
                    exact this
                  have HN := Lib.hid (keep_two h2.out HP.out HX.out HK.out (escC_keep h128 (escC_no h128 c9 c10 c13 c35 HTS.out HX.out cts (.inr (hx2_two ht2 (by rw [hx1]; rfl))))))
                  clear c9 c10 c13 c35 cts c37 ht2 hx1 h128
                  go_wp2_with fail
                  refine (HC.out _ hTw.out).mono ?_
                  rintro e w4 ⟨rfl, hb4⟩
                  have hbd4 := Lib.hid (bld_below hbd.out hb4)
                  have hb4 := hb.trans (hb4.mono hbs)
                  have hs4 := hb4.size
                  clear hbd hb hbs HC hTw
                  go_wp2_with fail
                  refine (HX1.out _).mono ?_
                  rintro e w5 ⟨rfl, rfl⟩
                  go_wp2
                  go_roundw
                  case rel => exact ⟨k + K, r, bs, done ++ [p], by go_num, rfl, by omega, hkK, HN, hbd4, hb4⟩
                  case measure => simp [intOf]; omega
              · have hk2' : ¬ (k : Int) + 2 < (s.size : Int) := by omega
                have HN := Lib.hid (keep_two h2.out HP.out HX.out HK.out (escC_keep h128 (escC_no h128 c9 c10 c13 c35 HTS.out HX.out cts (.inr (hx2_near h128 HX.out (by rw [HL0.out]; exact hk2))))))
                clear c9 c10 c13 c35 cts c37 hk2 h128
                go_wp2_with fail
                refine (HC.out _ hTw.out).mono ?_
                rintro e w4 ⟨rfl, hb4⟩
                have hbd4 := Lib.hid (bld_below hbd.out hb4)
                have hb4 := hb.trans (hb4.mono hbs)
                have hs4 := hb4.size
                clear hbd hb hbs HC hTw
                go_wp2
                go_roundw
                case rel => exact ⟨k + K, r, bs, done ++ [p], by go_num, rfl, by omega, hkK, HN, hbd4, hb4⟩
                case measure => simp [intOf]; omega
            · have t37 : ((p : Int) == 37) = false := by simp; omega
              have HN := Lib.hid (keep_two h2.out HP.out HX.out HK.out (escC_keep h128 (escC_no h128 c9 c10 c13 c35 HTS.out HX.out cts (.inl c37))))
              clear c9 c10 c13 c35 cts c37 h128
              go_wp2_with fail
              refine (HC.out _ hTw.out).mono ?_
              rintro e w4 ⟨rfl, hb4⟩
              have hbd4 := Lib.hid (bld_below hbd.out hb4)
              have hb4 := hb.trans (hb4.mono hbs)
              have hs4 := hb4.size
              clear hbd hb hbs HC hTw
              go_wp2
              go_roundw
              case rel => exact ⟨k + K, r, bs, done ++ [p], by go_num, rfl, by omega, hkK, HN, hbd4, hb4⟩
              case measure => simp [intOf]; omega
        · have HC : Hid (∀ W, Lib.Utf8Tabs 0 1 W → Calls Tryd.prog 18 #[.string (s.extract k s.size)] W fun e w' => e = .returned (.tuple #[.int .i32 65533, .int .i64 1]) ∧ Below W.heap.size W w') := Lib.hid fun W hT => by
            have := Tryd.utf8_DecodeRuneInString (s.extract k s.size) W hT
            rw [hdg, hdc] at this
            exact this
          have HV := Lib.hid (h2.out.bad hne (by rw [← hmd]; exact hbad))
          have hTw := Lib.hid (Go.Proofs.Utf8Tabs_below HT.out hb)
          clear hmd hne hdg hdc hbad
          go_wp2_with fail
          refine (HC.out _ hTw.out).mono ?_
          rintro e w4 ⟨rfl, hb4⟩
          have hb4 := hb.trans (hb4.mono hbs)
          go_wp2
          go_ret2
          exact encPost_no HV.out hb4
      · obtain rfl : k = s.size := by omega
        obtain ⟨HV, HU⟩ : Hid (validB s.data.toList = true) ∧ Hid (bs ++ (s.data.toList.drop r).take (s.size - r) = pcUrl mime.data.toList s.data.toList) := by
          have h3 := h2.out
          have e := HL0.out
          rw [← e] at h3
          obtain ⟨h4, h5⟩ := h3.end_
          rw [e] at h5
          exact ⟨Lib.hid h4, Lib.hid h5⟩
        by_cases hr : r < s.size
        · have hr' : (r : Int) < (s.size : Int) := by omega
          go_wp2_with fail
          refine (Bld_string w.heap.size w.heap.size _ (s.extract r s.size) _ hbd.out (by rw [Lib.byteCells_length, ByteArray.size_extract]; omega) hbs).mono ?_
          rintro e w5 ⟨rfl, hbd5, hb5, _⟩
          have hb5 := hb.trans hb5
          have hs5 := hb5.size
          have Hd5 : Hid (Lib.IsBuilder 34 5 w.heap.size w.heap.size (Lib.byteCells (bs ++ (s.data.toList.drop r).take (s.size - r))) w5) := by
            rw [Lib.byteCells_append, ← cut_bytes]
            exact hbd5
          rw [HU.out] at Hd5
          clear hbd5
          go_wp2_with fail
          refine (Tryd.Builder_String_any w.heap.size w.heap.size _ _ Hd5.out hs5).mono ?_
          rintro e w6 ⟨rfl, hb6⟩
          go_wp2
          go_ret2
          exact encPost_yes rfl HV.out (hb5.trans hb6)
        · have hr' : ¬ (r : Int) < (s.size : Int) := by omega
          have Hd5 := hbd
          have HB : Hid (bs = pcUrl mime.data.toList s.data.toList) := by
            have := HU.out
            rw [show s.size - r = 0 by omega, List.take_zero, List.append_nil] at this
            exact Lib.hid this
          rw [HB.out] at Hd5
          go_wp2_with fail
          refine (Tryd.Builder_String_any w.heap.size w.heap.size _ _ Hd5.out hbs).mono ?_
          rintro e w6 ⟨rfl, hb6⟩
          go_wp2
          go_ret2
          exact encPost_yes rfl HV.out (hb.trans hb6)
end Go.Proofs.YtjinfkhnijokmaaDoor
