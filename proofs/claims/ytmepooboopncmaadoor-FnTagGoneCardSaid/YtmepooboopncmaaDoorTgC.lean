/- The contracts of 'spec.Tagged' and 'spec.HasTag'. -/
import Derived.Test.YtmepooboopncmaaDoorTgA
import Derived.Test.YtmepooboopncmaaDoorApp
namespace Go.Proofs.YtmepooboopncmaaDoor
open Go.RowKit Stamp
set_option linter.unusedVariables false

theorem infoU8 : (Tryd.prog.info? 5).map (fun i => (i.zero, i.size, i.bytes)) = some (some (.int .u8 0), 1, 1) := by kernel_rfl
theorem bytesV_snoc (l : List UInt8) (b : UInt8) : bytesV l ++ [.int .u8 (b.toNat : Int)] = bytesV (l ++ [b]) := by simp [bytesV]
theorem tail_of (s : ByteArray) (k : Nat) : (s.extract k s.size).data.toList = s.data.toList.drop k := by
  rw [ByteArray.data_extract, Array.toList_extract, List.extract_eq_take_drop, List.take_of_length_le]
  rw [List.length_drop]
  have : s.data.toList.length = s.size := by simp
  omega
theorem tagAt_not60 {tag : List UInt8} {c : UInt8} {t : List UInt8} (h : ¬ c.toNat = 60) : tagAt tag c t = false := by
  unfold tagAt
  rw [decide_eq_false (by rintro rfl; exact h rfl), Bool.false_and]
theorem tagAt_60 {tag : List UInt8} {c : UInt8} {t : List UInt8} (h : c.toNat = 60) : tagAt tag c t = pre tag (lowL t) := by
  unfold tagAt
  rw [decide_eq_true (UInt8.toNat_inj.1 h), Bool.true_and]
theorem tagAt_not47 {x : List UInt8} {c d : UInt8} {t : List UInt8} (h : ¬ d.toNat = 47) : tagAt (47 :: x) c (d :: t) = false := by
  cases ht : tagAt (47 :: x) c (d :: t) with
  | false => rfl
  | true =>
    obtain ⟨r, hr⟩ := tagAt_lt ht
    simp at hr
    obtain ⟨_, rfl, _⟩ := hr
    exact absurd rfl h
theorem tagAt_nil (x : List UInt8) (c : UInt8) : tagAt (47 :: x) c [] = false := by
  unfold tagAt
  have e : lowL ([] : List UInt8) = [] := rfl
  rw [e, pre_none, Bool.and_false]
/-- what has been written, and what is left -/
theorem tg_no {tag l done : List UInt8} {k : Nat} {c : UInt8} {t : List UInt8} (h : tagged tag l = done ++ tagged tag (l.drop k)) (hx : l.drop k = c :: t) (hn : tagAt tag c t = false) (ht : l.drop (k + 1) = t) : tagged tag l = (done ++ [c]) ++ tagged tag (l.drop (k + 1)) := by
  rw [h, hx, tagged_no hn, ht]; simp
theorem tg_yes {tag l done : List UInt8} {k : Nat} {c : UInt8} {t : List UInt8} (h : tagged tag l = done ++ tagged tag (l.drop k)) (hx : l.drop k = c :: t) (hn : tagAt tag c t = true) (ht : l.drop (k + 1) = t) : tagged tag l = (done ++ [c] ++ [92]) ++ tagged tag (l.drop (k + 1)) := by
  rw [h, hx, tagged_yes hn, ht]; simp

set_option maxRecDepth 1000000 in
set_option maxHeartbeats 8000000 in
theorem Tagged_calls (s t : ByteArray) (x : List UInt8) (htx : t.data.toList = 47 :: x) (htz : t.size ≤ 1024) (hs : s.size ≤ 4294967296) (w : World) : Calls Tryd.prog 10 #[.string s, .string t] w fun e w' => e = .returned (.string ⟨(tagged t.data.toList s.data.toList).toArray⟩) ∧ Below w.heap.size w w' := by
  obtain ⟨i0, hi0, hz0, hz1, hz2⟩ := info_parts infoU8
  have HTX := Lib.hid htx
  have hsl : s.data.toList.length = s.size := by simp
  have HSL := Lib.hid hsl
  clear htx hsl
  go_enter Tryd.func10, Tryd.ntmps10
  go_wp2
  go_loopw [5, 9] (fun v i wr => ∃ (k : Nat) (done : List UInt8), k ≤ s.size ∧ i = .int .i64 k ∧ Hid (tagged t.data.toList s.data.toList = done ++ tagged t.data.toList (s.data.toList.drop k)) ∧ done.length ≤ 2 * k ∧ wr.ownsRow w.heap.size 5 1 v done.length (bytesV done) ∧ Below w.heap.size w wr) (fun _ i _ => s.size - (intOf i).toNat)
  case atStart => exact ⟨0, [], Nat.zero_le _, rfl, Lib.hid rfl, Nat.le_refl _, World.ownsRow_nil _ _ _ _, Below.refl _ _⟩
  case round =>
    obtain ⟨k, done, hk, rfl, hh, hdl, hown, hb⟩ := hrel
    have hbs := hb.size
    by_cases hlt : k < s.size
    · have hlt' : (k : Int) < (s.size : Int) := by omega
      obtain ⟨c, hc⟩ : ∃ c : UInt8, s[k]'hlt = c := ⟨_, rfl⟩
      have hx := Lib.drop_at (Lib.data_getElem? s k hlt)
      rw [hc] at hx
      have HX := Lib.hid hx
      clear hx
      by_cases hcc : c.toNat = 60
      · have t60 : ((c.toNat : Int) == 60) = true := by rw [beq_iff_eq]; omega
        by_cases hk1 : k + 1 < s.size
        · have hk1' : (k : Int) + 1 < (s.size : Int) := by omega
          have hk1'' : (k : Int) + 1 ≤ (s.size : Int) := by omega
          obtain ⟨d, hd⟩ : ∃ d : UInt8, s[k + 1]'hk1 = d := ⟨_, rfl⟩
          have hx1 := Lib.drop_at (Lib.data_getElem? s (k + 1) hk1)
          rw [hd] at hx1
          have HX1 := Lib.hid hx1
          clear hx1
          by_cases hdd : d.toNat = 47
          · have t47 : ((d.toNat : Int) == 47) = true := by rw [beq_iff_eq]; omega
            have HL := Lib.hid (fun W => Lower_calls (s.extract (k + 1) s.size) (by rw [ByteArray.size_extract]; omega) W)
            rw [tail_of] at HL
            have hlsz : (⟨(lowL (s.data.toList.drop (k + 1))).toArray⟩ : ByteArray).size ≤ 4294967296 := by
              have e : (⟨(lowL (s.data.toList.drop (k + 1))).toArray⟩ : ByteArray).size = (lowL (s.data.toList.drop (k + 1))).length := by simp [ByteArray.size]
              rw [e]; simp [lowL]; omega
            have HB := Lib.hid (fun W => begins_calls (⟨(lowL (s.data.toList.drop (k + 1))).toArray⟩ : ByteArray) t (by omega) (by omega) W)
            obtain ⟨low2, hlow2⟩ : ∃ low2, low2 = (⟨(lowL (s.data.toList.drop (k + 1))).toArray⟩ : ByteArray) := ⟨_, rfl⟩
            have hpre : pre t.data.toList low2.data.toList = tagAt t.data.toList c (s.data.toList.drop (k + 1)) := by rw [tagAt_60 hcc, hlow2]
            rw [← hlow2] at HL HB
            cases hp : pre t.data.toList low2.data.toList with
            | true =>
              rw [hp] at HB hpre
              have HN := Lib.hid (tg_yes hh.out HX.out hpre.symm rfl)
              clear hcc hdd hlow2 hpre hp hlsz
              go_wp2_with (at_builtin
                           refine wpList_append_holds _ rfl (.tmp 12) (.tmp 16) _ rfl w.heap.size 5 i0 _ 1 1 Tryd.underlying27 hi0 hz0 hz1 hz2 rfl (by omega) _ (done).length (bytesV (done)) rfl (hown.alloc _) (wr.heap.size + 1) _ 1 1 [.int .u8 (c.toNat : Int)] rfl rfl (Holds.one _ _ _) (by simp [Value.oneCell']) (by simp only [maxLen]; omega) (by omega) (by simp; omega) ?_
                           intro v1 w4 hown4 hg4 hat4)
              have hb4 := Below.grown (hb.alloc hbs (.cells #[.int .u8 (c.toNat : Int)] 5)) hg4 (by simp; omega) (own_row_ge hown)
              have q := own_form hown4
              obtain ⟨A4, c4, rfl, _, _, _⟩ := q
              have hown5 : w4.ownsRow w.heap.size 5 1 (.slice A4 ((done).length + 1) c4) (done ++ [c]).length (bytesV (done ++ [c])) := by
                rw [← bytesV_snoc, List.length_append]
                exact hown4
              have hs4 := hb4.size
              clear hown4 hg4 hat4 hown hb
              go_wp2_with fail
              refine (HL.out _).mono ?_
              rintro e w5 ⟨rfl, hb5⟩
              have hown6 := own_below hown5 hb5
              have hb6 := hb4.trans (hb5.mono hs4)
              have hs6 := hb6.size
              have hl6 : (done ++ [c]).length = done.length + 1 := by simp
              rw [← hl6] at hown6
              clear hown5 hb4 hs4 hb5
              go_wp2_with fail
              refine (HB.out _).mono ?_
              rintro e w6 ⟨rfl, rfl⟩
              rw [← hl6]
              have Hl6 := Lib.hid hl6
              obtain ⟨D, hD⟩ : ∃ D, D = done ++ [c] := ⟨_, rfl⟩
              rw [← hD] at hown6 HN Hl6 ⊢
              have hDl : D.length ≤ 2 * k + 1 := by rw [Hl6.out]; omega
              clear hl6 hD Hl6
              go_wp2_with (at_builtin
                           refine wpList_append_holds _ rfl (.tmp 45) (.tmp 46) _ rfl w.heap.size 5 i0 _ 1 1 Tryd.underlying27 hi0 hz0 hz1 hz2 rfl (by omega) _ (D).length (bytesV (D)) rfl (hown6.alloc _) (w6.heap.size + 1) _ 1 1 [.int .u8 92] rfl rfl (Holds.one _ _ _) (by simp [Value.oneCell']) (by simp only [maxLen]; omega) (by omega) (by simp; omega) ?_
                           intro v1 w4 hown4 hg4 hat4)
              have hb4 := Below.grown (hb6.alloc hs6 (.cells #[.int .u8 92] 5)) hg4 (by simp; omega) (own_row_ge hown6)
              have q := own_form hown4
              obtain ⟨A4, c4, rfl, _, _, _⟩ := q
              have hown5 : w4.ownsRow w.heap.size 5 1 (.slice A4 ((D).length + 1) c4) (D ++ [(92 : UInt8)]).length (bytesV (D ++ [(92 : UInt8)])) := by
                rw [← bytesV_snoc, List.length_append]
                exact hown4
              have hs4 := hb4.size
              clear hown4 hg4 hat4 hown6 hb6
              go_wp2
              go_roundw
              case rel => exact ⟨k + 1, D ++ [92], by omega, by go_num, HN, by rw [List.length_append]; simp; omega, hown5, hb4⟩
              case measure => simp [intOf]; omega
            | false =>
              rw [hp] at HB hpre
              have HN := Lib.hid (tg_no hh.out HX.out hpre.symm rfl)
              clear hcc hdd hlow2 hpre hp hlsz
              go_wp2_with (at_builtin
                           refine wpList_append_holds _ rfl (.tmp 12) (.tmp 16) _ rfl w.heap.size 5 i0 _ 1 1 Tryd.underlying27 hi0 hz0 hz1 hz2 rfl (by omega) _ (done).length (bytesV (done)) rfl (hown.alloc _) (wr.heap.size + 1) _ 1 1 [.int .u8 (c.toNat : Int)] rfl rfl (Holds.one _ _ _) (by simp [Value.oneCell']) (by simp only [maxLen]; omega) (by omega) (by simp; omega) ?_
                           intro v1 w4 hown4 hg4 hat4)
              have hb4 := Below.grown (hb.alloc hbs (.cells #[.int .u8 (c.toNat : Int)] 5)) hg4 (by simp; omega) (own_row_ge hown)
              have q := own_form hown4
              obtain ⟨A4, c4, rfl, _, _, _⟩ := q
              have hown5 : w4.ownsRow w.heap.size 5 1 (.slice A4 ((done).length + 1) c4) (done ++ [c]).length (bytesV (done ++ [c])) := by
                rw [← bytesV_snoc, List.length_append]
                exact hown4
              have hs4 := hb4.size
              clear hown4 hg4 hat4 hown hb
              go_wp2_with fail
              refine (HL.out _).mono ?_
              rintro e w5 ⟨rfl, hb5⟩
              have hown6 := own_below hown5 hb5
              have hb6 := hb4.trans (hb5.mono hs4)
              clear hown5 hb4 hb5
              go_wp2_with fail
              refine (HB.out _).mono ?_
              rintro e w6 ⟨rfl, rfl⟩
              go_wp2
              go_roundw
              case rel => exact ⟨k + 1, done ++ [c], by omega, by go_num, HN, by rw [List.length_append]; simp; omega, hown6, hb6⟩
              case measure => simp [intOf]; omega
          · have t47 : ((d.toNat : Int) == 47) = false := by rw [beq_eq_false_iff_ne]; omega
            have HN := Lib.hid (tg_no hh.out HX.out (by rw [HX1.out, HTX.out]; exact tagAt_not47 hdd) rfl)
            clear hcc
            go_wp2_with (at_builtin
                         refine wpList_append_holds _ rfl (.tmp 12) (.tmp 16) _ rfl w.heap.size 5 i0 _ 1 1 Tryd.underlying27 hi0 hz0 hz1 hz2 rfl (by omega) _ (done).length (bytesV (done)) rfl (hown.alloc _) (wr.heap.size + 1) _ 1 1 [.int .u8 (c.toNat : Int)] rfl rfl (Holds.one _ _ _) (by simp [Value.oneCell']) (by simp only [maxLen]; omega) (by omega) (by simp; omega) ?_
                         intro v1 w4 hown4 hg4 hat4)
            have hb4 := Below.grown (hb.alloc hbs (.cells #[.int .u8 (c.toNat : Int)] 5)) hg4 (by simp; omega) (own_row_ge hown)
            have q := own_form hown4
            obtain ⟨A4, c4, rfl, _, _, _⟩ := q
            have hown5 : w4.ownsRow w.heap.size 5 1 (.slice A4 ((done).length + 1) c4) (done ++ [c]).length (bytesV (done ++ [c])) := by
              rw [← bytesV_snoc, List.length_append]
              exact hown4
            have hs4 := hb4.size
            clear hown4 hg4 hat4 hown hb
            go_wp2
            go_roundw
            case rel => exact ⟨k + 1, done ++ [c], by omega, by go_num, HN, by rw [List.length_append]; simp; omega, hown5, hb4⟩
            case measure => simp [intOf]; omega
        · have hk1' : ¬ (k : Int) + 1 < (s.size : Int) := by omega
          have HN := Lib.hid (tg_no hh.out HX.out (by rw [List.drop_eq_nil_of_le (by rw [HSL.out]; omega), HTX.out]; exact tagAt_nil _ _) rfl)
          clear hcc
          go_wp2_with (at_builtin
                       refine wpList_append_holds _ rfl (.tmp 12) (.tmp 16) _ rfl w.heap.size 5 i0 _ 1 1 Tryd.underlying27 hi0 hz0 hz1 hz2 rfl (by omega) _ (done).length (bytesV (done)) rfl (hown.alloc _) (wr.heap.size + 1) _ 1 1 [.int .u8 (c.toNat : Int)] rfl rfl (Holds.one _ _ _) (by simp [Value.oneCell']) (by simp only [maxLen]; omega) (by omega) (by simp; omega) ?_
                       intro v1 w4 hown4 hg4 hat4)
          have hb4 := Below.grown (hb.alloc hbs (.cells #[.int .u8 (c.toNat : Int)] 5)) hg4 (by simp; omega) (own_row_ge hown)
          have q := own_form hown4
          obtain ⟨A4, c4, rfl, _, _, _⟩ := q
          have hown5 : w4.ownsRow w.heap.size 5 1 (.slice A4 ((done).length + 1) c4) (done ++ [c]).length (bytesV (done ++ [c])) := by
            rw [← bytesV_snoc, List.length_append]
            exact hown4
          have hs4 := hb4.size
          clear hown4 hg4 hat4 hown hb
          go_wp2
          go_roundw
          case rel => exact ⟨k + 1, done ++ [c], by omega, by go_num, HN, by rw [List.length_append]; simp; omega, hown5, hb4⟩
          case measure => simp [intOf]; omega
      · have t60 : ((c.toNat : Int) == 60) = false := by rw [beq_eq_false_iff_ne]; omega
        have HN := Lib.hid (tg_no hh.out HX.out (tagAt_not60 hcc) rfl)
        clear hcc
        go_wp2_with (at_builtin
                     refine wpList_append_holds _ rfl (.tmp 12) (.tmp 16) _ rfl w.heap.size 5 i0 _ 1 1 Tryd.underlying27 hi0 hz0 hz1 hz2 rfl (by omega) _ (done).length (bytesV (done)) rfl (hown.alloc _) (wr.heap.size + 1) _ 1 1 [.int .u8 (c.toNat : Int)] rfl rfl (Holds.one _ _ _) (by simp [Value.oneCell']) (by simp only [maxLen]; omega) (by omega) (by simp; omega) ?_
                     intro v1 w4 hown4 hg4 hat4)
        have hb4 := Below.grown (hb.alloc hbs (.cells #[.int .u8 (c.toNat : Int)] 5)) hg4 (by simp; omega) (own_row_ge hown)
        have q := own_form hown4
        obtain ⟨A4, c4, rfl, _, _, _⟩ := q
        have hown5 : w4.ownsRow w.heap.size 5 1 (.slice A4 ((done).length + 1) c4) (done ++ [c]).length (bytesV (done ++ [c])) := by
          rw [← bytesV_snoc, List.length_append]
          exact hown4
        have hs4 := hb4.size
        clear hown4 hg4 hat4 hown hb
        go_wp2
        go_roundw
        case rel => exact ⟨k + 1, done ++ [c], by omega, by go_num, HN, by rw [List.length_append]; simp; omega, hown5, hb4⟩
        case measure => simp [intOf]; omega
    · obtain rfl : k = s.size := by omega
      have HN := Lib.hid (show done = tagged t.data.toList s.data.toList by rw [hh.out, List.drop_eq_nil_of_le (by rw [HSL.out]; exact Nat.le_refl _)]; simp [tagged])
      have q := own_form hown
      obtain ⟨A4, c4, rfl, _, _, hh4⟩ := q
      have hcv := run_bytes_text (P := Tryd.prog) wr 27 9 5 Tryd.underlying27 Tryd.underlying5 Tryd.underlying9 wr.heap.size A4 done.length c4 done rfl hh4
      clear hown hh4
      go_wp2
      go_ret
      exact ⟨by rw [HN.out]; rfl, hb⟩

set_option maxRecDepth 100000 in
theorem HasTag_no (s t : ByteArray) (x : List UInt8) (htx : t.data.toList = 47 :: x) (htz : t.size ≤ 1024) (hs : s.size ≤ 8589934592) (hcl : Stamp.Clean t.data.toList s.data.toList) (w : World) : Calls Tryd.prog 11 #[.string s, .string t] w fun e w' => e = .returned (.bool false) ∧ Below w.heap.size w w' := by
  have HL := Lib.hid (fun W => Lower_calls s hs W)
  obtain ⟨low2, hlow2⟩ : ∃ low2, low2 = (⟨(lowL s.data.toList).toArray⟩ : ByteArray) := ⟨_, rfl⟩
  have hlsz : low2.size ≤ 8589934592 := by
    have e : (⟨(lowL s.data.toList).toArray⟩ : ByteArray).size = (lowL s.data.toList).length := by simp [ByteArray.size]
    rw [hlow2, e]; simp [lowL]; exact hs
  have hy : ((⟨#[60]⟩ : ByteArray) ++ t).data.toList = 60 :: t.data.toList := by rw [ByteArray.data_append, Array.toList_append]; rfl
  have hyz : ((⟨#[60]⟩ : ByteArray) ++ t).size = 1 + t.size := by rw [ByteArray.size_append]; rfl
  have HH := Lib.hid (fun W => Has_no low2 ((⟨#[60]⟩ : ByteArray) ++ t) hlsz (by omega) (by omega) (by
    intro i h
    rw [hy, hlow2] at h
    have h1 := clean_no _ hcl i
    unfold atX at h
    unfold pre lowL at h1
    rw [List.map_drop] at h1
    have h2 : (lowL s.data.toList).drop i = List.drop i (List.map low s.data.toList) := rfl
    rw [show (⟨(lowL s.data.toList).toArray⟩ : ByteArray).data.toList = lowL s.data.toList from rfl, h2] at h
    rw [decide_eq_true h] at h1
    cases h1) W)
  rw [← hlow2] at HL
  clear hlow2 hy hyz htx hcl
  go_enter Tryd.func11, Tryd.ntmps11
  go_wp2_with fail
  refine (HL.out _).mono ?_
  rintro e w1 ⟨rfl, hb⟩
  go_wp2_with fail
  refine (HH.out _).mono ?_
  rintro e w2 ⟨rfl, rfl⟩
  go_wp2
  go_ret
  exact ⟨rfl, hb⟩
end Go.Proofs.YtmepooboopncmaaDoor
