/- The contracts of 'spec.InModules', 'helpers.IsInsideNodeModules'. -/
import Derived.Test.YtmepooboopncmaaDoorMoB
import Derived.Deep.QuietTactic
import Derived.BigQuiet
namespace Go.Proofs.YtmepooboopncmaaDoor
open Go.RowKit Stamp
set_option linter.unusedVariables false

def NM : ByteArray := ⟨#[110, 111, 100, 101, 95, 109, 111, 100, 117, 108, 101, 115]⟩
theorem nm_beq (m : ByteArray) : (m.toList == (⟨#[110, 111, 100, 101, 95, 109, 111, 100, 117, 108, 101, 115]⟩ : ByteArray).toList) = decide (m.data.toList = nodeM) := by
  rw [bytes_beq]
  apply decide_eq_decide.2
  constructor
  · rintro rfl; rfl
  · intro h
    apply ByteArray.ext
    apply Array.ext'
    exact h
theorem nm_beq2 (m : ByteArray) : (m.toList == [110, 111, 100, 101, 95, 109, 111, 100, 117, 108, 101, 115]) = decide (m.data.toList = nodeM) := by
  have : (⟨#[110, 111, 100, 101, 95, 109, 111, 100, 117, 108, 101, 115]⟩ : ByteArray).toList = [110, 111, 100, 101, 95, 109, 111, 100, 117, 108, 101, 115] := by rw [Go.ByteArray.toList_eq]
  rw [← this]; exact nm_beq m
theorem cut_bytes (s : ByteArray) (r k : Nat) : (s.extract r k).data.toList = (s.data.toList.drop r).take (k - r) := by
  rw [ByteArray.data_extract, Array.toList_extract, List.extract_eq_take_drop]
theorem cut_snoc {s : ByteArray} {j k : Nat} (hj : j ≤ k) (hk : k < s.size) : (s.extract j (k + 1)).data.toList = (s.extract j k).data.toList ++ [s[k]] := by
  rw [cut_bytes, cut_bytes, show k + 1 - j = (k - j) + 1 by omega, List.take_add_one, List.getElem?_drop, show j + (k - j) = k by omega, Lib.data_getElem? s k hk]; rfl
theorem cut_none (s : ByteArray) (k : Nat) : (s.extract k k).data.toList = [] := by
  rw [cut_bytes, Nat.sub_self, List.take_zero]

set_option maxRecDepth 1000000 in
set_option maxHeartbeats 8000000 in
theorem Spec_calls (s : ByteArray) (hs : s.size ≤ 2147483647) (w : World) :
    Calls Tryd.prog 7 #[.string s] w fun e w' => e = .returned (.bool (modF true [] s.data.toList)) ∧ w' = w := by
  have hl : s.data.toList.length = s.size := by simp
  have HL := Lib.hid hl
  clear hl
  go_enter Tryd.func7, Tryd.ntmps7
  go_wp2
  go_loop [3, 4] (fun f i => ∃ (fi : Int) (k : Nat), f = .int .i64 fi ∧ i = .int .i64 (k : Int) ∧ ((k = s.size + 1 ∧ Hid (modF true [] s.data.toList = false)) ∨ (k ≤ s.size ∧ fi = -1 ∧ ∃ cur, Hid (modF true [] s.data.toList = modF true cur (s.data.toList.drop k))) ∨ (k ≤ s.size ∧ ∃ j : Nat, fi = (j : Int) ∧ j ≤ k ∧ Hid (modF true [] s.data.toList = modF false (s.extract j k).data.toList (s.data.toList.drop k))))) (fun _ i => s.size + 1 - (intOf i).toNat)
  case atStart => exact ⟨-1, 0, rfl, rfl, .inr (.inl ⟨Nat.zero_le _, rfl, [], Lib.hid rfl⟩)⟩
  case round =>
    obtain ⟨fi, k, rfl, rfl, hh⟩ := hrel
    rcases hh with ⟨hk, hv⟩ | ⟨hk, rfl, cur, hv⟩ | ⟨hk, j, rfl, hj, hv⟩
    · have hle : ¬ (k : Int) ≤ (s.size : Int) := by omega
      clear hk
      go_wp2
      go_ret
      exact ⟨ret_bool hv.out.symm, rfl⟩
    · have hle : (k : Int) ≤ (s.size : Int) := by omega
      by_cases hlt : k < s.size
      · have hlt' : (k : Int) < (s.size : Int) := by omega
        have hne : ((k : Int) == (s.size : Int)) = false := by simp; omega
        have HX := Lib.hid (Lib.drop_at (Lib.data_getElem? s k hlt))
        cases hsl : isSl s[k] with
        | true =>
          have HN : Hid (modF true [] s.data.toList = modF false (s.extract (k + 1) (k + 1)).data.toList (s.data.toList.drop (k + 1))) := Lib.hid (by rw [hv.out, HX.out, modF_sl hsl, cut_none]; rfl)
          clear hv HX
          rcases (show s[k].toNat = 47 ∨ s[k].toNat = 92 by simp [isSl] at hsl; omega) with hc | hc
          · have t47 : ((s[k].toNat : Int) == 47) = true := by simp; omega
            clear hsl hc
            go_wp2
            go_round
            case rel => exact ⟨((k + 1 : Nat) : Int), k + 1, by go_num, by go_num, .inr (.inr ⟨by omega, k + 1, rfl, Nat.le_refl _, HN⟩)⟩
            case measure => simp [intOf]; omega
          · have t47 : ((s[k].toNat : Int) == 47) = false := by simp; omega
            have t92 : ((s[k].toNat : Int) == 92) = true := by simp; omega
            clear hsl hc
            go_wp2
            go_round
            case rel => exact ⟨((k + 1 : Nat) : Int), k + 1, by go_num, by go_num, .inr (.inr ⟨by omega, k + 1, rfl, Nat.le_refl _, HN⟩)⟩
            case measure => simp [intOf]; omega
        | false =>
          have HN := Lib.hid (show modF true [] s.data.toList = modF true (cur ++ [s[k]]) (s.data.toList.drop (k + 1)) by rw [hv.out, HX.out, modF_no hsl])
          clear hv HX
          have t47 : ((s[k].toNat : Int) == 47) = false := by simp [isSl] at hsl; simp; omega
          have t92 : ((s[k].toNat : Int) == 92) = false := by simp [isSl] at hsl; simp; omega
          clear hsl
          go_wp2
          go_round
          case rel => exact ⟨-1, k + 1, rfl, by go_num, .inr (.inl ⟨by omega, rfl, _, HN⟩)⟩
          case measure => simp [intOf]; omega
      · obtain rfl : k = s.size := by omega
        have HN : Hid (modF true [] s.data.toList = false) := Lib.hid (by rw [hv.out, List.drop_eq_nil_of_le (by rw [HL.out]; exact Nat.le_refl _)]; rfl)
        clear hv
        go_wp2
        go_round
        case rel => exact ⟨_, s.size + 1, rfl, by go_num, .inl ⟨rfl, HN⟩⟩
        case measure => simp [intOf]
    · have hle : (k : Int) ≤ (s.size : Int) := by omega
      have hj1 : (j : Int) ≤ (k : Int) := by omega
      have hj0 : (0 : Int) ≤ (j : Int) := by omega
      by_cases hlt : k < s.size
      · have hlt' : (k : Int) < (s.size : Int) := by omega
        have hne : ((k : Int) == (s.size : Int)) = false := by simp; omega
        have HX := Lib.hid (Lib.drop_at (Lib.data_getElem? s k hlt))
        cases hsl : isSl s[k] with
        | true =>
          cases hB : decide ((s.extract j k).data.toList = nodeM) with
          | true =>
            have t1 := (nm_beq (s.extract j k)).trans hB
            have t2 := (nm_beq2 (s.extract j k)).trans hB
            have HN : Hid (true = modF true [] s.data.toList) := Lib.hid (by rw [hv.out, HX.out, modF_sl hsl, hB]; rfl)
            clear hv HX hB
            rcases (show s[k].toNat = 47 ∨ s[k].toNat = 92 by simp [isSl] at hsl; omega) with hc | hc
            · have t47 : ((s[k].toNat : Int) == 47) = true := by simp; omega
              clear hsl hc
              go_wp2
              go_ret
              exact ⟨ret_bool HN.out, rfl⟩
            · have t47 : ((s[k].toNat : Int) == 47) = false := by simp; omega
              have t92 : ((s[k].toNat : Int) == 92) = true := by simp; omega
              clear hsl hc
              go_wp2
              go_ret
              exact ⟨ret_bool HN.out, rfl⟩
          | false =>
            have t1 := (nm_beq (s.extract j k)).trans hB
            have t2 := (nm_beq2 (s.extract j k)).trans hB
            have HN : Hid (modF true [] s.data.toList = modF false (s.extract (k + 1) (k + 1)).data.toList (s.data.toList.drop (k + 1))) := Lib.hid (by rw [hv.out, HX.out, modF_sl hsl, cut_none, hB]; rfl)
            clear hv HX hB
            rcases (show s[k].toNat = 47 ∨ s[k].toNat = 92 by simp [isSl] at hsl; omega) with hc | hc
            · have t47 : ((s[k].toNat : Int) == 47) = true := by simp; omega
              clear hsl hc
              go_wp2
              go_round
              case rel => exact ⟨((k + 1 : Nat) : Int), k + 1, by go_num, by go_num, .inr (.inr ⟨by omega, k + 1, rfl, Nat.le_refl _, HN⟩)⟩
              case measure => simp [intOf]; omega
            · have t47 : ((s[k].toNat : Int) == 47) = false := by simp; omega
              have t92 : ((s[k].toNat : Int) == 92) = true := by simp; omega
              clear hsl hc
              go_wp2
              go_round
              case rel => exact ⟨((k + 1 : Nat) : Int), k + 1, by go_num, by go_num, .inr (.inr ⟨by omega, k + 1, rfl, Nat.le_refl _, HN⟩)⟩
              case measure => simp [intOf]; omega
        | false =>
          have HN := Lib.hid (show modF true [] s.data.toList = modF false (s.extract j (k + 1)).data.toList (s.data.toList.drop (k + 1)) by rw [hv.out, HX.out, modF_no hsl, cut_snoc hj hlt])
          clear hv HX
          have t47 : ((s[k].toNat : Int) == 47) = false := by simp [isSl] at hsl; simp; omega
          have t92 : ((s[k].toNat : Int) == 92) = false := by simp [isSl] at hsl; simp; omega
          clear hsl
          go_wp2
          go_round
          case rel => exact ⟨(j : Int), k + 1, rfl, by go_num, .inr (.inr ⟨by omega, j, rfl, by omega, HN⟩)⟩
          case measure => simp [intOf]; omega
      · obtain rfl : k = s.size := by omega
        cases hB : decide ((s.extract j s.size).data.toList = nodeM) with
        | true =>
          have t1 := (nm_beq (s.extract j s.size)).trans hB
          have t2 := (nm_beq2 (s.extract j s.size)).trans hB
          have HN : Hid (true = modF true [] s.data.toList) := Lib.hid (by rw [hv.out, List.drop_eq_nil_of_le (by rw [HL.out]; exact Nat.le_refl _), modF_nil, hB]; rfl)
          clear hv hB
          go_wp2
          go_ret
          exact ⟨ret_bool HN.out, rfl⟩
        | false =>
          have t1 := (nm_beq (s.extract j s.size)).trans hB
          have t2 := (nm_beq2 (s.extract j s.size)).trans hB
          have HN : Hid (modF true [] s.data.toList = false) := Lib.hid (by rw [hv.out, List.drop_eq_nil_of_le (by rw [HL.out]; exact Nat.le_refl _), modF_nil, hB]; rfl)
          clear hv hB
          go_wp2
          go_round
          case rel => exact ⟨_, s.size + 1, rfl, by go_num, .inl ⟨rfl, HN⟩⟩
          case measure => simp [intOf]

set_option maxRecDepth 1000000 in
set_option maxHeartbeats 8000000 in
theorem Helper_calls (s : ByteArray) (hs : s.size ≤ 2147483647) (w : World) (hT : Lib.Utf8Tabs 4 5 w) :
    Calls Tryd.prog 12 #[.string s] w fun e w' => e = .returned (.bool (modF true [] s.data.toList)) ∧ Below w.heap.size w w' := by
  have HT := Lib.hid hT
  clear hT
  go_enter Tryd.func12, Tryd.ntmps12
  go_wp2
  go_loopw [0] (fun p wr => ∃ m : ByteArray, p = .string m ∧ m.size ≤ s.size ∧ Hid (modF true [] s.data.toList = modF true [] m.data.toList) ∧ Below w.heap.size w wr) (fun p _ => strLen p)
  case atStart => exact ⟨s, rfl, Nat.le_refl _, Lib.hid rfl, Below.refl _ _⟩
  case round =>
    obtain ⟨m, rfl, hms, hv, hb⟩ := hrel
    have hbs := hb.size
    have hTw := Lib.hid (Go.Proofs.Utf8Tabs_below HT.out hb)
    go_wp2_with fail
    refine (Last_calls m (by omega) _ hTw.out).mono ?_
    rintro e w2 ⟨⟨r, rfl, hr⟩, hb2⟩
    have hb3 := hb.trans (hb2.mono hbs)
    rcases hr with ⟨rfl, hf⟩ | ⟨k, rfl, c, base, hd, hk, hc, hf⟩
    · have HN : Hid (false = modF true [] s.data.toList) := Lib.hid (by rw [hv.out, modF_free true _ _ hf]; rfl)
      clear hf hv hTw
      go_wp2
      go_ret
      exact ⟨ret_bool HN.out, hb3⟩
    · have hl : m.data.toList.length = m.size := by simp
      rw [hl] at hk
      have hbase : (m.extract (k + 1) m.size).data.toList = base := by
        rw [cut_bytes, List.take_of_length_le (by rw [List.length_drop, hl]; exact Nat.le_refl _), ← List.drop_drop, hd]; rfl
      have hback : modF true [] m.data.toList = (modF true [] (m.extract 0 k).data.toList || decide ((m.extract (k + 1) m.size).data.toList = nodeM)) := by
        have e : m.data.toList = m.data.toList.take k ++ c :: base := by rw [← hd, List.take_append_drop]
        rw [hbase, to_bytes, ← modF_back hc base hf, ← e]
      have tk : ((k : Int) == -1) = false := by simp
      have hk1 : (k : Int) < (m.size : Int) := by omega
      have hk2 : (k : Int) + 1 ≤ (m.size : Int) := by omega
      cases hB : decide ((m.extract (k + 1) m.size).data.toList = nodeM) with
      | true =>
        have t1 := (nm_beq _).trans hB
        have t2 := (nm_beq2 _).trans hB
        have HN : Hid (true = modF true [] s.data.toList) := Lib.hid (by rw [hv.out, hback, hB, Bool.or_true])
        clear hv hback hB hbase hl hd hf hTw
        go_wp2
        go_quiet (fail)
        go_wp2
        go_ret
        exact ⟨ret_bool HN.out, below_drewN hb3 _⟩
      | false =>
        have t1 := (nm_beq _).trans hB
        have t2 := (nm_beq2 _).trans hB
        have HN : Hid (modF true [] s.data.toList = modF true [] (m.extract 0 k).data.toList) := Lib.hid (by rw [hv.out, hback, hB, Bool.or_false])
        clear hv hback hB hbase hl hd hf hTw
        go_wp2
        go_quiet (fail)
        go_wp2
        go_roundw
        case rel => exact ⟨m.extract 0 k, rfl, by rw [ByteArray.size_extract]; omega, HN, below_drewN hb3 _⟩
        case measure => simp [strLen]; omega

theorem Impl_calls (s : ByteArray) (hs : s.size ≤ 2147483647) (w : World) (hT : Lib.Utf8Tabs 4 5 w) :
    Calls Tryd.prog 6 #[.string s] w fun e w' => e = .returned (.bool (modF true [] s.data.toList)) ∧ Below w.heap.size w w' := by
  have HC := Lib.hid (Helper_calls s hs w hT)
  clear hT
  go_enter Tryd.func6, Tryd.ntmps6
  go_wp2_with fail
  refine HC.out.mono ?_
  rintro e w' ⟨rfl, hb⟩
  go_wp2
  go_ret
  exact ⟨rfl, hb⟩
end Go.Proofs.YtmepooboopncmaaDoor
