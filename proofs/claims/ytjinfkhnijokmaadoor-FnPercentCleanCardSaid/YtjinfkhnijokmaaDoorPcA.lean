/- The contracts of 'helpers.isHex', 'spec.hex', 'spec.begins', 'spec.IsMime', 'spec.IsClean'. -/
import Derived.Test.YtjinfkhnijokmaaDoorPcP
import Derived.Test.YtjinfkhnijokmaaDoorPoints
import Derived.Lib.IndexBytes
import Derived.Laws.DeepStrings4
namespace Go.Proofs.YtjinfkhnijokmaaDoor
open Go.RowKit Stamp
set_option linter.unusedVariables false


theorem drop_at {l : List UInt8} {i : Nat} {c : UInt8} (h : l[i]? = some c) : l.drop i = c :: l.drop (i + 1) := by
  obtain ⟨h1, h2⟩ := List.getElem?_eq_some_iff.1 h
  rw [List.drop_eq_getElem_cons h1, h2]

set_option maxRecDepth 100000 in
set_option maxHeartbeats 4000000 in
theorem isHex_calls (c : UInt8) (w : World) : Calls Tryd.prog 19 #[.int .u8 (c.toNat : Int)] w fun e w' => e = .returned (.bool (isHx c)) ∧ w' = w := by
  have hb := c.toNat_lt
  rcases (show (0 ≤ c.toNat ∧ c.toNat ≤ 47) ∨ (48 ≤ c.toNat ∧ c.toNat ≤ 57) ∨ (58 ≤ c.toNat ∧ c.toNat ≤ 64) ∨ (65 ≤ c.toNat ∧ c.toNat ≤ 70) ∨ (71 ≤ c.toNat ∧ c.toNat ≤ 96) ∨ (97 ≤ c.toNat ∧ c.toNat ≤ 102) ∨ (103 ≤ c.toNat ∧ c.toNat ≤ 255) by omega) with hc | hc | hc | hc | hc | hc | hc
  · have HB := Lib.hid (show false = isHx c by simp [isHx]; omega)
    have hlo : (0 : Int) ≤ (c.toNat : Int) := by omega
    have hhi : (c.toNat : Int) ≤ 47 := by omega
    have k57 : decide ((c.toNat : Int) ≤ 57) = true := by simp; omega
    have k102 : decide ((c.toNat : Int) ≤ 102) = true := by simp; omega
    have k70 : decide ((c.toNat : Int) ≤ 70) = true := by simp; omega
    clear hc hb
    generalize (c.toNat : Int) = z at *
    go_enter Tryd.func19, Tryd.ntmps19
    go_wp2
    go_ret
    exact ⟨ret_bool HB.out, rfl⟩
  · have HB := Lib.hid (show true = isHx c by simp [isHx]; omega)
    have hlo : (48 : Int) ≤ (c.toNat : Int) := by omega
    have hhi : (c.toNat : Int) ≤ 57 := by omega
    have k57 : decide ((c.toNat : Int) ≤ 57) = true := by simp; omega
    have k102 : decide ((c.toNat : Int) ≤ 102) = true := by simp; omega
    have k70 : decide ((c.toNat : Int) ≤ 70) = true := by simp; omega
    clear hc hb
    generalize (c.toNat : Int) = z at *
    go_enter Tryd.func19, Tryd.ntmps19
    go_wp2
    go_ret
    exact ⟨ret_bool HB.out, rfl⟩
  · have HB := Lib.hid (show false = isHx c by simp [isHx]; omega)
    have hlo : (58 : Int) ≤ (c.toNat : Int) := by omega
    have hhi : (c.toNat : Int) ≤ 64 := by omega
    have k57 : decide ((c.toNat : Int) ≤ 57) = false := by simp; omega
    have k102 : decide ((c.toNat : Int) ≤ 102) = true := by simp; omega
    have k70 : decide ((c.toNat : Int) ≤ 70) = true := by simp; omega
    clear hc hb
    generalize (c.toNat : Int) = z at *
    go_enter Tryd.func19, Tryd.ntmps19
    go_wp2
    go_ret
    exact ⟨ret_bool HB.out, rfl⟩
  · have HB := Lib.hid (show true = isHx c by simp [isHx]; omega)
    have hlo : (65 : Int) ≤ (c.toNat : Int) := by omega
    have hhi : (c.toNat : Int) ≤ 70 := by omega
    have k57 : decide ((c.toNat : Int) ≤ 57) = false := by simp; omega
    have k102 : decide ((c.toNat : Int) ≤ 102) = true := by simp; omega
    have k70 : decide ((c.toNat : Int) ≤ 70) = true := by simp; omega
    clear hc hb
    generalize (c.toNat : Int) = z at *
    go_enter Tryd.func19, Tryd.ntmps19
    go_wp2
    go_ret
    exact ⟨ret_bool HB.out, rfl⟩
  · have HB := Lib.hid (show false = isHx c by simp [isHx]; omega)
    have hlo : (71 : Int) ≤ (c.toNat : Int) := by omega
    have hhi : (c.toNat : Int) ≤ 96 := by omega
    have k57 : decide ((c.toNat : Int) ≤ 57) = false := by simp; omega
    have k102 : decide ((c.toNat : Int) ≤ 102) = true := by simp; omega
    have k70 : decide ((c.toNat : Int) ≤ 70) = false := by simp; omega
    clear hc hb
    generalize (c.toNat : Int) = z at *
    go_enter Tryd.func19, Tryd.ntmps19
    go_wp2
    go_ret
    exact ⟨ret_bool HB.out, rfl⟩
  · have HB := Lib.hid (show true = isHx c by simp [isHx]; omega)
    have hlo : (97 : Int) ≤ (c.toNat : Int) := by omega
    have hhi : (c.toNat : Int) ≤ 102 := by omega
    have k57 : decide ((c.toNat : Int) ≤ 57) = false := by simp; omega
    have k102 : decide ((c.toNat : Int) ≤ 102) = true := by simp; omega
    have k70 : decide ((c.toNat : Int) ≤ 70) = false := by simp; omega
    clear hc hb
    generalize (c.toNat : Int) = z at *
    go_enter Tryd.func19, Tryd.ntmps19
    go_wp2
    go_ret
    exact ⟨ret_bool HB.out, rfl⟩
  · have HB := Lib.hid (show false = isHx c by simp [isHx]; omega)
    have hlo : (103 : Int) ≤ (c.toNat : Int) := by omega
    have hhi : (c.toNat : Int) ≤ 255 := by omega
    have k57 : decide ((c.toNat : Int) ≤ 57) = false := by simp; omega
    have k102 : decide ((c.toNat : Int) ≤ 102) = false := by simp; omega
    have k70 : decide ((c.toNat : Int) ≤ 70) = false := by simp; omega
    clear hc hb
    generalize (c.toNat : Int) = z at *
    go_enter Tryd.func19, Tryd.ntmps19
    go_wp2
    go_ret
    exact ⟨ret_bool HB.out, rfl⟩

def hexV : Nat → List UInt8 → Option Nat
  | n, [] => some n
  | n, c :: l => match hv c with
    | none => none
    | some d => if 1114111 < 16 * n + d then none else hexV (16 * n + d) l
def hexPost (l : List UInt8) (e : Ending) : Prop := match hexV 0 l with
  | some n => e = .returned (.tuple #[.int .i64 (n : Int), .bool (!l.isEmpty)])
  | none => e = .returned (.tuple #[.int .i64 0, .bool false])
theorem hexV_yes {n d : Nat} {c : UInt8} {l : List UInt8} (h : hv c = some d) (hb : 16 * n + d ≤ 1114111) : hexV n (c :: l) = hexV (16 * n + d) l := by simp only [hexV, h]; rw [if_neg (by omega)]
theorem hexV_great {n d : Nat} {c : UInt8} {l : List UInt8} (h : hv c = some d) (hb : ¬ 16 * n + d ≤ 1114111) : hexV n (c :: l) = none := by simp only [hexV, h]; rw [if_pos (by omega)]
theorem hexV_no {n : Nat} {c : UInt8} {l : List UInt8} (h : hv c = none) : hexV n (c :: l) = none := by simp only [hexV, h]
theorem hexPost_none {l : List UInt8} (h : hexV 0 l = none) : hexPost l (.returned (.tuple #[.int .i64 0, .bool false])) := by unfold hexPost; rw [h]
theorem hexPost_some {l : List UInt8} {n : Nat} (h : hexV 0 l = some n) (b : Bool) (hb : b = !l.isEmpty) : hexPost l (.returned (.tuple #[.int .i64 (n : Int), .bool b])) := by unfold hexPost; rw [h, hb]

set_option maxRecDepth 100000 in
set_option maxHeartbeats 4000000 in
theorem hex_calls (s : ByteArray) (hs : s.size ≤ 1099511627776) (w : World) : Calls Tryd.prog 23 #[.string s] w fun e w' => hexPost s.data.toList e ∧ w' = w := by
  go_enter Tryd.func23, Tryd.ntmps23
  go_wp2
  go_loop [4, 9] (fun v i => ∃ k n : Nat, k ≤ s.size ∧ i = .int .i64 k ∧ v = .int .i64 n ∧ n ≤ 1114111 ∧ Hid (hexV 0 s.data.toList = hexV n (s.data.toList.drop k))) (fun _ i => s.size - (intOf i).toNat)
  case atStart => exact ⟨0, 0, Nat.zero_le _, rfl, rfl, by omega, Lib.hid rfl⟩
  case round =>
    obtain ⟨k, n, hk, rfl, rfl, hn, hh⟩ := hrel
    by_cases hlt : k < s.size
    · have hlt' : (k : Int) < (s.size : Int) := by omega
      have hx := drop_at (Lib.data_getElem? s k hlt)
      have Hx := Lib.hid hx
      have hb := s[k].toNat_lt
      clear hx
      rcases (show s[k].toNat < 48 ∨ (48 ≤ s[k].toNat ∧ s[k].toNat ≤ 57) ∨ (58 ≤ s[k].toNat ∧ s[k].toNat ≤ 64) ∨ (65 ≤ s[k].toNat ∧ s[k].toNat ≤ 70) ∨ (71 ≤ s[k].toNat ∧ s[k].toNat ≤ 96) ∨ (97 ≤ s[k].toNat ∧ s[k].toNat ≤ 102) ∨ 103 ≤ s[k].toNat by omega) with hc | hc | hc | hc | hc | hc | hc
      · have hlo : (0 : Int) ≤ (s[k].toNat : Int) := by omega
        have hhi : (s[k].toNat : Int) ≤ 47 := by omega
        have HN := Lib.hid (show hexV 0 s.data.toList = none by rw [hh.out, Hx.out]; exact hexV_no (by unfold hv; rw [if_neg (by omega), if_neg (by omega), if_neg (by omega)]))
        clear hc
        go_wp2
        go_ret2
        exact ⟨hexPost_none HN.out, rfl⟩
      · have hlo : (48 : Int) ≤ (s[k].toNat : Int) := by omega
        have hhi : (s[k].toNat : Int) ≤ 57 := by omega
        have Hd := Lib.hid (show hv s[k] = some (s[k].toNat - 48) by unfold hv; rw [if_pos hc])
        obtain ⟨m, hm, Hm⟩ : ∃ m : Nat, (16 * (n : Int) + ((s[k].toNat : Int) - 48) : Int) = (m : Int) ∧ Hid (m = 16 * n + (s[k].toNat - 48)) := ⟨16 * n + (s[k].toNat - 48), by omega, Lib.hid rfl⟩
        clear hc
        by_cases hm2 : m ≤ 1114111
        · have hm3 : ¬ (1114111 : Int) < (m : Int) := by omega
          have HN := Lib.hid (show hexV 0 s.data.toList = hexV m (s.data.toList.drop (k + 1)) by rw [hh.out, Hx.out, hexV_yes Hd.out (by rw [← Hm.out]; exact hm2), ← Hm.out])
          go_wp2
          go_round
          case rel => exact ⟨k + 1, m, by omega, by go_num, by first | rfl | go_num, hm2, HN⟩
          case measure => simp [intOf]; omega
        · have hm3 : (1114111 : Int) < (m : Int) := by omega
          have HN := Lib.hid (show hexV 0 s.data.toList = none by rw [hh.out, Hx.out, hexV_great Hd.out (by rw [← Hm.out]; exact hm2)])
          go_wp2
          go_ret2
          exact ⟨hexPost_none HN.out, rfl⟩
      · have hlo : (58 : Int) ≤ (s[k].toNat : Int) := by omega
        have hhi : (s[k].toNat : Int) ≤ 64 := by omega
        have HN := Lib.hid (show hexV 0 s.data.toList = none by rw [hh.out, Hx.out]; exact hexV_no (by unfold hv; rw [if_neg (by omega), if_neg (by omega), if_neg (by omega)]))
        clear hc
        go_wp2
        go_ret2
        exact ⟨hexPost_none HN.out, rfl⟩
      · have hlo : (65 : Int) ≤ (s[k].toNat : Int) := by omega
        have hhi : (s[k].toNat : Int) ≤ 70 := by omega
        have Hd := Lib.hid (show hv s[k] = some (s[k].toNat - 65 + 10) by unfold hv; rw [if_neg (by omega), if_neg (by omega), if_pos hc])
        obtain ⟨m, hm, Hm⟩ : ∃ m : Nat, (16 * (n : Int) + ((s[k].toNat : Int) - 65) + 10 : Int) = (m : Int) ∧ Hid (m = 16 * n + (s[k].toNat - 65 + 10)) := ⟨16 * n + (s[k].toNat - 65 + 10), by omega, Lib.hid rfl⟩
        clear hc
        by_cases hm2 : m ≤ 1114111
        · have hm3 : ¬ (1114111 : Int) < (m : Int) := by omega
          have HN := Lib.hid (show hexV 0 s.data.toList = hexV m (s.data.toList.drop (k + 1)) by rw [hh.out, Hx.out, hexV_yes Hd.out (by rw [← Hm.out]; exact hm2), ← Hm.out])
          go_wp2
          go_round
          case rel => exact ⟨k + 1, m, by omega, by go_num, by first | rfl | go_num, hm2, HN⟩
          case measure => simp [intOf]; omega
        · have hm3 : (1114111 : Int) < (m : Int) := by omega
          have HN := Lib.hid (show hexV 0 s.data.toList = none by rw [hh.out, Hx.out, hexV_great Hd.out (by rw [← Hm.out]; exact hm2)])
          go_wp2
          go_ret2
          exact ⟨hexPost_none HN.out, rfl⟩
      · have hlo : (71 : Int) ≤ (s[k].toNat : Int) := by omega
        have hhi : (s[k].toNat : Int) ≤ 96 := by omega
        have HN := Lib.hid (show hexV 0 s.data.toList = none by rw [hh.out, Hx.out]; exact hexV_no (by unfold hv; rw [if_neg (by omega), if_neg (by omega), if_neg (by omega)]))
        clear hc
        go_wp2
        go_ret2
        exact ⟨hexPost_none HN.out, rfl⟩
      · have hlo : (97 : Int) ≤ (s[k].toNat : Int) := by omega
        have hhi : (s[k].toNat : Int) ≤ 102 := by omega
        have Hd := Lib.hid (show hv s[k] = some (s[k].toNat - 97 + 10) by unfold hv; rw [if_neg (by omega), if_pos hc])
        obtain ⟨m, hm, Hm⟩ : ∃ m : Nat, (16 * (n : Int) + ((s[k].toNat : Int) - 97) + 10 : Int) = (m : Int) ∧ Hid (m = 16 * n + (s[k].toNat - 97 + 10)) := ⟨16 * n + (s[k].toNat - 97 + 10), by omega, Lib.hid rfl⟩
        clear hc
        by_cases hm2 : m ≤ 1114111
        · have hm3 : ¬ (1114111 : Int) < (m : Int) := by omega
          have HN := Lib.hid (show hexV 0 s.data.toList = hexV m (s.data.toList.drop (k + 1)) by rw [hh.out, Hx.out, hexV_yes Hd.out (by rw [← Hm.out]; exact hm2), ← Hm.out])
          go_wp2
          go_round
          case rel => exact ⟨k + 1, m, by omega, by go_num, by first | rfl | go_num, hm2, HN⟩
          case measure => simp [intOf]; omega
        · have hm3 : (1114111 : Int) < (m : Int) := by omega
          have HN := Lib.hid (show hexV 0 s.data.toList = none by rw [hh.out, Hx.out, hexV_great Hd.out (by rw [← Hm.out]; exact hm2)])
          go_wp2
          go_ret2
          exact ⟨hexPost_none HN.out, rfl⟩
      · have hlo : (103 : Int) ≤ (s[k].toNat : Int) := by omega
        have hhi : (s[k].toNat : Int) ≤ 255 := by omega
        have HN := Lib.hid (show hexV 0 s.data.toList = none by rw [hh.out, Hx.out]; exact hexV_no (by unfold hv; rw [if_neg (by omega), if_neg (by omega), if_neg (by omega)]))
        clear hc
        go_wp2
        go_ret2
        exact ⟨hexPost_none HN.out, rfl⟩
    · have HN := Lib.hid (show hexV 0 s.data.toList = some n by rw [hh.out, List.drop_eq_nil_of_le (by simp; show s.size ≤ k; omega)]; rfl)
      cases he : s.toList.isEmpty with
      | true =>
        have HE := Lib.hid (show true = s.data.toList.isEmpty by rw [← Go.ByteArray.toList_eq, he])
        have he2 : s.toList = [] := by simpa using he
        clear he
        go_wp2
        go_ret2
        exact ⟨hexPost_some HN.out false (by rw [← HE.out]; rfl), rfl⟩
      | false =>
        have HE := Lib.hid (show false = s.data.toList.isEmpty by rw [← Go.ByteArray.toList_eq, he])
        go_wp2
        go_ret2
        exact ⟨hexPost_some HN.out true (by rw [← HE.out]; rfl), rfl⟩
/-- two digits -/
theorem hex_two (s : ByteArray) (a b : UInt8) (h : s.data.toList = [a, b]) (w : World) : Calls Tryd.prog 23 #[.string s] w fun e w' => e = .returned (.tuple #[.int .i64 (if isHx a && isHx b then (16 * hvN a + hvN b : Nat) else (0 : Nat) : Int), .bool (isHx a && isHx b)]) ∧ w' = w := by
  have hz : s.size = 2 := by have := congrArg List.length h; simpa using this
  refine (hex_calls s (by omega) w).mono ?_
  rintro e w' ⟨hp, rfl⟩
  refine ⟨?_, rfl⟩
  rw [h] at hp
  cases ha : isHx a with
  | false =>
    unfold hexPost at hp
    rw [hexV_no (hv_none ha)] at hp
    exact hp
  | true =>
    obtain ⟨ha1, ha2⟩ := hv_some ha
    cases hb : isHx b with
    | false =>
      unfold hexPost at hp
      rw [hexV_yes ha1 (by omega), hexV_no (hv_none hb)] at hp
      exact hp
    | true =>
      obtain ⟨hb1, hb2⟩ := hv_some hb
      unfold hexPost at hp
      rw [hexV_yes ha1 (by omega), hexV_yes hb1 (by omega)] at hp
      simpa [hexV] using hp

theorem slice_to (s x : ByteArray) (r : List UInt8) (h : s.data.toList = x.data.toList ++ r) : s.extract 0 x.size = x := by
  apply ByteArray.ext
  apply Array.ext'
  have e : x.data.toList.length = x.size := by simp
  rw [ByteArray.data_extract, Array.toList_extract, List.extract_eq_take_drop, h, Nat.sub_zero, List.drop_zero, ← e, List.take_left]
set_option maxRecDepth 100000 in
set_option maxHeartbeats 4000000 in
theorem begins_yes (s x : ByteArray) (r : List UInt8) (h : s.data.toList = x.data.toList ++ r) (hs : s.size ≤ 1099511627776) (w : World) : Calls Tryd.prog 13 #[.string s, .string x] w fun e w' => e = .returned (.bool true) ∧ w' = w := by
  have hl : x.size ≤ s.size := by have := congrArg List.length h; simp at this; have e1 : s.data.size = s.size := rfl; have e2 : x.data.size = x.size := rfl; omega
  have hl' : (x.size : Int) ≤ (s.size : Int) := by omega
  have he := slice_to s x r h
  clear h
  go_enter Tryd.func13, Tryd.ntmps13
  go_wp2
  go_ret
  exact ⟨rfl, rfl⟩
set_option maxRecDepth 100000 in
set_option maxHeartbeats 4000000 in
theorem begins_no (s x : ByteArray) (h : ∀ r, s.data.toList ≠ x.data.toList ++ r) (hs : s.size ≤ 1099511627776) (hx : x.size ≤ 1099511627776) (w : World) : Calls Tryd.prog 13 #[.string s, .string x] w fun e w' => e = .returned (.bool false) ∧ w' = w := by
  by_cases hl : x.size ≤ s.size
  · have hl' : (x.size : Int) ≤ (s.size : Int) := by omega
    have hne : s.extract 0 x.size ≠ x := by
      intro e
      refine h (s.data.toList.drop x.size) ?_
      have e1 : x.data.toList = s.data.toList.take x.size := by conv => lhs; rw [← e, ByteArray.data_extract, Array.toList_extract, List.extract_eq_take_drop, Nat.sub_zero, List.drop_zero]
      rw [e1, List.take_append_drop]
    have hb := bytes_ne hne
    clear h hne
    go_enter Tryd.func13, Tryd.ntmps13
    go_wp2
    go_ret
    exact ⟨rfl, rfl⟩
  · have hl' : ¬ (x.size : Int) ≤ (s.size : Int) := by omega
    clear h
    go_enter Tryd.func13, Tryd.ntmps13
    go_wp2
    go_ret
    exact ⟨rfl, rfl⟩

def mimeC (c : UInt8) : Bool := (decide (97 ≤ c.toNat) && decide (c.toNat ≤ 122)) || decide (c.toNat = 47)
def mimeB (l : List UInt8) : Bool := l.all mimeC
set_option maxRecDepth 100000 in
set_option maxHeartbeats 4000000 in
theorem Mime_calls (s : ByteArray) (hs : s.size ≤ 1099511627776) (w : World) : Calls Tryd.prog 7 #[.string s] w fun e w' => e = .returned (.bool (mimeB s.data.toList)) ∧ w' = w := by
  go_enter Tryd.func7, Tryd.ntmps7
  go_wp2
  go_loop [6] (fun i => ∃ k : Nat, k ≤ s.size ∧ i = .int .i64 k ∧ Hid (mimeB s.data.toList = mimeB (s.data.toList.drop k))) (fun i => s.size - (intOf i).toNat)
  case atStart => exact ⟨0, Nat.zero_le _, rfl, Lib.hid rfl⟩
  case round =>
    obtain ⟨k, hk, rfl, hh⟩ := hrel
    by_cases hlt : k < s.size
    · have hlt' : (k : Int) < (s.size : Int) := by omega
      have hx := drop_at (Lib.data_getElem? s k hlt)
      have Hx := Lib.hid hx
      have hb := s[k].toNat_lt
      clear hx
      rcases (show s[k].toNat ≤ 46 ∨ s[k].toNat = 47 ∨ (48 ≤ s[k].toNat ∧ s[k].toNat ≤ 96) ∨ (97 ≤ s[k].toNat ∧ s[k].toNat ≤ 122) ∨ 123 ≤ s[k].toNat by omega) with hc | hc | hc | hc | hc
      · have hlo : (0 : Int) ≤ (s[k].toNat : Int) := by omega
        have hhi : (s[k].toNat : Int) ≤ 46 := by omega
        have t47 : ((s[k].toNat : Int) != 47) = true := by rw [bne_iff_ne]; omega
        have HN := Lib.hid (show false = mimeB s.data.toList by rw [hh.out, Hx.out, mimeB, List.all_cons, show mimeC s[k] = false by simp [mimeC]; omega, Bool.false_and])
        clear hc
        go_wp2
        go_ret
        exact ⟨ret_bool HN.out, rfl⟩
      · have hlo : (47 : Int) ≤ (s[k].toNat : Int) := by omega
        have hhi : (s[k].toNat : Int) ≤ 47 := by omega
        have t47 : ((s[k].toNat : Int) != 47) = false := by rw [hc]; rfl
        have HN := Lib.hid (show mimeB s.data.toList = mimeB (s.data.toList.drop (k + 1)) by rw [hh.out, Hx.out, mimeB, List.all_cons, show mimeC s[k] = true by simp [mimeC]; omega, Bool.true_and]; rfl)
        clear hc
        go_wp2
        go_round
        case rel => exact ⟨k + 1, by omega, by go_num, HN⟩
        case measure => simp [intOf]; omega
      · have hlo : (48 : Int) ≤ (s[k].toNat : Int) := by omega
        have hhi : (s[k].toNat : Int) ≤ 96 := by omega
        have t47 : ((s[k].toNat : Int) != 47) = true := by rw [bne_iff_ne]; omega
        have HN := Lib.hid (show false = mimeB s.data.toList by rw [hh.out, Hx.out, mimeB, List.all_cons, show mimeC s[k] = false by simp [mimeC]; omega, Bool.false_and])
        clear hc
        go_wp2
        go_ret
        exact ⟨ret_bool HN.out, rfl⟩
      · have hlo : (97 : Int) ≤ (s[k].toNat : Int) := by omega
        have hhi : (s[k].toNat : Int) ≤ 122 := by omega
        have t47 : ((s[k].toNat : Int) != 47) = true := by rw [bne_iff_ne]; omega
        have HN := Lib.hid (show mimeB s.data.toList = mimeB (s.data.toList.drop (k + 1)) by rw [hh.out, Hx.out, mimeB, List.all_cons, show mimeC s[k] = true by simp [mimeC]; omega, Bool.true_and]; rfl)
        clear hc
        go_wp2
        go_round
        case rel => exact ⟨k + 1, by omega, by go_num, HN⟩
        case measure => simp [intOf]; omega
      · have hlo : (123 : Int) ≤ (s[k].toNat : Int) := by omega
        have hhi : (s[k].toNat : Int) ≤ 255 := by omega
        have t47 : ((s[k].toNat : Int) != 47) = true := by rw [bne_iff_ne]; omega
        have HN := Lib.hid (show false = mimeB s.data.toList by rw [hh.out, Hx.out, mimeB, List.all_cons, show mimeC s[k] = false by simp [mimeC]; omega, Bool.false_and])
        clear hc
        go_wp2
        go_ret
        exact ⟨ret_bool HN.out, rfl⟩
    · have HN := Lib.hid (show true = mimeB s.data.toList by rw [hh.out, List.drop_eq_nil_of_le (by simp; show s.size ≤ k; omega)]; rfl)
      go_wp2
      go_ret
      exact ⟨ret_bool HN.out, rfl⟩

set_option maxRecDepth 100000 in
set_option maxHeartbeats 4000000 in
theorem Clean_yes (s : ByteArray) (c : UInt8) (hl : s.data.toList.getLast? = some c) (hc : 32 < c.toNat) (ha : ∀ x ∈ s.data.toList, cleanC x = true) (hs : s.size ≤ 1099511627776) (w : World) : Calls Tryd.prog 10 #[.string s] w fun e w' => e = .returned (.bool true) ∧ w' = w := by
  have HA := Lib.hid ha
  have hne : s.data.toList ≠ [] := by intro e; rw [e] at hl; cases hl
  have t3 : s.toList.isEmpty = false := by rw [Go.ByteArray.toList_eq]; simpa using hne
  have hz0 : 1 ≤ s.size := by
    rcases h : s.size with _ | z
    · exact absurd (List.eq_nil_of_length_eq_zero (by have : s.data.size = 0 := h; simpa using this)) hne
    · omega
  have hin : (1 : Int) ≤ (s.size : Int) ∧ (s.size : Int) - 1 < (s.size : Int) := by omega
  have hz1 : s.size - 1 < s.size := by omega
  have hlast : (32 : Int) < ((s[s.size - 1]'hz1).toNat : Int) := by
    rw [List.getLast?_eq_getElem?] at hl
    have e : s.data.toList.length = s.size := by simp
    rw [e, bytes_at s _ hz1] at hl
    injection hl with hl
    rw [hl]; omega
  clear ha hl hc hne
  go_enter Tryd.func10, Tryd.ntmps10
  go_wp2
  go_loop [7] (fun i => ∃ k : Nat, k ≤ s.size ∧ i = .int .i64 k) (fun i => s.size - (intOf i).toNat)
  case atStart => exact ⟨0, Nat.zero_le _, rfl⟩
  case round =>
    obtain ⟨k, hk, rfl⟩ := hrel
    by_cases hlt : k < s.size
    · have hlt' : (k : Int) < (s.size : Int) := by omega
      have hx := HA.out _ (List.mem_of_getElem? (bytes_at s k hlt))
      simp [cleanC] at hx
      obtain ⟨⟨⟨q1, q2⟩, q3⟩, q4⟩ := hx
      have t9 : ((s[k].toNat : Int) == 9) = false := by simp; omega
      have t10 : ((s[k].toNat : Int) == 10) = false := by simp; omega
      have t13 : ((s[k].toNat : Int) == 13) = false := by simp; omega
      have t35 : ((s[k].toNat : Int) == 35) = false := by simp; omega
      clear q1 q2 q3 q4
      go_wp2
      go_round
      case rel => exact ⟨k + 1, by omega, by go_num⟩
      case measure => simp [intOf]; omega
    · go_wp2
      go_ret
      exact ⟨rfl, rfl⟩
end Go.Proofs.YtjinfkhnijokmaaDoor
