/- The contracts of 'spec.lower', 'spec.begins', 'spec.Has', 'helpers.zzIndex', 'laws.tag'. -/
import Derived.Test.YtmepooboopncmaaDoorTgP
import Derived.Test.YtmepooboopncmaaDoorConv
import Derived.Test.YtmepooboopncmaaDoorMem
import Derived.Test.YtmepooboopncmaaDoorChecked
import Derived.Lib.ConvBytes
import Derived.Lib.Builder
import Derived.Lib.SmallJoins
import Derived.Lib.IndexBytes
import Derived.WalkKit
import Derived.Lib.Hide
import Derived.Laws.DeepStrings4
namespace Go.Proofs.YtmepooboopncmaaDoor
open Go.RowKit Stamp
set_option linter.unusedVariables false

def LowS (w : World) (g : Nat) (cur : List UInt8) : Prop := ∃ (C : Array Value) (m : Nat), w.heap[g]? = some (.cells C 5 (m, m + 1)) ∧ cur.length ≤ m ∧ ∀ (j : Nat) (u : Value), (bytesV cur)[j]? = some u → C[j]? = some u
theorem LowS.cell {w : World} {g : Nat} {cur : List UInt8} (h : LowS w g cur) {k : Nat} {b : UInt8} (hb : cur[k]? = some b) : w.cell? ⟨g, k, none⟩ = some (.int .u8 (b.toNat : Int)) := by
  obtain ⟨C, m, h1, h2, h3⟩ := h
  rw [Lib.cell_of_heap h1]
  apply h3
  simp [bytesV, hb]
theorem LowS.free {w : World} {g : Nat} {cur : List UInt8} (h : LowS w g cur) {k : Nat} (hk : k < cur.length) : w.frozen? ⟨g, k, none⟩ = false := by
  obtain ⟨C, m, h1, h2, h3⟩ := h
  simp [World.frozen?, h1]
  omega
theorem LowS.put {w : World} {g : Nat} {cur : List UInt8} (h : LowS w g cur) (k : Nat) (b : UInt8) : LowS (w.setCell ⟨g, k, none⟩ (.int .u8 (b.toNat : Int))) g (cur.set k b) := by
  obtain ⟨C, m, h1, h2, h3⟩ := h
  refine ⟨C.setIfInBounds k (.int .u8 (b.toNat : Int)), m, by simp [World.setCell, Array.getElem?_modify, h1], by simpa using h2, fun j u hu => ?_⟩
  simp only [bytesV, List.getElem?_map, List.getElem?_set] at hu
  by_cases hjk : k = j
  · subst hjk
    by_cases hl : k < cur.length
    · simp [hl] at hu
      have := h3 k (.int .u8 (cur[k].toNat : Int)) (by simp [bytesV, hl])
      have hlt : k < C.size := by
        rcases Nat.lt_or_ge k C.size with h' | h'
        · exact h'
        · rw [Array.getElem?_eq_none h'] at this; cases this
      rw [Array.getElem?_setIfInBounds, if_pos rfl, if_pos hlt, hu]
    · simp [hl] at hu
  · rw [if_neg hjk] at hu
    rw [Array.getElem?_setIfInBounds, if_neg hjk]
    exact h3 j u (by simpa [bytesV] using hu)
theorem LowS.holds {w : World} {g : Nat} {cur : List UInt8} (h : LowS w g cur) : Holds w w.heap.size (some ⟨g, 0, none⟩) (bytesV cur) := fun hx => by
  obtain ⟨C, m, h1, h2, h3⟩ := h
  refine ⟨g, 0, rfl, ?_, fun j u hu => ?_⟩
  · exact (Array.getElem?_eq_some_iff.1 h1).1
  · rw [Nat.zero_add, Lib.cell_of_heap h1]; exact h3 j u hu
theorem LowS.new (w : World) (s : ByteArray) : LowS (Lib.bytesWorld w 5 s) w.heap.size s.data.toList := by
  refine ⟨_, _, Lib.bytesWorld_at_new w 5 s, ?_, fun i u hu => ?_⟩
  · simp [Lib.bytesCells]
  · simp only [bytesV, List.getElem?_map] at hu
    simp only [Lib.bytesCells]
    rw [Array.getElem?_append_left (by
      rcases Nat.lt_or_ge i s.data.size with h | h
      · simpa using h
      · rw [List.getElem?_eq_none (by simpa using h)] at hu; cases hu)]
    simpa using hu
def lowTo (l : List UInt8) (k : Nat) : List UInt8 := lowL (l.take k) ++ l.drop k
theorem lowTo_len (l : List UInt8) (k : Nat) : (lowTo l k).length = l.length := by simp [lowTo, lowL]; omega
theorem lowTo_at {l : List UInt8} {k : Nat} (hk : k < l.length) : (lowTo l k)[k]? = some l[k] := by
  unfold lowTo
  rw [List.getElem?_append_right (by simp [lowL]; omega)]
  simp [lowL, Nat.min_eq_left (Nat.le_of_lt hk)]
theorem lowTo_set {l : List UInt8} {k : Nat} (hk : k < l.length) : (lowTo l k).set k (low l[k]) = lowTo l (k + 1) := by
  have h1 : (lowL (l.take k)).length = k := by simp [lowL]; omega
  have h2 : lowL (l.take (k + 1)) = lowL (l.take k) ++ [low l[k]] := by
    unfold lowL
    rw [List.take_add_one, List.getElem?_eq_getElem hk, List.map_append]; rfl
  unfold lowTo
  rw [List.set_append_right _ _ (by omega), h1, Nat.sub_self, List.drop_eq_getElem_cons hk, List.set_cons_zero, h2, List.append_assoc]; rfl
theorem lowTo_same {l : List UInt8} {k : Nat} (hk : k < l.length) (h : low l[k] = l[k]) : lowTo l (k + 1) = lowTo l k := by
  rw [← lowTo_set hk, h]
  apply List.ext_getElem?
  intro i
  rw [List.getElem?_set]
  split
  · next e =>
    subst e
    rw [if_pos (by rw [lowTo_len]; exact hk), lowTo_at hk]
  · rfl
theorem lowTo_all (l : List UInt8) : lowTo l l.length = lowL l := by simp [lowTo]
theorem lowTo_zero (l : List UInt8) : lowTo l 0 = l := by simp [lowTo, lowL]

set_option maxRecDepth 100000 in
set_option maxHeartbeats 4000000 in
theorem Lower_calls (s : ByteArray) (hs : s.size ≤ 8589934592) (w : World) : Calls Tryd.prog 15 #[.string s] w fun e w' => e = .returned (.string ⟨(lowL s.data.toList).toArray⟩) ∧ Below w.heap.size w w' := by
  have hcv := Lib.run_convert_string_bytes (P := Tryd.prog) w 9 27 5 s Tryd.underlying9 Tryd.underlying27 Tryd.underlying5
  obtain ⟨W, hW⟩ : ∃ W, W = Lib.bytesWorld w 5 s := ⟨_, rfl⟩
  obtain ⟨cp, hcp⟩ : ∃ cp, cp = grownCap w s.size 0 5 := ⟨_, rfl⟩
  have hb0 : Below w.heap.size w W := by rw [hW]; exact Joins.below_bytesWorld _ _ _ _ (Nat.le_refl _)
  have hn := LowS.new w s
  rw [← hW] at hn hcv
  rw [← hcp] at hcv
  obtain ⟨g, hg⟩ : ∃ g, g = w.heap.size := ⟨_, rfl⟩
  rw [← hg] at hn hcv hb0
  have HN := Lib.hid hn
  have HG := Lib.hid hg
  have hl : s.data.toList.length = s.size := by simp
  have HL := Lib.hid hl
  clear hW hcp hn hg hl
  go_enter Tryd.func15, Tryd.ntmps15
  go_wp2
  go_loopw [10] (fun i wr => ∃ k : Nat, k ≤ s.size ∧ i = .int .i64 (k : Int) ∧ Hid (LowS wr g (lowTo s.data.toList k)) ∧ Below g W wr) (fun i _ => s.size - (intOf i).toNat)
  case atStart => exact ⟨0, Nat.zero_le _, rfl, Lib.hid (by rw [lowTo_zero]; exact HN.out), Below.refl _ _⟩
  case round =>
    obtain ⟨k, hk, rfl, hS, hb⟩ := hrel
    by_cases hlt : k < s.size
    · have hlt' : (k : Int) < (s.size : Int) := by omega
      have hkl : k < s.data.toList.length := by rw [HL.out]; exact hlt
      obtain ⟨b, hbx⟩ : ∃ b, b = s.data.toList[k]'hkl := ⟨_, rfl⟩
      have hc := hS.out.cell (lowTo_at hkl)
      have hf := hS.out.free (k := k) (by rw [lowTo_len]; exact hkl)
      rw [← hbx] at hc
      have hbl := b.toNat_lt
      have hb0 : (0 : Int) ≤ (b.toNat : Int) := by omega
      have hb1 : (b.toNat : Int) ≤ 255 := by omega
      by_cases hup : 65 ≤ b.toNat ∧ b.toNat ≤ 90
      · have h1 : (65 : Int) ≤ (b.toNat : Int) := by omega
        have h2 : (b.toNat : Int) ≤ 90 := by omega
        have hlow : ((low b).toNat : Int) = (b.toNat : Int) + 32 := by rw [low_val, if_pos hup]; omega
        have HP := Lib.hid (hS.out.put k (low b))
        rw [hlow, hbx, lowTo_set hkl, ← hbx] at HP
        have HB := Lib.hid (hb.setCell (p := ⟨g, k, none⟩) (Nat.le_refl _) (.int .u8 ((b.toNat : Int) + 32)))
        clear hbx hup hlow
        go_wp2
        go_roundw
        case rel => exact ⟨k + 1, by omega, by go_num, HP, HB.out⟩
        case measure => simp [intOf]; omega
      · have HP : Hid (LowS wr g (lowTo s.data.toList (k + 1))) := Lib.hid (by
          rw [lowTo_same hkl (by rw [← hbx]; unfold low; rw [if_neg hup])]
          exact hS.out)
        by_cases h65 : 65 ≤ b.toNat
        · have h1 : (65 : Int) ≤ (b.toNat : Int) := by omega
          have h2 : ¬ (b.toNat : Int) ≤ 90 := by omega
          clear hbx hup
          go_wp2
          go_roundw
          case rel => exact ⟨k + 1, by omega, by go_num, HP, hb⟩
          case measure => simp [intOf]; omega
        · have h1 : ¬ (65 : Int) ≤ (b.toNat : Int) := by omega
          clear hbx hup
          go_wp2
          go_roundw
          case rel => exact ⟨k + 1, by omega, by go_num, HP, hb⟩
          case measure => simp [intOf]; omega
    · obtain rfl : k = s.size := by omega
      have hS2 := hS.out
      rw [← HL.out, lowTo_all] at hS2
      have hcv2 := run_bytes_text (P := Tryd.prog) wr 27 9 5 Tryd.underlying27 Tryd.underlying5 Tryd.underlying9 wr.heap.size (some ⟨g, 0, none⟩) s.size cp (lowL s.data.toList) (by simp [lowL]) hS2.holds
      clear hS2
      go_wp2
      go_ret
      exact ⟨rfl, by rw [← HG.out]; exact hb0.trans hb⟩

/-! ### one text in another -/
def atX (l x : List UInt8) (i : Nat) : Prop := (l.drop i).take x.length = x
theorem at_fit {l x : List UInt8} {i : Nat} (h : atX l x i) (hx : 1 ≤ x.length) : i + x.length ≤ l.length := by
  have := congrArg List.length h
  simp at this
  omega
theorem cut_at {s x : ByteArray} {k : Nat} : s.extract k (k + x.size) = x ↔ atX s.data.toList x.data.toList k := by
  have e : (s.extract k (k + x.size)).data.toList = (s.data.toList.drop k).take x.data.toList.length := by
    rw [ByteArray.data_extract, Array.toList_extract, List.extract_eq_take_drop, show k + x.size - k = x.size by omega]
    simp
  unfold atX
  constructor
  · intro h; rw [← e, h]
  · intro h
    apply ByteArray.ext
    apply Array.ext'
    rw [e]; exact h
def IxPost (l x : List UInt8) (r : Int) : Prop := (r = -1 ∧ ∀ i, ¬ atX l x i) ∨ ∃ k : Nat, r = (k : Int) ∧ atX l x k ∧ ∀ i, i < k → ¬ atX l x i

set_option maxRecDepth 100000 in
set_option maxHeartbeats 4000000 in
theorem Index_calls (s x : ByteArray) (hs : s.size ≤ 8589934592) (hx : 1 ≤ x.size) (hx2 : x.size ≤ 8589934592) (w : World) : Calls Tryd.prog 18 #[.string s, .string x] w fun e w' => (∃ r : Int, e = .returned (.int .i64 r) ∧ Hid (IxPost s.data.toList x.data.toList r)) ∧ w' = w := by
  have hl : s.data.toList.length = s.size := by simp
  have HL := Lib.hid hl
  have hl2 : x.data.toList.length = x.size := by simp
  have HL2 := Lib.hid hl2
  clear hl hl2
  go_enter Tryd.func18, Tryd.ntmps18
  go_wp2
  go_loop [5] (fun i => ∃ k : Nat, k ≤ s.size + 1 ∧ i = .int .i64 (k : Int) ∧ Hid (∀ i, i < k → ¬ atX s.data.toList x.data.toList i)) (fun i => s.size + 1 - (intOf i).toNat)
  case atStart => exact ⟨0, Nat.zero_le _, rfl, Lib.hid (fun i hi => by omega)⟩
  case round =>
    obtain ⟨k, hk, rfl, hh⟩ := hrel
    by_cases hlt : k + x.size ≤ s.size
    · have hlt' : (k : Int) + (x.size : Int) ≤ (s.size : Int) := by omega
      by_cases he : s.extract k (k + x.size) = x
      · have hbe := (bytes_beq (s.extract k (k + x.size)) x).trans (decide_eq_true he)
        have HA := Lib.hid (cut_at.1 he)
        clear he
        go_wp2
        go_ret
        exact ⟨⟨_, rfl, Lib.hid (.inr ⟨k, rfl, HA.out, hh.out⟩)⟩, rfl⟩
      · have hbe := bytes_ne he
        have HN : Hid (∀ i, i < k + 1 → ¬ atX s.data.toList x.data.toList i) := Lib.hid (fun i hi h => by
          by_cases hik : i = k
          · subst hik; exact he (cut_at.2 h)
          · exact hh.out i (by omega) h)
        clear he
        go_wp2
        go_round
        case rel => exact ⟨k + 1, by omega, by go_num, HN⟩
        case measure => simp [intOf]; omega
    · have hlt' : ¬ (k : Int) + (x.size : Int) ≤ (s.size : Int) := by omega
      go_wp2
      go_ret
      refine ⟨⟨_, rfl, Lib.hid (.inl ⟨rfl, fun i h => ?_⟩)⟩, rfl⟩
      have h1 := at_fit h (by rw [HL2.out]; exact hx)
      rw [HL.out, HL2.out] at h1
      exact hh.out i (by omega) h

set_option maxRecDepth 100000 in
set_option maxHeartbeats 4000000 in
theorem Has_no (s x : ByteArray) (hs : s.size ≤ 8589934592) (hx : 1 ≤ x.size) (hx2 : x.size ≤ 8589934592) (h : ∀ i, ¬ atX s.data.toList x.data.toList i) (w : World) : Calls Tryd.prog 16 #[.string s, .string x] w fun e w' => e = .returned (.bool false) ∧ w' = w := by
  have HH := Lib.hid h
  clear h
  go_enter Tryd.func16, Tryd.ntmps16
  go_wp2
  go_loop [5] (fun i => ∃ k : Nat, k ≤ s.size + 1 ∧ i = .int .i64 (k : Int)) (fun i => s.size + 1 - (intOf i).toNat)
  case atStart => exact ⟨0, Nat.zero_le _, rfl⟩
  case round =>
    obtain ⟨k, hk, rfl⟩ := hrel
    by_cases hlt : k + x.size ≤ s.size
    · have hlt' : (k : Int) + (x.size : Int) ≤ (s.size : Int) := by omega
      have hbe : ((s.extract k (k + x.size)).toList == x.toList) = false := bytes_ne (fun he => HH.out k (cut_at.1 he))
      go_wp2
      go_round
      case rel => exact ⟨k + 1, by omega, by go_num⟩
      case measure => simp [intOf]; omega
    · have hlt' : ¬ (k : Int) + (x.size : Int) ≤ (s.size : Int) := by omega
      go_wp2
      go_ret
      exact ⟨rfl, rfl⟩

theorem slice_to (s x : ByteArray) (h : pre x.data.toList s.data.toList = true) : s.extract 0 x.size = x := by
  simp [pre] at h
  apply ByteArray.ext
  apply Array.ext'
  rw [ByteArray.data_extract, Array.toList_extract, List.extract_eq_take_drop, Nat.sub_zero, List.drop_zero]
  exact h
set_option maxRecDepth 100000 in
theorem begins_calls (s x : ByteArray) (hs : s.size ≤ 1099511627776) (hx : x.size ≤ 1099511627776) (w : World) : Calls Tryd.prog 14 #[.string s, .string x] w fun e w' => e = .returned (.bool (pre x.data.toList s.data.toList)) ∧ w' = w := by
  by_cases hl : x.size ≤ s.size
  · have hl' : (x.size : Int) ≤ (s.size : Int) := by omega
    cases hp : pre x.data.toList s.data.toList with
    | true =>
      have he := slice_to s x hp
      clear hp
      go_enter Tryd.func14, Tryd.ntmps14
      go_wp2
      go_ret
      exact ⟨rfl, rfl⟩
    | false =>
      have hne : s.extract 0 x.size ≠ x := by
        intro e
        have h1 : s.data.toList.take x.data.toList.length = x.data.toList := by
          conv => rhs; rw [← e, ByteArray.data_extract, Array.toList_extract, List.extract_eq_take_drop, Nat.sub_zero, List.drop_zero]
          simp
        unfold pre at hp
        rw [decide_eq_true h1] at hp
        cases hp
      have hb := bytes_ne hne
      clear hp hne
      go_enter Tryd.func14, Tryd.ntmps14
      go_wp2
      go_ret
      exact ⟨rfl, rfl⟩
  · have hl' : ¬ (x.size : Int) ≤ (s.size : Int) := by omega
    have hp : pre x.data.toList s.data.toList = false := by
      unfold pre
      apply decide_eq_false
      intro e
      have := congrArg List.length e
      simp at this
      have e1 : s.data.size = s.size := rfl
      have e2 : x.data.size = x.size := rfl
      omega
    rw [hp]
    clear hp
    go_enter Tryd.func14, Tryd.ntmps14
    go_wp2
    go_ret
    exact ⟨rfl, rfl⟩

def tagB (which : Bool) : ByteArray := if which then ⟨#[47, 115, 99, 114, 105, 112, 116]⟩ else ⟨#[47, 115, 116, 121, 108, 101]⟩
theorem Tag_calls (which : Bool) (w : World) : Calls Tryd.prog 9 #[.bool which] w fun e w' => e = .returned (.string (tagB which)) ∧ w' = w := by
  cases which with
  | true =>
    go_enter Tryd.func9, Tryd.ntmps9
    go_wp2
    go_ret
    exact ⟨rfl, rfl⟩
  | false =>
    go_enter Tryd.func9, Tryd.ntmps9
    go_wp2
    go_ret
    exact ⟨rfl, rfl⟩
end Go.Proofs.YtmepooboopncmaaDoor
