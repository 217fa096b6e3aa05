/- The contract of 'strings.LastIndexAny' at a slash and a backslash. -/
import Derived.Test.YtmepooboopncmaaDoorMoA
import Derived.Deep.DeepCutAuto
import Derived.Deep.CutBlock
namespace Go.Proofs.YtmepooboopncmaaDoor
open Go.RowKit Stamp
set_option linter.unusedVariables false

def LaPost (l : List UInt8) (w : World) (e : Ending) (w' : World) : Prop := (∃ r : Int, e = .returned (.int .i64 r) ∧ LastSl l r) ∧ Below w.heap.size w w'
theorem la_none {l : List UInt8} {w w' : World} (h : ∀ c ∈ l, isSl c = false) (hb : Below w.heap.size w w') : LaPost l w (.returned (.int .i64 (-1))) w' := ⟨⟨-1, rfl, .inl ⟨rfl, h⟩⟩, hb⟩
theorem la_some {l : List UInt8} {w w' : World} {k : Nat} {c : UInt8} (hc : l[k]? = some c) (hs : isSl c = true) (h : ∀ c ∈ l.drop (k + 1), isSl c = false) (hb : Below w.heap.size w w') : LaPost l w (.returned (.int .i64 (k : Int))) w' := by
  obtain ⟨h1, h2⟩ := List.getElem?_eq_some_iff.1 hc
  exact ⟨⟨k, rfl, .inr ⟨k, rfl, c, l.drop (k + 1), by rw [List.drop_eq_getElem_cons h1, h2], h1, hs, h⟩⟩, hb⟩
def free (l : List UInt8) (k : Nat) : Prop := ∀ c ∈ l.drop k, isSl c = false
theorem free_end (l : List UInt8) : free l l.length := by unfold free; simp
theorem free_step {l : List UInt8} {k : Nat} {c : UInt8} (h : free l (k + 1)) (hc : l[k]? = some c) (hs : isSl c = false) : free l k := by
  obtain ⟨h1, h2⟩ := List.getElem?_eq_some_iff.1 hc
  unfold free
  rw [List.drop_eq_getElem_cons h1, h2]
  intro x hx
  rcases List.mem_cons.1 hx with rfl | hx
  · exact hs
  · exact h x hx
theorem free_zero {l : List UInt8} (h : free l 0) : ∀ c ∈ l, isSl c = false := h
theorem sl_high {c : UInt8} (h : 128 ≤ c.toNat) : isSl c = false := by simp [isSl]; omega
theorem free_high {l : List UInt8} {k n : Nat} (h : free l k) (hk : k ≤ l.length) (hn : n ≤ k) (hb : ∀ b ∈ (l.take k).drop ((l.take k).length - n), 128 ≤ b.toNat) : free l (k - n) := by
  intro c hc
  have e : l.drop (k - n) = (l.take k).drop ((l.take k).length - n) ++ l.drop k := by
    rw [List.length_take, Nat.min_eq_left hk, List.drop_take]
    rw [show k = (k - n) + (k - (k - n)) by omega]
    conv => rhs; rhs; rw [← List.drop_drop]
    rw [show (k - n) + (k - (k - n)) - ((k - n) + (k - (k - n)) - n) = k - (k - n) by omega, show (k - n) + (k - (k - n)) - n = k - n by omega]
    rw [List.take_append_drop]
  rw [e] at hc
  rcases List.mem_append.1 hc with hc | hc
  · exact sl_high (hb c hc)
  · exact h c hc
theorem mem_sl (c : UInt8) : ([47, 92] : List UInt8).contains c = isSl c := by
  have : ∀ x : Fin 256, ([47, 92] : List UInt8).contains (UInt8.ofNat x.val) = isSl (UInt8.ofNat x.val) := by decide +kernel
  have h := this ⟨c.toNat, c.toNat_lt⟩
  rwa [ofNat_eq rfl] at h
theorem take_last {l : List UInt8} {k : Nat} {c : UInt8} (hk : k < l.length) (h : (l.take (k + 1)).getLast? = some c) : l[k]? = some c := by
  rw [List.getLast?_eq_getElem?, List.length_take, Nat.min_eq_left (by omega), Nat.add_sub_cancel, List.getElem?_take] at h
  rwa [if_pos (by omega)] at h
theorem to_bytes (s : ByteArray) (k : Nat) : (s.extract 0 k).data.toList = s.data.toList.take k := by
  rw [ByteArray.data_extract, Array.toList_extract, List.extract_eq_take_drop, Nat.sub_zero, List.drop_zero]

set_option maxRecDepth 1000000 in
set_option maxHeartbeats 8000000 in
theorem Last_short (s : ByteArray) (h1 : s.size ≠ 1) (h8 : s.size ≤ 8) (w : World) (hT : Lib.Utf8Tabs 4 5 w) :
    Calls Tryd.prog 17 #[.string s, .string (⟨#[47, 92]⟩ : ByteArray)] w (LaPost s.data.toList w) := by
  have hl : s.data.toList.length = s.size := by simp
  have HL := Lib.hid hl
  have HT := Lib.hid hT
  have hn1 : ((s.size : Int) == 1) = false := by simp; omega
  have h8' : decide ((8 : Int) < (s.size : Int)) = false := by simp; omega
  clear hT hl h1
  go_enter Tryd.func17, Tryd.ntmps17
  go_wp2_with fail
  refine (Tryd.strings_shouldUseASCIISet (s.size : Int) _).mono ?_
  rintro e w1 ⟨rfl, rfl⟩
  go_wp2_with fail
  go_loopw [13] (fun i wr => ∃ k : Nat, k ≤ s.size ∧ i = .int .i64 (k : Int) ∧ Hid (free s.data.toList k) ∧ Below w1.heap.size w1 wr) (fun i _ => (intOf i).toNat)
  case atStart => exact ⟨s.size, Nat.le_refl _, rfl, Lib.hid (by rw [← HL.out]; exact free_end _), Below.refl _ _⟩
  case round =>
    obtain ⟨k, hk, rfl, hf, hb⟩ := hrel
    have hbs := hb.size
    by_cases h0 : k = 0
    · subst h0
      go_wp2
      go_ret
      exact la_none (free_zero hf.out) hb
    · obtain ⟨j, rfl⟩ : ∃ j, k = j + 1 := ⟨k - 1, by omega⟩
      have hk1 : (0 : Int) < ((j + 1 : Nat) : Int) := by omega
      have hk2 : ((j + 1 : Nat) : Int) ≤ (s.size : Int) := by omega
      have hTw := Lib.hid (Go.Proofs.Utf8Tabs_below HT.out hb)
      have hlen : (s.data.toList.take (j + 1)).length = j + 1 := by rw [List.length_take, HL.out]; omega
      have hne : s.data.toList.take (j + 1) ≠ [] := by intro e; rw [e] at hlen; simp at hlen
      have HD := Lib.hid (fun W hT => Tryd.utf8_DecodeLastRuneInString (s.extract 0 (j + 1)) W (by rw [ByteArray.size_extract]; omega) hT)
      rcases last_cases _ hne with ⟨c, hc1, hc2, hd⟩ | ⟨r, n, hd, hn1, hn2, hr1, hr2, hv, hh⟩
      · have Hc := Lib.hid (take_last (by rw [HL.out]; omega) hc1)
        rw [to_bytes, hd] at HD
        clear hc1 hd hne hlen h0
        cases hs : isSl c with
        | true =>
          have Hs := Lib.hid hs
          clear hs
          go_wp2_with fail
          refine (HD.out _ hTw.out).mono ?_
          rintro e w2 ⟨rfl, hb2⟩
          have hb3 := hb.trans (hb2.mono hbs)
          go_wp2_with fail
          refine (IR_yes c Hs.out _).mono ?_
          rintro e w3 ⟨⟨j1, hj1, rfl⟩, rfl⟩
          go_wp2
          go_ret
          first
            | exact la_some Hc.out Hs.out hf.out hb3
            | (rw [show (((j + 1 : Nat) : Int) - 1) = (j : Int) by omega]; exact la_some Hc.out Hs.out hf.out hb3)
        | false =>
          have Hs := Lib.hid hs
          have HI := Lib.hid (fun W => IR_no c.toNat (fun _ => by simp [isSl] at hs; omega) (valid_scalar ⟨by omega, by rw [isSur_not]; omega⟩) W)
          clear hs
          go_wp2_with fail
          refine (HD.out _ hTw.out).mono ?_
          rintro e w2 ⟨rfl, hb2⟩
          have hb3 := hb.trans (hb2.mono hbs)
          have hb3s := hb3.size
          go_wp2_with fail
          refine (HI.out _).mono ?_
          rintro e w3 ⟨rfl, hb4⟩
          have hb5 := hb3.trans (hb4.mono hb3s)
          go_wp2
          go_roundw
          case rel => exact ⟨j, by omega, by go_num, Lib.hid (free_step hf.out Hc.out Hs.out), hb5⟩
          case measure => simp [intOf]
      · have HF := Lib.hid (free_high hf.out (by rw [HL.out]; exact hk) (by rw [hlen] at hn2; exact hn2) hh)
        rw [hlen] at hn2
        have HI := Lib.hid (fun W => IR_no r (fun h => by omega) hv W)
        have hn3 : (n : Int) ≤ ((j + 1 : Nat) : Int) := by omega
        have hn4 : (1 : Int) ≤ (n : Int) := by omega
        rw [to_bytes, hd] at HD
        clear hd hne hlen h0 hh hv
        go_wp2_with fail
        refine (HD.out _ hTw.out).mono ?_
        rintro e w2 ⟨rfl, hb2⟩
        have hb3 := hb.trans (hb2.mono hbs)
        have hb3s := hb3.size
        go_wp2_with fail
        refine (HI.out _).mono ?_
        rintro e w3 ⟨rfl, hb4⟩
        have hb5 := hb3.trans (hb4.mono hb3s)
        go_wp2
        go_roundw
        case rel => exact ⟨j + 1 - n, by omega, by rw [show ((j + 1 - n : Nat) : Int) = (j : Int) + 1 - (n : Int) by omega], HF, hb5⟩
        case measure => simp [intOf]; omega

set_option maxRecDepth 1000000 in
set_option maxHeartbeats 8000000 in
theorem Last_one (s : ByteArray) (h1 : s.size = 1) (w : World) :
    Calls Tryd.prog 17 #[.string s, .string (⟨#[47, 92]⟩ : ByteArray)] w (LaPost s.data.toList w) := by
  have hlt : 0 < s.size := by omega
  have hx := Lib.data_getElem? s 0 hlt
  obtain ⟨c, hc⟩ : ∃ c : UInt8, s[0]'hlt = c := ⟨_, rfl⟩
  rw [hc] at hx
  have Hx := Lib.hid hx
  have hl : s.data.toList.length = s.size := by simp
  have HF := Lib.hid (show free s.data.toList (0 + 1) by rw [show 0 + 1 = s.data.toList.length by omega]; exact free_end _)
  have hz : (s.size : Int) = 1 := by omega
  have hb := c.toNat_lt
  clear hl hx
  by_cases h128 : c.toNat < 128
  · have t1 : ¬ (128 : Int) ≤ (c.toNat : Int) := by omega
    cases hs : isSl c with
    | true =>
      have Hs := Lib.hid hs
      clear hs h1
      go_enter Tryd.func17, Tryd.ntmps17
      go_wp2_with fail
      refine (IR_yes c Hs.out _).mono ?_
      rintro e w3 ⟨⟨j1, hj1, rfl⟩, rfl⟩
      go_wp2
      go_ret
      exact la_some (k := 0) Hx.out Hs.out HF.out (Below.refl _ _)
    | false =>
      have Hs := Lib.hid hs
      have HI := Lib.hid (fun W => IR_no c.toNat (fun _ => by simp [isSl] at hs; omega) (valid_scalar ⟨by omega, by rw [isSur_not]; omega⟩) W)
      clear hs h1
      go_enter Tryd.func17, Tryd.ntmps17
      go_wp2_with fail
      refine (HI.out _).mono ?_
      rintro e w3 ⟨rfl, hb4⟩
      go_wp2
      go_ret
      exact la_none (free_zero (free_step HF.out Hx.out Hs.out)) hb4
  · have t1 : (128 : Int) ≤ (c.toNat : Int) := by omega
    have Hs := Lib.hid (sl_high (c := c) (by omega))
    have HI := Lib.hid (fun W => IR_no 65533 (fun h => by omega) (by decide) W)
    clear h1 h128
    go_enter Tryd.func17, Tryd.ntmps17
    go_wp2_with fail
    refine (HI.out _).mono ?_
    rintro e w3 ⟨rfl, hb4⟩
    go_wp2
    go_ret
    exact la_none (free_zero (free_step HF.out Hx.out Hs.out)) hb4

theorem zero42 (w : World) : (zeroValue 42).run Tryd.prog w = .ok (.agg (Array.replicate 256 (.bool false))) w := by kernel_rfl
theorem info42 : (Tryd.prog.info? 42).map (·.size) = some 256 := by kernel_rfl
set_option maxRecDepth 1000000 in
set_option maxHeartbeats 8000000 in
theorem Last_long (s : ByteArray) (h8 : 8 < s.size) (hs : s.size ≤ 4294967280) (w : World) :
    Calls Tryd.prog 17 #[.string s, .string (⟨#[47, 92]⟩ : ByteArray)] w (LaPost s.data.toList w) := by
  have hl : s.data.toList.length = s.size := by simp
  have HL := Lib.hid hl
  have HM := Lib.hid (Tryd.strings_makeASCIISet zero42 (⟨#[47, 92]⟩ : ByteArray) w (by decide) (by
    intro j b hj
    match j, hj with
    | 0, hj => cases hj; decide
    | 1, hj => cases hj; decide
    | j + 2, hj => simp at hj))
  have hn1 : ((s.size : Int) == 1) = false := by simp; omega
  have h8' : decide ((8 : Int) < (s.size : Int)) = true := by simp; omega
  obtain ⟨C, hC⟩ : ∃ C, C = Lib.setCells [47, 92] := ⟨_, rfl⟩
  have hCd : Lib.setCells (⟨#[47, 92]⟩ : ByteArray).data.toList = C := hC.symm
  rw [hCd] at HM
  have hsz := Lib.setCells_size [47, 92]
  rw [← hC] at hsz
  have hsc : (storeCells ⟨w.heap.size + 1, 0, none⟩ C.toList 0).run Tryd.prog ((w.alloc (.cells C 42)).alloc (.cells (Array.replicate 256 (.bool false)) 42)) = .ok () ((w.alloc (.cells C 42)).alloc (.cells C 42)) := by
    have := run_storeCells_new (P := Tryd.prog) (w.alloc (.cells C 42)) 42 (Array.replicate 256 (.bool false)) C (by rw [hsz]; exact info42) (by rw [hsz, Array.size_replicate]) (by rw [hC]; exact Lib.setCells_one _)
    simpa using this
  have HC : Hid (∀ x : UInt8, ((w.alloc (.cells C 42)).alloc (.cells C 42)).cell? ⟨w.heap.size + 1, x.toNat, none⟩ = some (.bool (isSl x))) := Lib.hid fun x => by
    rw [World.cell?_alloc_at _ _ _ _ (by simp), hC, Lib.setCells_at, mem_sl]
  clear hC hCd hl
  have hz42 := zero42
  go_enter Tryd.func17, Tryd.ntmps17
  go_wp2_with fail
  refine (Tryd.strings_shouldUseASCIISet (s.size : Int) _).mono ?_
  rintro e w1 ⟨rfl, rfl⟩
  rw [h8']
  go_wp2_with fail
  refine HM.out.mono ?_
  rintro e w2 ⟨rfl, rfl⟩
  go_wp2_with fail
  clear HM hsc
  obtain ⟨W, hW⟩ : ∃ W, W = ((w1.alloc (.cells C 42)).alloc (.cells C 42)) := ⟨_, rfl⟩
  have hbW : Below w1.heap.size w1 W := by rw [hW]; exact ((Below.refl _ _).alloc (Nat.le_refl _) _).alloc (by simp) _
  rw [← hW] at HC ⊢
  clear hW
  go_loop [8] (fun i => ∃ k : Nat, k ≤ s.size ∧ i = .int .i64 ((k : Int) - 1) ∧ Hid (free s.data.toList k)) (fun i => (intOf i + 1).toNat)
  case atStart => exact ⟨s.size, Nat.le_refl _, rfl, Lib.hid (by rw [← HL.out]; exact free_end _)⟩
  case round =>
    obtain ⟨k, hk, rfl, hf⟩ := hrel
    by_cases h0 : k = 0
    · subst h0
      go_wp2
      go_ret
      exact la_none (free_zero hf.out) hbW
    · obtain ⟨j, rfl⟩ : ∃ j, k = j + 1 := ⟨k - 1, by omega⟩
      have hj : j < s.size := by omega
      have e1 : (((j + 1 : Nat) : Int) - 1) = (j : Int) := by omega
      obtain ⟨c, hc⟩ : ∃ c : UInt8, s[j]'hj = c := ⟨_, rfl⟩
      have hx := Lib.data_getElem? s j hj
      rw [hc] at hx
      have Hx := Lib.hid hx
      have hcx := HC.out c
      have hj1 : (j : Int) < (s.size : Int) := by omega
      rw [e1]
      clear hx h0 e1
      cases hs : isSl c with
      | true =>
        have Hs := Lib.hid hs
        rw [hs] at hcx
        clear hs
        go_wp2_with fail
        refine (Tryd.asciiSet_contains _ c true _ hcx).mono ?_
        rintro e w3 ⟨rfl, rfl⟩
        go_wp2
        go_ret
        exact la_some Hx.out Hs.out hf.out hbW
      | false =>
        have Hs := Lib.hid hs
        rw [hs] at hcx
        clear hs
        go_wp2_with fail
        refine (Tryd.asciiSet_contains _ c false _ hcx).mono ?_
        rintro e w3 ⟨rfl, rfl⟩
        go_wp2
        go_round
        case rel => exact ⟨j, by omega, rfl, Lib.hid (free_step hf.out Hx.out Hs.out)⟩
        case measure => simp [intOf]

theorem Last_calls (s : ByteArray) (hs : s.size ≤ 4294967280) (w : World) (hT : Lib.Utf8Tabs 4 5 w) :
    Calls Tryd.prog 17 #[.string s, .string (⟨#[47, 92]⟩ : ByteArray)] w (LaPost s.data.toList w) := by
  by_cases h8 : 8 < s.size
  · exact Last_long s h8 hs w
  · by_cases h1 : s.size = 1
    · exact Last_one s h1 w
    · exact Last_short s h1 (by omega) w hT
end Go.Proofs.YtmepooboopncmaaDoor
