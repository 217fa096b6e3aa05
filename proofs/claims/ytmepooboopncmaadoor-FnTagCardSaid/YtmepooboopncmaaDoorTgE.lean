/- The contract of 'strings.EqualFold' of a text that is not in ASCII, and a tag as long. -/
import Derived.Test.YtmepooboopncmaaDoorTgF
import Derived.Test.YtmepooboopncmaaDoorDcP
import Derived.Test.YtmepooboopncmaaDoorTgP
import Derived.Test.YtmepooboopncmaaDoorShelf
import Derived.ScopeJumps
import Derived.Lib.OthersKept
import Derived.Lib.Fold
import Derived.Lib.TrimUEq
import Derived.Shelf.Unicode.DecodeLastEight
import Derived.Lib.Strings
import Derived.Laws.Strings3
import Derived.Deep.LoopGhost
import Derived.BigCall
namespace Go.Proofs.YtmepooboopncmaaDoor
open Go.RowKit Stamp
set_option linter.unusedVariables false

/-- where the walk jumps to the second loop -/
def EFJ (s t : ByteArray) (w : World) (a : Act) (w' : World) : Prop := w' = w ∧ ∃ (i : Nat) (u2 u3 u4 u6 u7 u8 u9 u10 u11 u12 u13 u14 u15 u16 u17 u18 u19 u20 u21 u22 u23 u24 u25 u26 u27 u28 u29 u30 u31 u32 u33 u34 u35 u36 u37 u38 u39 u40 u41 u42 u43 u44 u45 u46 u47 u48 u49 u50 u51 u52 u53 u54 u55 u56 u57 u58 u59 u60 u61 u62 u63 u64 u65 u66 u67 u68 u69 u70 u71 u72 u73 u74 u75 u76 u77 u78 u79 u80 u81 u82 u83 u84 u85 u86 u87 u88 u89 u90 u91 u92 u93 u94 u95 u96 u97 u98 u99 u100 u101 u102 u103 u104 u105 u106 u107 u108 u109 u110 u111 u112 u113 u114 u115 u116 u117 u118 u119 u120 u121 u122 : Value), a = { tmps := #[.string s, .string t, u2, u3, u4, .int .i64 (i : Int), u6, u7, u8, u9, u10, u11, u12, u13, u14, u15, u16, u17, u18, u19, u20, u21, u22, u23, u24, u25, u26, u27, u28, u29, u30, u31, u32, u33, u34, u35, u36, u37, u38, u39, u40, u41, u42, u43, u44, u45, u46, u47, u48, u49, u50, u51, u52, u53, u54, u55, u56, u57, u58, u59, u60, u61, u62, u63, u64, u65, u66, u67, u68, u69, u70, u71, u72, u73, u74, u75, u76, u77, u78, u79, u80, u81, u82, u83, u84, u85, u86, u87, u88, u89, u90, u91, u92, u93, u94, u95, u96, u97, u98, u99, u100, u101, u102, u103, u104, u105, u106, u107, u108, u109, u110, u111, u112, u113, u114, u115, u116, u117, u118, u119, u120, u121, u122], defers := [] } ∧ ∃ h : i < s.size, Hid (128 ≤ (s[i]'h).toNat)
theorem or_low {x y : Nat} (hx : x < 128) (hy : y < 128) : x ||| y < 128 := Nat.or_lt_two_pow (n := 7) hx hy
theorem or_high {x y : Nat} (hx : 128 ≤ x) : 128 ≤ x ||| y := Nat.le_trans hx Nat.left_le_or

theorem dec_fit (s : ByteArray) (pos : Nat) (h : pos < s.size) : pos + (Utf8.decode s pos).2 ≤ s.size := by
  have e : s.data.toList.length = s.size := by simp
  rw [Lib.decode_N, e]
  have := Lib.decodeN_le_n (s.size - pos) (s.data.toList.getD pos 0).toNat (s.data.toList.getD (pos + 1) 0).toNat (s.data.toList.getD (pos + 2) 0).toNat (s.data.toList.getD (pos + 3) 0).toNat (by omega)
  omega
theorem dec_long (s : ByteArray) (h : 0 < s.size) {n : Nat} (hd : Utf8.decode s 0 = (383, n)) : n = 2 := by
  have hne : s.data.toList ≠ [] := by
    intro e
    have e1 : s.data.toList.length = 0 := by rw [e]; rfl
    have e2 : s.data.toList.length = s.size := by simp
    omega
  rcases dec_cases s hne with ⟨p, t, hp, hx, h2⟩ | ⟨h2, _⟩
  · rw [hd] at h2
    injection h2 with h3 h4
    rw [h4, ← h3]; rfl
  · rw [hd] at h2
    injection h2 with h3 _
    cases h3
theorem tag_fold : ∀ c : Fin 128, isTag (UInt8.ofNat c.val) = true → c.val = 47 ∧ foldL.getD c.val 0 = 47 ∨ c.val = 115 ∧ foldL.getD c.val 0 = 383 ∨ (99 ≤ c.val ∧ c.val ≤ 121 ∧ foldL.getD c.val 0 = (c.val : Int) - 32 ∧ foldL.getD (c.val - 32) 0 = (c.val : Int)) ∧ c.val ≠ 115 := by decide +kernel
theorem tail_bytes (u : ByteArray) : (u.extract 1 u.size).data.toList = u.data.toList.drop 1 := by
  rw [ByteArray.data_extract, Array.toList_extract, List.extract_eq_take_drop, List.take_of_length_le]
  rw [List.length_drop]
  have : u.data.toList.length = u.size := by simp
  omega

set_option maxRecDepth 1000000 in
set_option maxHeartbeats 16000000 in
theorem EF_no (s t : ByteArray) (hst : s.size = t.size) (hs : s.size ≤ 1048576) (ht : ∀ c ∈ t.data.toList, isTag c = true) (hx : ∃ c ∈ s.data.toList, 128 ≤ c.toNat) (w : World) (hF : FoldTabs w) :
    Calls Tryd.prog 20 #[.string s, .string t] w fun e w' => e = .returned (.bool false) ∧ Below w.heap.size w w' := by
  have HT := Lib.hid ht
  have HX := Lib.hid hx
  have HF := Lib.hid hF
  have hmin : min (s.size : Int) (t.size : Int) = (s.size : Int) := by omega
  have hst1 : (s.size : Int) ≤ (t.size : Int) := by omega
  have HS := Lib.hid hst
  clear ht hx hF hst
  go_enter Tryd.func20, Tryd.ntmps20
  go_wp2
  refine wp_scope_jumps 0 (EFJ s t w) (fun _ _ => 0) rfl ?_ ?_
  · go_wp2
    go_loop [5] (fun x => ∃ i : Nat, i ≤ s.size ∧ x = .int .i64 (i : Int) ∧ Hid (∀ c ∈ s.data.toList.take i, c.toNat < 128)) (fun x => s.size - (intOf x).toNat)
    case atStart => exact ⟨0, Nat.zero_le _, rfl, Lib.hid (by simp)⟩
    case round =>
      obtain ⟨i, hi, rfl, hinv⟩ := hrel
      have hlt : i < s.size := by
        rcases Nat.lt_or_ge i s.size with h | h
        · exact h
        · exfalso
          obtain ⟨c, hc1, hc2⟩ := HX.out
          have := hinv.out c (by rw [List.take_of_length_le (by simp; exact h)]; exact hc1)
          omega
      have hlt2 : i < t.size := by omega
      have hiz : (i : Int) < (s.size : Int) := by omega
      have hiz2 : (i : Int) < (t.size : Int) := by omega
      obtain ⟨x, hx⟩ : ∃ x : UInt8, s[i]'hlt = x := ⟨_, rfl⟩
      obtain ⟨y, hy⟩ : ∃ y : UInt8, t[i]'hlt2 = y := ⟨_, rfl⟩
      have hxl : s.data.toList[i]? = some x := by rw [← hx]; exact Lib.data_getElem? s i hlt
      have hyl : t.data.toList[i]? = some y := by rw [← hy]; exact Lib.data_getElem? t i hlt2
      have hy128 : y.toNat < 128 := tag_low (HT.out y (List.mem_of_getElem? hyl))
      have hxb := x.toNat_lt
      have hor : bits .or .u8 (x.toNat : Int) (y.toNat : Int) = ((x.toNat ||| y.toNat : Nat) : Int) := u8_or_nat _ _ (by omega) (by omega)
      by_cases hx128 : 128 ≤ x.toNat
      · have hor128 : (128 : Int) ≤ ((x.toNat ||| y.toNat : Nat) : Int) := by have := or_high (y := y.toNat) hx128; omega
        have HJ : Hid (∃ h : i < s.size, Hid (128 ≤ (s[i]'h).toNat)) := Lib.hid ⟨hlt, Lib.hid (by rw [hx]; exact hx128)⟩
        clear hxl hyl hmin hinv
        go_wp2
        go_step3
        exact ⟨rfl, rfl, i, _, _, _, _, _, _, _, _, _, _, _, _, _, _, _, _, _, _, _, _, _, _, _, _, _, _, _, _, _, _, _, _, _, _, _, _, _, _, _, _, _, _, _, _, _, _, _, _, _, _, _, _, _, _, _, _, _, _, _, _, _, _, _, _, _, _, _, _, _, _, _, _, _, _, _, _, _, _, _, _, _, _, _, _, _, _, _, _, _, _, _, _, _, _, _, _, _, _, _, _, _, _, _, _, _, _, _, _, _, _, _, _, _, _, _, _, _, _, _, _, rfl, HJ.out⟩
      · have hor128 : ¬ (128 : Int) ≤ ((x.toNat ||| y.toNat : Nat) : Int) := by have := or_low (show x.toNat < 128 by omega) hy128; omega
        have HN : Hid (∀ c ∈ s.data.toList.take (i + 1), c.toNat < 128) := Lib.hid (by
          rw [List.take_add_one, hxl]
          intro c hc
          rcases List.mem_append.1 hc with hc | hc
          · exact hinv.out c hc
          · simp at hc; subst hc; omega)
        clear hxl hyl hmin hinv
        go_wp2
        all_goals first
          | (go_round
             case rel => exact ⟨i + 1, by omega, by go_num, HN⟩
             case measure => simp [intOf]; omega)
          | (simp only [Exit.jump]
             go_ret
             exact ⟨rfl, Below.refl _ _⟩)
  · intro a' w' hJ
    obtain ⟨rfl, i, hJ⟩ := hJ
    obtain ⟨u2, hJ⟩ := hJ
    obtain ⟨u3, hJ⟩ := hJ
    obtain ⟨u4, hJ⟩ := hJ
    obtain ⟨u6, hJ⟩ := hJ
    obtain ⟨u7, hJ⟩ := hJ
    obtain ⟨u8, hJ⟩ := hJ
    obtain ⟨u9, hJ⟩ := hJ
    obtain ⟨u10, hJ⟩ := hJ
    obtain ⟨u11, hJ⟩ := hJ
    obtain ⟨u12, hJ⟩ := hJ
    obtain ⟨u13, hJ⟩ := hJ
    obtain ⟨u14, hJ⟩ := hJ
    obtain ⟨u15, hJ⟩ := hJ
    obtain ⟨u16, hJ⟩ := hJ
    obtain ⟨u17, hJ⟩ := hJ
    obtain ⟨u18, hJ⟩ := hJ
    obtain ⟨u19, hJ⟩ := hJ
    obtain ⟨u20, hJ⟩ := hJ
    obtain ⟨u21, hJ⟩ := hJ
    obtain ⟨u22, hJ⟩ := hJ
    obtain ⟨u23, hJ⟩ := hJ
    obtain ⟨u24, hJ⟩ := hJ
    obtain ⟨u25, hJ⟩ := hJ
    obtain ⟨u26, hJ⟩ := hJ
    obtain ⟨u27, hJ⟩ := hJ
    obtain ⟨u28, hJ⟩ := hJ
    obtain ⟨u29, hJ⟩ := hJ
    obtain ⟨u30, hJ⟩ := hJ
    obtain ⟨u31, hJ⟩ := hJ
    obtain ⟨u32, hJ⟩ := hJ
    obtain ⟨u33, hJ⟩ := hJ
    obtain ⟨u34, hJ⟩ := hJ
    obtain ⟨u35, hJ⟩ := hJ
    obtain ⟨u36, hJ⟩ := hJ
    obtain ⟨u37, hJ⟩ := hJ
    obtain ⟨u38, hJ⟩ := hJ
    obtain ⟨u39, hJ⟩ := hJ
    obtain ⟨u40, hJ⟩ := hJ
    obtain ⟨u41, hJ⟩ := hJ
    obtain ⟨u42, hJ⟩ := hJ
    obtain ⟨u43, hJ⟩ := hJ
    obtain ⟨u44, hJ⟩ := hJ
    obtain ⟨u45, hJ⟩ := hJ
    obtain ⟨u46, hJ⟩ := hJ
    obtain ⟨u47, hJ⟩ := hJ
    obtain ⟨u48, hJ⟩ := hJ
    obtain ⟨u49, hJ⟩ := hJ
    obtain ⟨u50, hJ⟩ := hJ
    obtain ⟨u51, hJ⟩ := hJ
    obtain ⟨u52, hJ⟩ := hJ
    obtain ⟨u53, hJ⟩ := hJ
    obtain ⟨u54, hJ⟩ := hJ
    obtain ⟨u55, hJ⟩ := hJ
    obtain ⟨u56, hJ⟩ := hJ
    obtain ⟨u57, hJ⟩ := hJ
    obtain ⟨u58, hJ⟩ := hJ
    obtain ⟨u59, hJ⟩ := hJ
    obtain ⟨u60, hJ⟩ := hJ
    obtain ⟨u61, hJ⟩ := hJ
    obtain ⟨u62, hJ⟩ := hJ
    obtain ⟨u63, hJ⟩ := hJ
    obtain ⟨u64, hJ⟩ := hJ
    obtain ⟨u65, hJ⟩ := hJ
    obtain ⟨u66, hJ⟩ := hJ
    obtain ⟨u67, hJ⟩ := hJ
    obtain ⟨u68, hJ⟩ := hJ
    obtain ⟨u69, hJ⟩ := hJ
    obtain ⟨u70, hJ⟩ := hJ
    obtain ⟨u71, hJ⟩ := hJ
    obtain ⟨u72, hJ⟩ := hJ
    obtain ⟨u73, hJ⟩ := hJ
    obtain ⟨u74, hJ⟩ := hJ
    obtain ⟨u75, hJ⟩ := hJ
    obtain ⟨u76, hJ⟩ := hJ
    obtain ⟨u77, hJ⟩ := hJ
    obtain ⟨u78, hJ⟩ := hJ
    obtain ⟨u79, hJ⟩ := hJ
    obtain ⟨u80, hJ⟩ := hJ
    obtain ⟨u81, hJ⟩ := hJ
    obtain ⟨u82, hJ⟩ := hJ
    obtain ⟨u83, hJ⟩ := hJ
    obtain ⟨u84, hJ⟩ := hJ
    obtain ⟨u85, hJ⟩ := hJ
    obtain ⟨u86, hJ⟩ := hJ
    obtain ⟨u87, hJ⟩ := hJ
    obtain ⟨u88, hJ⟩ := hJ
    obtain ⟨u89, hJ⟩ := hJ
    obtain ⟨u90, hJ⟩ := hJ
    obtain ⟨u91, hJ⟩ := hJ
    obtain ⟨u92, hJ⟩ := hJ
    obtain ⟨u93, hJ⟩ := hJ
    obtain ⟨u94, hJ⟩ := hJ
    obtain ⟨u95, hJ⟩ := hJ
    obtain ⟨u96, hJ⟩ := hJ
    obtain ⟨u97, hJ⟩ := hJ
    obtain ⟨u98, hJ⟩ := hJ
    obtain ⟨u99, hJ⟩ := hJ
    obtain ⟨u100, hJ⟩ := hJ
    obtain ⟨u101, hJ⟩ := hJ
    obtain ⟨u102, hJ⟩ := hJ
    obtain ⟨u103, hJ⟩ := hJ
    obtain ⟨u104, hJ⟩ := hJ
    obtain ⟨u105, hJ⟩ := hJ
    obtain ⟨u106, hJ⟩ := hJ
    obtain ⟨u107, hJ⟩ := hJ
    obtain ⟨u108, hJ⟩ := hJ
    obtain ⟨u109, hJ⟩ := hJ
    obtain ⟨u110, hJ⟩ := hJ
    obtain ⟨u111, hJ⟩ := hJ
    obtain ⟨u112, hJ⟩ := hJ
    obtain ⟨u113, hJ⟩ := hJ
    obtain ⟨u114, hJ⟩ := hJ
    obtain ⟨u115, hJ⟩ := hJ
    obtain ⟨u116, hJ⟩ := hJ
    obtain ⟨u117, hJ⟩ := hJ
    obtain ⟨u118, hJ⟩ := hJ
    obtain ⟨u119, hJ⟩ := hJ
    obtain ⟨u120, hJ⟩ := hJ
    obtain ⟨u121, hJ⟩ := hJ
    obtain ⟨u122, hJ⟩ := hJ
    obtain ⟨rfl, hlt, hbig⟩ := hJ
    have hs1 : (s.extract i s.size).size = s.size - i := by rw [ByteArray.size_extract]; omega
    have ht1 : (t.extract i t.size).size = t.size - i := by rw [ByteArray.size_extract]; omega
    have hi1 : (i : Int) ≤ (s.size : Int) := by omega
    have hi2 : (i : Int) ≤ (t.size : Int) := by omega
    have h0 : 0 < (s.extract i s.size).size := by omega
    have hb0 : Hid (128 ≤ ((s.extract i s.size)[0]'h0).toNat) := Lib.hid (by
      have := hbig.out
      rw [ByteArray.getElem_extract]
      simpa using this)
    have htt : Hid (∀ c ∈ (t.extract i t.size).data.toList, isTag c = true) := Lib.hid (by
      intro c hc
      rw [ByteArray.data_extract, Array.toList_extract, List.extract_eq_take_drop] at hc
      exact HT.out c (List.mem_of_mem_drop (List.mem_of_mem_take hc)))
    have hsz : Hid ((t.extract i t.size).size = (s.extract i s.size).size) := Lib.hid (by rw [hs1, ht1, HS.out])
    have hsm : (s.extract i s.size).size ≤ 1048576 := by omega
    have hum : (t.extract i t.size).size ≤ 1048576 := by rw [hsz.out]; exact hsm
    obtain ⟨s', hs'⟩ : ∃ s', s' = s.extract i s.size := ⟨_, rfl⟩
    obtain ⟨t', ht'⟩ : ∃ t', t' = t.extract i t.size := ⟨_, rfl⟩
    go_wp2
    rw [← hs', ← ht']
    rw [← hs'] at h0 hsm
    rw [← ht'] at hum
    have htt2 : Hid (∀ c ∈ t'.data.toList, isTag c = true) := by rw [ht']; exact htt
    have hsz2 : Hid (t'.size = s'.size) := by rw [ht', hs']; exact hsz
    have hb2 : Hid (∀ h : 0 < s'.size, 128 ≤ (s'[0]'h).toNat) := Lib.hid (by intro h; subst hs'; exact hb0.out)
    clear hs1 ht1 hi1 hi2 htt hsz hb0 hs' ht' hbig hmin hst1
    go_loopw [1] (fun tv wr => ∃ (pos : Nat) (u : ByteArray), tv = .string u ∧ u.size ≤ 1048576 ∧ wr.heap[w'.heap.size]? = some (.stringIter s' pos) ∧ Below w'.heap.size w' wr ∧ Hid (∀ c ∈ u.data.toList, isTag c = true) ∧ pos ≤ s'.size ∧ (Hid (pos = 0 ∧ u.size = s'.size) ∨ Hid (s'.size < u.size + pos))) (fun _ wr => s'.size - wr.iterPos w'.heap.size)
    case atStart => exact ⟨0, t', rfl, hum, World.iter_heap w' s' 0, (Below.refl _ w').alloc (Nat.le_refl _) _, htt2, Nat.zero_le _, .inl (Lib.hid ⟨rfl, hsz2.out⟩)⟩
    case round =>
      obtain ⟨pos, u, rfl, hu, hit, hb, htag, hpos, hst⟩ := hrel
      by_cases hp : pos < s'.size
      · have hnx : ∀ ty, (Instr.next (.pointer (some ⟨w'.heap.size, 0, none⟩)) true ty).run Tryd.prog wr = _ := fun ty => Lib.run_next_any_at wr w'.heap.size s' pos ty hit hp
        have hn1 := Lib.width_pos s' pos
        have hfit := dec_fit s' pos hp
        have hP1 := Lib.rune_le s' pos
        have hhi : pos = 0 → 128 ≤ (Utf8.decode s' pos).1 := fun e => by subst e; exact (decode_high s' 0 hp (hb2.out hp)).1
        have hlong : pos = 0 → (Utf8.decode s' pos).1 = 383 → (Utf8.decode s' pos).2 = 2 := fun e h => by
          subst e
          exact dec_long s' hp (n := (Utf8.decode s' 0).2) (Prod.ext h rfl)
        obtain ⟨P, n, hd⟩ : ∃ P n, Utf8.decode s' pos = (P, n) := ⟨_, _, rfl⟩
        rw [hd] at hnx hn1 hfit hP1 hhi hlong
        simp only [] at hn1 hfit hP1 hhi hlong
        have hu0 : 1 ≤ u.size := by
          rcases hst with h | h
          · have := h.out; omega
          · have := h.out; omega
        obtain ⟨c, hc⟩ : ∃ c, u.data.toList[0]? = some c := ⟨_, List.getElem?_eq_getElem (by simp; exact hu0)⟩
        have hct := htag.out c (List.mem_of_getElem? hc)
        have hc128 := tag_low hct
        have HD := Lib.hid (fun W => Tryd.utf8_DecodeRuneInString_ascii u c W hc hc128)
        have htag2 : Hid (∀ c ∈ (u.extract 1 u.size).data.toList, isTag c = true) := Lib.hid (by rw [tail_bytes]; exact fun x hx => htag.out x (List.mem_of_mem_drop hx))
        have husz : (u.extract 1 u.size).size = u.size - 1 := by rw [ByteArray.size_extract]; omega
        have hu1 : (u.extract 1 u.size).size ≤ 1048576 := by omega
        have hit2 := Lib.iterAt_heap wr w'.heap.size s' pos (pos + n) hit
        have hb2w := Lib.below_iterAt hb (k := w'.heap.size) (Nat.le_refl _) s' (pos + n)
        have hFw := Lib.hid (HF.out.below hb2w)
        have Hit := Lib.hid hit
        have hu0' : ((u.size : Int) == 0) = false := by rw [beq_eq_false_iff_ne]; omega
        have hu0'' : (1 : Int) ≤ (u.size : Int) := by omega
        have hstrict : (pos = 0 → n = 2) → Hid (s'.size < (u.extract 1 u.size).size + (pos + n)) := fun h => Lib.hid (by
          rcases hst with h1 | h1
          · have h2 := h1.out
            have h3 := h h2.1
            omega
          · have h2 := h1.out
            omega)
        have Hstrict := Lib.hid hstrict
        have Hlong := Lib.hid hlong
        have hP0 : (0 : Int) ≤ (P : Int) := by omega
        have hc0 : (0 : Int) ≤ (c.toNat : Int) := by omega
        have hc7 : (c.toNat : Int) < 128 := by omega
        clear hd hit hb hst hstrict hlong husz hc htag
        by_cases hPl : P < 128
        · have HN : Hid (s'.size < (u.extract 1 u.size).size + (pos + n)) := Hstrict.out (fun e => by have := hhi e; omega)
          have hPl' : (P : Int) < 128 := by omega
          clear hhi hct hPl
          go_wp2_with fail
          refine (HD.out _).mono ?_
          rintro e w2 ⟨rfl, rfl⟩
          go_wp2
          all_goals first
            | (go_roundw
               case rel => exact ⟨pos + n, u.extract 1 u.size, rfl, hu1, hit2, hb2w, htag2, hfit, .inr HN⟩
               case measure => simp only [World.iterPos, hit2, Hit.out]; omega)
            | (simp only [Exit.jump]
               go_ret
               exact ⟨rfl, hb2w⟩)
        · have hP128 : (128 : Int) ≤ (P : Int) := by omega
          have e1 : ((c.toNat : Int) == (P : Int)) = false := by simp; omega
          have e2 : (c.toNat : Int) < (P : Int) := by omega
          have e3 : ¬ (P : Int) < 128 := by omega
          have hFa := Lib.hid (fun W hW => SF_ascii c.toNat hc128 W hW)
          rcases tag_fold ⟨c.toNat, hc128⟩ (by rw [ofNat_eq rfl]; exact hct) with ⟨h1, h2⟩ | ⟨h1, h2⟩ | ⟨⟨h1, h1', h2, h3⟩, h4⟩
          · simp only [] at h1 h2
            rw [h1] at h2 hFa HD e1 e2 hc0 hc7
            rw [h2] at hFa
            have e5 : (((47 : Nat) : Int) == (P : Int)) = false := e1
            have e6 : ((47 : Int) == (P : Int)) = false := e1
            clear hhi hct hPl h1 h2 hc128
            go_wp2_with fail
            refine (HD.out _).mono ?_
            rintro e w2 ⟨rfl, rfl⟩
            go_wp2_with fail
            refine (hFa.out _ hFw.out).mono ?_
            rintro e w2 ⟨rfl, rfl⟩
            go_wp2_with fail
            refine wp_loop_rounds 1 ?_
            rw [rounds_succ]
            go_wp2
            simp only [Exit.jump]
            go_ret
            exact ⟨rfl, hb2w⟩
          · simp only [] at h1 h2
            rw [h1] at h2 hFa HD e1 e2 hc0 hc7
            rw [h2] at hFa
            have HNo : Hid (P = 383 → Hid (s'.size < (u.extract 1 u.size).size + (pos + n))) := Lib.hid fun h => Hstrict.out (fun e => Hlong.out e h)
            rcases (show P < 383 ∨ P = 383 ∨ 383 < P by omega) with hP3 | hP3 | hP3
            · have e5 : decide ((383 : Int) < (P : Int)) = false := by simp; omega
              have e6 : ((383 : Int) == (P : Int)) = false := by rw [beq_eq_false_iff_ne]; omega
              clear hhi hct hPl h1 h2 hc128 hP3
              go_wp2_with fail
              refine (HD.out _).mono ?_
              rintro e w2 ⟨rfl, rfl⟩
              go_wp2_with fail
              refine (hFa.out _ hFw.out).mono ?_
              rintro e w2 ⟨rfl, rfl⟩
              go_wp2_with fail
              refine wp_loop_rounds 1 ?_
              rw [rounds_succ]
              go_wp2
              simp only [Exit.jump]
              go_ret
              exact ⟨rfl, hb2w⟩
            · have e5 : decide ((383 : Int) < (P : Int)) = false := by simp; omega
              have e6 : ((383 : Int) == (P : Int)) = true := by rw [beq_iff_eq]; omega
              have HN := HNo.out hP3
              clear hhi hct hPl h1 h2 hc128 hP3 HNo
              go_wp2_with fail
              refine (HD.out _).mono ?_
              rintro e w2 ⟨rfl, rfl⟩
              go_wp2_with fail
              refine (hFa.out _ hFw.out).mono ?_
              rintro e w2 ⟨rfl, rfl⟩
              go_wp2_with fail
              refine wp_loop_rounds 1 ?_
              rw [rounds_succ]
              go_wp2
              go_roundw
              case rel => exact ⟨pos + n, u.extract 1 u.size, rfl, hu1, hit2, hb2w, htag2, hfit, .inr HN⟩
              case measure => simp only [World.iterPos, hit2, Hit.out]; omega
            · have e5 : (383 : Int) < (P : Int) := by omega
              have e6 : (83 : Int) < (P : Int) := by omega
              have e7 : ((115 : Int) == (P : Int)) = false := by rw [beq_eq_false_iff_ne]; omega
              have hFc := Lib.hid (fun W hW => SF_ascii 83 (by decide) W hW)
              rw [show foldL.getD 83 0 = 115 by decide] at hFc
              clear hhi hct hPl h1 h2 hc128 hP3 HNo
              go_wp2_with fail
              refine (HD.out _).mono ?_
              rintro e w2 ⟨rfl, rfl⟩
              go_wp2_with fail
              refine (hFa.out _ hFw.out).mono ?_
              rintro e w2 ⟨rfl, rfl⟩
              go_wp2_with fail
              refine wp_loop_rounds 3 ?_
              rw [rounds_succ]
              go_wp2_with fail
              refine (SF_long _ hFw.out).mono ?_
              rintro e w2 ⟨rfl, rfl⟩
              go_wp2_with fail
              rw [rounds_succ]
              go_wp2_with fail
              refine (hFc.out _ hFw.out).mono ?_
              rintro e w2 ⟨rfl, rfl⟩
              go_wp2_with fail
              rw [rounds_succ]
              go_wp2
              simp only [Exit.jump]
              go_ret
              exact ⟨rfl, hb2w⟩
          · simp only [] at h1 h1' h2 h3 h4
            obtain ⟨d, hd⟩ : ∃ d, d = c.toNat - 32 := ⟨_, rfl⟩
            rw [← hd] at h3
            have hd2 : (c.toNat : Int) - 32 = (d : Int) := by omega
            rw [h2, hd2] at hFa
            have hFc := Lib.hid (fun W hW => SF_ascii d (by omega) W hW)
            rw [h3] at hFc
            have e5 : ((d : Int) != (c.toNat : Int)) = true := by rw [bne_iff_ne]; omega
            have e6 : (d : Int) < (P : Int) := by omega
            clear hhi hct hPl h1 h1' h2 h3 h4 hc128 hd hd2
            go_wp2_with fail
            refine (HD.out _).mono ?_
            rintro e w2 ⟨rfl, rfl⟩
            go_wp2_with fail
            refine (hFa.out _ hFw.out).mono ?_
            rintro e w2 ⟨rfl, rfl⟩
            go_wp2_with fail
            refine wp_loop_rounds 2 ?_
            rw [rounds_succ]
            go_wp2_with fail
            refine (hFc.out _ hFw.out).mono ?_
            rintro e w2 ⟨rfl, rfl⟩
            go_wp2_with fail
            rw [rounds_succ]
            go_wp2
            simp only [Exit.jump]
            go_ret
            exact ⟨rfl, hb2w⟩
      · have hnx : ∀ ty, (Instr.next (.pointer (some ⟨w'.heap.size, 0, none⟩)) true ty).run Tryd.prog wr = _ := fun ty => Lib.run_next_end_at wr w'.heap.size s' pos ty hit hp
        have hu0 : ((u.size : Int) == 0) = false := by
          rcases hst with h | h
          · have := h.out; rw [beq_eq_false_iff_ne]; omega
          · have := h.out; rw [beq_eq_false_iff_ne]; omega
        clear hst
        go_wp2
        simp only [Exit.jump]
        go_ret
        exact ⟨rfl, hb⟩
end Go.Proofs.YtmepooboopncmaaDoor
