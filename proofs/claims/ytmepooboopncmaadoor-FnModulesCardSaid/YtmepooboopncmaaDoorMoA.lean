/- The contracts of 'strings.IndexRune' at a slash and a backslash, and of 'strings.LastIndexAny' there. -/
import Derived.Test.YtmepooboopncmaaDoorDcP
import Derived.Test.YtmepooboopncmaaDoorMoP
import Derived.Test.YtmepooboopncmaaDoorMem
import Derived.Test.YtmepooboopncmaaDoorShelf
import Derived.Lib.IndexBytes
import Derived.Lib.OthersKept
import Derived.WalkSmall
import Derived.BigCall
import Derived.Laws.Runes
import Derived.Deep.QuietTactic
import Derived.BigQuiet
import Derived.Lib.AsciiSet
namespace Go.Proofs.YtmepooboopncmaaDoor
open Go.RowKit Stamp
set_option linter.unusedVariables false

theorem ix_sl : ∀ c : Fin 128, Lib.indexByte [47, 92] (((c.val : Int)).toNat.toUInt8) = if c.val = 47 then 0 else if c.val = 92 then 1 else -1 := by decide +kernel
theorem IR_yes (c : UInt8) (h : isSl c = true) (w : World) : Calls Tryd.prog 23 #[.string (⟨#[47, 92]⟩ : ByteArray), .int .i32 (c.toNat : Int)] w fun e w' => (∃ j : Int, 0 ≤ j ∧ e = .returned (.int .i64 j)) ∧ w' = w := by
  simp [isSl] at h
  have hc : c.toNat < 128 := by omega
  refine (Tryd.strings_IndexRune_ascii (⟨#[47, 92]⟩ : ByteArray) (c.toNat : Int) w (by omega) (by omega)).mono ?_
  rintro e w' ⟨rfl, rfl⟩
  refine ⟨⟨_, ?_, rfl⟩, rfl⟩
  have := ix_sl ⟨c.toNat, hc⟩
  simp only [] at this
  rw [show (⟨#[47, 92]⟩ : ByteArray).data.toList = [47, 92] from rfl, this]
  rcases h with h | h
  · rw [if_pos h]; decide
  · rw [if_neg (by omega), if_pos h]; decide
theorem quiet_add1 {P : Program} {f : FuncId} {args : Array Value} {w : World} {a n : Nat} {v : Value} (h : Calls P f args (w.drewN (a + n)) fun e w' => e = .returned v ∧ w' = w.drewN (a + n)) :
    Calls P f args (w.drewN (a + n)) fun e w'' => e = .returned v ∧ ∃ m, w'' = w.drewN (a + m) := h.mono fun _ _ ⟨he, hm⟩ => ⟨he, n, hm⟩
theorem enc_pack (r : Int) (hv : Utf8.valid r = true) (h : 128 ≤ r) : ∃ rs : ByteArray, Utf8.encode r = rs ∧ 2 ≤ rs.size ∧ rs.size ≤ 4 ∧ ∀ h : rs.size - 1 < rs.size, 128 ≤ (rs[rs.size - 1]'h).toNat := ⟨_, rfl, encode_facts r hv h⟩
theorem last_one (rs : ByteArray) (h : ∀ h : rs.size - 1 < rs.size, 128 ≤ (rs[rs.size - 1]'h).toNat) (h2 : rs.size = 2) (hlt : 1 < rs.size) : 128 ≤ (rs[1]'hlt).toNat := by
  have h3 := h (by omega)
  have e : rs.size - 1 = 1 := by omega
  simpa only [e] using h3
theorem validR {r : Int} (h : Utf8.valid r = true) : Lib.validRune r = true := by
  simp [Utf8.valid] at h
  simp [Lib.validRune]
  omega
set_option maxRecDepth 1000000 in
set_option maxHeartbeats 2000000 in
theorem IR_no (r : Nat) (h : r < 128 → r ≠ 47 ∧ r ≠ 92) (hv : Utf8.valid (r : Int) = true) (w : World) : Calls Tryd.prog 23 #[.string (⟨#[47, 92]⟩ : ByteArray), .int .i32 (r : Int)] w fun e w' => e = .returned (.int .i64 (-1)) ∧ Below w.heap.size w w' := by
  by_cases hc : r < 128
  · obtain ⟨h1, h2⟩ := h hc
    refine (Tryd.strings_IndexRune_ascii (⟨#[47, 92]⟩ : ByteArray) (r : Int) w (by omega) (by omega)).mono ?_
    rintro e w' ⟨rfl, rfl⟩
    refine ⟨?_, Below.refl _ _⟩
    have := ix_sl ⟨r, hc⟩
    simp only [] at this
    rw [show (⟨#[47, 92]⟩ : ByteArray).data.toList = [47, 92] from rfl, this, if_neg h1, if_neg h2]
  · have hr : (128 : Int) ≤ (r : Int) := by omega
    have hr2 : ¬ (r : Int) < 128 := by omega
    by_cases hb : r = 65533
    · subst hb
      clear h hc hr hr2 hv
      go_enter Tryd.func23, Tryd.ntmps23
      go_wp2
      go_loopw [] (fun wr => ∃ pos : Nat, pos ≤ 2 ∧ wr.heap[w.heap.size]? = some (.stringIter (⟨#[47, 92]⟩ : ByteArray) pos) ∧ Below w.heap.size w wr) (fun wr => 2 - wr.iterPos w.heap.size)
      case atStart => exact ⟨0, by omega, World.iter_heap w _ 0, (Below.refl _ w).alloc (Nat.le_refl _) _⟩
      case round =>
        obtain ⟨pos, hp2, hit, hb⟩ := hrel
        by_cases hp : pos < 2
        · have hnx : ∀ ty, (Instr.next (.pointer (some ⟨w.heap.size, 0, none⟩)) true ty).run Tryd.prog wr = _ := fun ty => Lib.run_next_any_at wr w.heap.size (⟨#[47, 92]⟩ : ByteArray) pos ty hit hp
          obtain ⟨c, hd, hc⟩ : ∃ c : Nat, Utf8.decode (⟨#[47, 92]⟩ : ByteArray) pos = (c, 1) ∧ c < 128 := by
            rcases (show pos = 0 ∨ pos = 1 by omega) with rfl | rfl
            · exact ⟨47, by decide, by decide⟩
            · exact ⟨92, by decide, by decide⟩
          rw [hd] at hnx
          have hit2 := Lib.iterAt_heap wr w.heap.size (⟨#[47, 92]⟩ : ByteArray) pos (pos + 1) hit
          have hb2 := Lib.below_iterAt hb (k := w.heap.size) (Nat.le_refl _) (⟨#[47, 92]⟩ : ByteArray) (pos + 1)
          have Hit := Lib.hid hit
          have tc : ((c : Int) == 65533) = false := by simp; omega
          clear hd hit hb hc
          go_wp2
          go_roundw
          case rel => exact ⟨pos + 1, by omega, hit2, hb2⟩
          case measure => simp only [World.iterPos, hit2, Hit.out]; omega
        · have hnx : ∀ ty, (Instr.next (.pointer (some ⟨w.heap.size, 0, none⟩)) true ty).run Tryd.prog wr = _ := fun ty => Lib.run_next_end_at wr w.heap.size (⟨#[47, 92]⟩ : ByteArray) pos ty hit hp
          go_wp2
          go_ret
          exact ⟨rfl, hb⟩
    · have hb' : ((r : Int) == 65533) = false := by simp; omega
      have HV := Lib.hid (validR hv)
      obtain ⟨rs, hrs, e1, e2, e4⟩ := enc_pack (r : Int) hv hr
      have hcv : ∀ W, (convert 21 9 (.int .i32 (r : Int))).run Tryd.prog W = .ok (.string rs) W := fun W => by
        rw [← hrs]
        exact run_convert_int_string W 21 9 .i32 (r : Int) (by rw [Tryd.underlying21]; rfl) Tryd.underlying9
      have z1 : (2 : Int) ≤ (rs.size : Int) := by omega
      have z2 : (rs.size : Int) ≤ 4 := by omega
      clear hrs h hc hb hv
      by_cases h3 : rs.size = 2
      · have hlt : 1 < rs.size := by omega
        have h5 := last_one rs e4 h3 hlt
        obtain ⟨x, hx⟩ : ∃ x : UInt8, rs[1]'hlt = x := ⟨_, rfl⟩
        rw [hx] at h5
        have h6 : ((((⟨#[47, 92]⟩ : ByteArray)[1]'(by decide)).toNat : Int) != (x.toNat : Int)) = true := by
          rw [show ((⟨#[47, 92]⟩ : ByteArray)[1]'(by decide)).toNat = 92 from rfl, bne_iff_ne]; omega
        have h7 : (rs.size : Int) - 1 = 1 := by omega
        have HIB : Hid (∀ W, Calls Tryd.prog 31 #[.string (⟨#[]⟩ : ByteArray), .int .u8 (x.toNat : Int)] W fun e w' => e = .returned (.int .i64 (-1)) ∧ w' = W) := Lib.hid fun W => Tryd.strings_IndexByte _ _ W
        clear e4 h5 e1 e2 z1 z2
        go_enter Tryd.func23, Tryd.ntmps23
        go_wp2_with fail
        refine (Tryd.utf8_ValidRune (r : Int) _).mono ?_
        rintro e w1 ⟨rfl, rfl⟩
        rw [HV.out]
        go_wp2_with fail
        go_step3
        go_wp2_with fail
        refine wp_loop_rounds 1 ?_
        rw [rounds_succ]
        go_wp2
        go_step3
        go_wp2
        go_quiet (fail)
        go_wp2
        go_quiet ((go_at_call 31; exact quiet_add1 (HIB.out _)))
        go_wp2
        rw [Exit.noGoto_ret]
        go_wp2
        try rw [Exit.noGoto_ret]
        go_ret
        exact ⟨rfl, below_drewN (Below.refl _ _) _⟩
      · have t1 : decide ((rs.size : Int) - 1 < 2) = false := by simp; omega
        have t2 : decide ((rs.size : Int) < 3) = false := by simp; omega
        have t3 : (3 : Int) ≤ (rs.size : Int) := by omega
        clear e4 e1 e2 h3
        go_enter Tryd.func23, Tryd.ntmps23
        go_wp2_with fail
        refine (Tryd.utf8_ValidRune (r : Int) _).mono ?_
        rintro e w1 ⟨rfl, rfl⟩
        rw [HV.out]
        go_wp2_with fail
        go_step3
        go_wp2_with fail
        refine wp_loop_rounds 1 ?_
        rw [rounds_succ]
        go_wp2
        try rw [Exit.noGoto_ret]
        go_ret
        exact ⟨rfl, Below.refl _ _⟩
end Go.Proofs.YtmepooboopncmaaDoor
