/- The walk of 'laws.FnBeyond'. -/
import Derived.Test.YtgfneibklomdjaaPoints
import Derived.Test.YtgfneibklomdjaaDec
import Derived.Lib.OthersKept
import Derived.WalkSmall
import Derived.BigCall
namespace Go.Proofs.Ytgfneibklomdjaa
open Go.RowKit Stamp
set_option linter.unusedVariables false

def beyB (ps : List Nat) : Bool := ps.any fun p => decide (65535 < p)
theorem bey_yes {done rest : List Nat} {p : Nat} (h : 65535 < p) : beyB (done ++ p :: rest) = true := by
  unfold beyB; rw [List.any_eq_true]; exact ⟨p, by simp, by simpa using h⟩
theorem bey_no {done : List Nat} (h : ∀ p ∈ done, p ≤ 65535) : beyB done = false := by
  unfold beyB; rw [List.any_eq_false]; intro p hp; have := h p hp; simp; omega
theorem bey_snoc {ps : List Nat} {p : Nat} (h : 65535 < p) : beyB (ps ++ [p]) = true := bey_yes (rest := []) h

set_option maxHeartbeats 1000000 in
theorem Beyond23 (s : ByteArray) (ps : List Nat) (hl : s.data.toList = encAll ps) (hps : ∀ p ∈ ps, Scalar p) (hs : s.size ≤ maxLen) (w : World) :
    Calls Try.prog 23 #[.string s] w fun e w' => e = .returned (.bool (beyB ps)) ∧ Below w.heap.size w w' := by
  unfold maxLen at hs
  have Hl := Lib.hid hl
  have Hps := Lib.hid hps
  clear hl hps
  go_enter Try.func23, Try.ntmps23
  go_wp2
  go_loopw [] (fun wr => ∃ (pos : Nat) (done rest : List Nat), wr.heap[w.heap.size]? = some (.stringIter s pos) ∧ Below w.heap.size w wr ∧ Hid (ps = done ++ rest) ∧ Hid (∀ p ∈ done, p ≤ 65535) ∧ Hid (s.data.toList.drop pos = encAll rest))
    (fun wr => s.size - wr.iterPos w.heap.size)
  case atStart =>
    refine ⟨0, [], ps, ?_, (Below.refl _ w).alloc (Nat.le_refl _) _, Lib.hid rfl, Lib.hid (by simp), Lib.hid Hl.out⟩
    exact World.iter_heap w s 0
  case round =>
    obtain ⟨pos, done, rest, hit, hb, hsp, hd, hr⟩ := hrel
    by_cases hp : pos < s.size
    · have hnx : ∀ ty, (Instr.next (.pointer (some ⟨w.heap.size, 0, none⟩)) true ty).run Try.prog wr = _ := fun ty => Lib.run_next_any_at wr w.heap.size s pos ty hit hp
      have hrn : rest ≠ [] := by
        intro e
        have := hr.out
        rw [e] at this
        have h2 := congrArg List.length this
        rw [List.length_drop] at h2
        have e : s.data.toList.length = s.size := by simp
        simp [encAll] at h2
        omega
      match rest, hrn, hsp, hr with
      | p :: rest, _, hsp, hr =>
        have hsc : Scalar p := Hps.out p (by rw [hsp.out]; simp)
        have hdec := decode_enc s pos p (encAll rest) hsc (by rw [hr.out]; rfl)
        rw [hdec] at hnx
        have hp1 := hsc.1
        have hit2 := Lib.iterAt_heap wr w.heap.size s pos (pos + (enc p).length) hit
        have hb2 := Lib.below_iterAt hb (k := w.heap.size) (Nat.le_refl _) s (pos + (enc p).length)
        have hr2 := Lib.hid (show s.data.toList.drop (pos + (enc p).length) = encAll rest by rw [← List.drop_drop, hr.out]; exact List.drop_left)
        have hel := (enc_len p).1
        have Hit := Lib.hid hit
        clear hdec hit hb hr hsc
        by_cases hbig : 65535 < p
        · have hbig' : (65535 : Int) < (p : Int) := by omega
          have hB := Lib.hid (bey_yes (done := done) (rest := rest) hbig)
          clear hbig
          go_wp2
          go_ret
          exact ⟨ret_bool (by rw [hsp.out, hB.out]), hb2⟩
        · have hbig' : ¬ (65535 : Int) < (p : Int) := by omega
          go_wp2
          go_roundw
          case rel => exact ⟨pos + (enc p).length, done ++ [p], rest, hit2, hb2, Lib.hid (by rw [hsp.out]; simp), Lib.hid (by intro q hq; rcases List.mem_append.1 hq with h | h; exact hd.out q h; rw [List.mem_singleton.1 h]; omega), hr2⟩
          case measure => simp only [World.iterPos, hit2, Hit.out]; omega
    · have hnx : ∀ ty, (Instr.next (.pointer (some ⟨w.heap.size, 0, none⟩)) true ty).run Try.prog wr = _ := fun ty => Lib.run_next_end_at wr w.heap.size s pos ty hit hp
      have hrn : rest = [] := by
        have := hr.out
        rw [List.drop_eq_nil_of_le (by simp; omega)] at this
        match rest, this with
        | [], _ => rfl
        | p :: r, this => exact absurd (List.append_eq_nil_iff.1 this.symm).1 (enc_ne p)
      have hB := Lib.hid (bey_no hd.out)
      subst hrn
      clear hr
      go_wp2
      go_ret
      exact ⟨ret_bool (by rw [hsp.out, List.append_nil, hB.out]), hb⟩

theorem Beyond11 (s : ByteArray) (ps : List Nat) (hl : s.data.toList = encAll ps) (hps : ∀ p ∈ ps, Scalar p) (hs : s.size ≤ maxLen) (w : World) :
    Calls Try.prog 11 #[.string s] w fun e w' => e = .returned (.bool (beyB ps)) ∧ Below w.heap.size w w' := by
  have Hl := Lib.hid hl
  have Hps := Lib.hid hps
  clear hl hps
  go_enter Try.func11, Try.ntmps11
  go_wp2_with fail
  refine (Beyond23 s ps Hl.out Hps.out hs w).mono ?_
  rintro e w' ⟨rfl, hb⟩
  go_wp2
  go_ret
  exact ⟨rfl, hb⟩

set_option maxHeartbeats 400000 in
theorem Beyond12 (s : ByteArray) (ps : List Nat) (hl : s.data.toList = encAll ps) (hps : ∀ p ∈ ps, Scalar p) (hs : s.size ≤ 8589934592) (w : World) :
    Calls Try.prog 12 #[.string s] w fun e w' => e = .returned (.bool (beyB ps)) ∧ Below w.heap.size w w' := by
  have Hpt := Lib.hid ((points_some_iff s.data.toList ps).2 ⟨hl, hps⟩)
  have hbd := Lib.hid (fun p hp => (hps p hp).1 : ∀ p ∈ ps, p ≤ 1114111)
  clear hl hps
  go_enter Try.func12, Try.ntmps12
  go_wp2_with fail
  refine (Points_calls s w hs).mono ?_
  rintro e w' ⟨hb, ⟨hn, rfl⟩ | ⟨ps', A, c, hn, rfl, h1, h2, h3, h4⟩⟩
  · have := Hpt.out
    rw [hn] at this; cases this
  · obtain rfl : ps' = ps := by have := Hpt.out; rw [hn] at this; injection this
    have hn2 : ps'.length ≤ maxLen := by omega
    unfold maxLen at hn2
    clear hn h3 h2
    go_wp2
    go_loop [14] (fun i => ∃ k : Nat, k ≤ ps'.length ∧ i = .int .i64 k ∧ Hid (∀ p ∈ ps'.take k, p ≤ 65535)) (fun i => ps'.length - (intOf i).toNat)
    case atStart => exact ⟨0, Nat.zero_le _, rfl, Lib.hid (by simp)⟩
    case round =>
      obtain ⟨k, hk, rfl, hd⟩ := hrel
      by_cases hlt : k < ps'.length
      · obtain ⟨b1, o1, p, rfl, _, hx, hc1⟩ := h4.atMap (k := k) hlt
        have HX := Lib.hid hx
        have hp1 := hbd.out p (List.mem_of_getElem? hx)
        clear hx h4
        unfold natI at hc1
        by_cases hbig : 65535 < p
        · have hbig' : (65535 : Int) < (p : Int) := by omega
          have hB : Hid (beyB ps' = true) := Lib.hid (by unfold beyB; rw [List.any_eq_true]; exact ⟨p, List.mem_of_getElem? HX.out, by simpa using hbig⟩)
          clear hbig
          go_wp2
          go_ret
          exact ⟨ret_bool hB.out.symm, hb⟩
        · have hbig' : ¬ (65535 : Int) < (p : Int) := by omega
          go_wp2
          go_round
          case rel => exact ⟨k + 1, by omega, by go_num, Lib.hid (by
            intro q hq
            rw [List.take_add_one, HX.out] at hq
            rcases List.mem_append.1 hq with h | h
            · exact hd.out q h
            · simp at h; omega)⟩
          case measure => simp [intOf]; omega
      · have hB := Lib.hid (bey_no (done := ps') (by have := hd.out; rwa [List.take_of_length_le (by omega)] at this))
        go_wp2
        go_ret
        exact ⟨ret_bool hB.out.symm, hb⟩

theorem enc_smile (s : ByteArray) : (s ++ ⟨#[240, 159, 152, 128]⟩ : ByteArray).data.toList = s.data.toList ++ encAll [128512] := by
  simp [encAll, enc]

set_option maxHeartbeats 400000 in
theorem beyond_walk (s : ByteArray) (hs : s.size ≤ maxLen) (w : World) :
    Calls Try.prog 4 #[.string s] w fun e w' => e = .returned (.bool true) ∧ Below w.heap.size w w' := by
  by_cases h1 : 2147483647 < s.size
  · unfold maxLen at hs
    have h1' : (2147483647 : Int) < (s.size : Int) := by omega
    go_enter Try.func4, Try.ntmps4
    go_wp2
    go_ret
    exact ⟨rfl, Below.refl _ _⟩
  · have h1' : ¬ (2147483647 : Int) < (s.size : Int) := by omega
    have h2 : s.size ≤ 8589934592 := by omega
    cases hv : validB s.data.toList with
    | false =>
      go_enter Try.func4, Try.ntmps4
      go_wp2_with fail
      refine (Valid_calls s w h2).mono ?_
      rintro e w' ⟨rfl, hb⟩
      go_wp2
      go_ret
      exact ⟨rfl, hb⟩
    | true =>
      obtain ⟨ps, hp⟩ := valid_points hv
      obtain ⟨hl, hps⟩ := points_sound _ _ hp
      have Hl := Lib.hid hl
      have Hps := Lib.hid hps
      clear hl hps hp
      go_enter Try.func4, Try.ntmps4
      go_wp2_with fail
      refine (Valid_calls s w h2).mono ?_
      rintro e w1 ⟨rfl, hb1⟩
      go_wp2_with fail
      refine (Beyond11 s ps Hl.out Hps.out hs w1).mono ?_
      rintro e w2 ⟨rfl, hb2⟩
      go_wp2_with fail
      refine (Beyond12 s ps Hl.out Hps.out h2 w2).mono ?_
      rintro e w3 ⟨rfl, hb3⟩
      go_wp2_with fail
      refine (Beyond11 _ (ps ++ [128512]) (by rw [enc_smile, Hl.out, encAll_append]) (by
        intro p hp
        rcases List.mem_append.1 hp with h | h
        · exact Hps.out p h
        · rw [List.mem_singleton.1 h]; exact ⟨by omega, by rw [isSur_not]; omega⟩) (by rw [ByteArray.size_append]; show s.size + 4 ≤ maxLen; unfold maxLen; omega) w3).mono ?_
      rintro e w4 ⟨rfl, hb4⟩
      have hB := bey_snoc (ps := ps) (p := 128512) (by omega)
      have h12 := hb1.trans (hb2.mono hb1.size)
      have h13 := h12.trans (hb3.mono h12.size)
      have h14 := h13.trans (hb4.mono h13.size)
      go_wp2
      go_ret
      exact ⟨rfl, h14⟩

end Go.Proofs.Ytgfneibklomdjaa
