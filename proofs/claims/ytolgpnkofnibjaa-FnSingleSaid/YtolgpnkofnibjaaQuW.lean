/- The contract of 'internalQuote' (made by gen_qu.py). -/
import Derived.Test.YtolgpnkofnibjaaQuC
import Derived.Test.YtolgpnkofnibjaaDw
import Derived.Test.YtolgpnkofnibjaaDec
import Derived.Test.YtolgpnkofnibjaaApp
import Derived.Lib.AppendStr
import Derived.Lib.OthersKept
import Derived.Laws.DeepStrings4
import Derived.Lib.Strings
import Derived.Lib.IndexBytes
import Derived.WalkSmall
import Derived.BigCall
import Derived.Deep.RegionHeld3
import Derived.BigRegion
namespace Go.Proofs.Ytolgpnkofnibjaa
open Go.RowKit Stamp
set_option linter.unusedVariables false

def u8N (c : Nat) : Value := .int .u8 (c : Int)
theorem infoU8 : (Try.prog.info? 5).map (fun i => (i.zero, i.size, i.bytes)) = some (some (.int .u8 0), 1, 1) := by kernel_rfl
theorem own_iter {w : World} {base : Nat} {e : TypeId} {size n : Nat} {v : Value} {xs : List Value} (h : w.ownsRow base e size v n xs) {k : Nat} {s : ByteArray} {pos : Nat} (hk : w.heap[k]? = some (.stringIter s pos)) (pos' : Nat) :
    (w.iterAt k s pos').ownsRow base e size v n xs := by
  refine ⟨h.1, ?_⟩
  rcases h.2 with hn | ⟨g, cap, cur, hv, hbg, hg, rest⟩
  · exact .inl hn
  · have hkg : g ≠ k := by
      intro e1
      rw [e1, hk] at hg
      cases hg
    exact .inr ⟨g, cap, cur, hv, hbg, (Lib.iterAt_other w k g s pos' hkg).trans hg, rest⟩

/-- what hands back a slice of bytes -/
def QuPost (l : List Nat) (w : World) (e : Ending) (w' : World) : Prop :=
  ∃ A c, e = .returned (.slice A l.length c) ∧ l.length ≤ c ∧ c ≤ maxLen ∧ Holds w' w'.heap.size A (l.map u8N) ∧ Below w.heap.size w w'

theorem u8_cells (l : List UInt8) : (l.map fun b => Value.int .u8 (b.toNat : Int)) = (nums l).map u8N := by simp [nums, u8N]
theorem Holds.oneAt (w : World) (x : Value) (t : TypeId) {g : Nat} (hg : g = w.heap.size) : Holds (w.alloc (.cells #[x] t)) (g + 1) (some ⟨g, 0, none⟩) [x] := by subst hg; exact Holds.one w x t
theorem oneCell_u8 {l : List Nat} : ∀ u ∈ l.map u8N, u.oneCell' = true := by
  intro u hu
  obtain ⟨x, _, rfl⟩ := List.mem_map.1 hu
  rfl
theorem run_cells {s : ByteArray} {ps done run rest : List Nat} {k k2 : Nat} (ascii : Bool) (q : Nat) (hl : s.data.toList = encAll ps) (hsp : ps = done ++ run ++ rest) (hk : k = (encAll done).length) (hk2 : k2 = (encAll (done ++ run)).length) (hr : ∀ p ∈ run, cpB p ascii = true) :
    Lib.strCells (s.extract k k2) = (qAll ascii q run).map u8N := by
  have h1 : (s.extract k k2).data.toList = encAll run := by
    rw [Lib.extract_eq, hl, hsp, hk, hk2]
    simp only [encAll_append, List.append_assoc, List.length_append, List.drop_left, Nat.add_sub_cancel_left, List.take_left]
  rw [Lib.strCells, h1, u8_cells, qAll_run ascii q run hr]
/-- what the second loop keeps -/
def Two (s : ByteArray) (ps : List Nat) (ascii : Bool) (q : Nat) (k n : Nat) (done rest : List Nat) : Prop :=
  k = (encAll done).length ∧ n = (qAll ascii q done).length + 1 ∧ ps = done ++ rest ∧ s.data.toList = encAll ps ∧ ∀ p ∈ ps, Scalar p
theorem Two.bound {s : ByteArray} {ps : List Nat} {ascii : Bool} {q k n : Nat} {done rest : List Nat} (h : Two s ps ascii q k n done rest) : k + (encAll rest).length = s.size ∧ n ≤ 12 * s.size + 1 := by
  obtain ⟨h1, h2, h3, h4, _⟩ := h
  have e : s.data.toList.length = s.size := by simp
  rw [h4, h3, encAll_append, List.length_append] at e
  have a := qAll_len ascii q done
  have b := encAll_len done
  constructor <;> omega
theorem Two.next {s : ByteArray} {ps : List Nat} {ascii : Bool} {q k n : Nat} {done rest : List Nat} {p : Nat} (h : Two s ps ascii q k n done (p :: rest)) {m n' : Nat} (hm : m = (enc p).length) (hn : n' = n + (q1 ascii q p).length) : Two s ps ascii q (k + m) n' (done ++ [p]) rest := by
  obtain ⟨h1, h2, h3, h4, h5⟩ := h
  refine ⟨?_, ?_, by rw [h3]; simp, h4, h5⟩
  · rw [encAll_append, List.length_append, h1, hm]; simp [encAll]
  · rw [qAll_append, List.length_append, qAll_one, hn, h2]; omega
theorem Two.point {s : ByteArray} {ps : List Nat} {ascii : Bool} {q k n : Nat} {done rest : List Nat} {p : Nat} (h : Two s ps ascii q k n done (p :: rest)) : Stamp.point (s.extract k s.size).data.toList = some (p, (enc p).length) := by
  obtain ⟨h1, h2, h3, h4, h5⟩ := h
  rw [Lib.extract_to_end, h4, h3, h1, encAll_append, List.drop_left]
  exact point_enc p (h5 p (by rw [h3]; simp)).1 _
theorem Two.scalar {s : ByteArray} {ps : List Nat} {ascii : Bool} {q k n : Nat} {done rest : List Nat} {p : Nat} (h : Two s ps ascii q k n done (p :: rest)) : Scalar p := h.2.2.2.2 p (by rw [h.2.2.1]; simp)
theorem Two.cells {s : ByteArray} {ps : List Nat} {ascii : Bool} {q k n : Nat} {done rest : List Nat} {p : Nat} (h : Two s ps ascii q k n done (p :: rest)) (l : List Nat) (hl : l = q1 ascii q p) :
    (q :: qAll ascii q done).map u8N ++ l.map u8N = (q :: qAll ascii q (done ++ [p])).map u8N := by
  subst hl; rw [qAll_append, qAll_one]; simp
theorem Two.some {s : ByteArray} {ps : List Nat} {ascii : Bool} {q k n : Nat} {done rest : List Nat} (h : Two s ps ascii q k n done rest) (hk : k < s.size) : ∃ p r, rest = p :: r := by
  have := h.bound
  match rest, this with
  | [], hb => simp [encAll] at hb; omega
  | p :: r, _ => exact ⟨p, r, rfl⟩
theorem Two.none {s : ByteArray} {ps : List Nat} {ascii : Bool} {q k n : Nat} {done rest : List Nat} (h : Two s ps ascii q k n done rest) (hk : ¬ k < s.size) : rest = [] := by
  have := h.bound
  match rest, this with
  | [], _ => rfl
  | p :: r, hb =>
    have := (enc_len p).1
    simp [encAll] at hb; omega
theorem and15 (a : Nat) (h1 : a ≤ 1114111) : bits .and .i32 (a : Int) 15 = ((a % 16 : Nat) : Int) := by
  have hx : a &&& 15 < 2 ^ 31 := Nat.and_lt_two_pow _ (by omega)
  show IntKind.i32.wrap ((BitVec.ofInt 32 (a : Int) &&& BitVec.ofInt 32 ((15 : Nat) : Int)).toNat : Int) = _
  rw [BitVec.toNat_and, ofInt_i32 a (by omega), ofInt_i32 15 (by omega), show (15 : Nat) = 2 ^ 4 - 1 from rfl, Nat.and_two_pow_sub_one_eq_mod]
  simp [IntKind.wrap, IntKind.bits, IntKind.signed]
  omega
theorem hexs (d : Nat) (h : (d : Int) < 16) : ((⟨#[48, 49, 50, 51, 52, 53, 54, 55, 56, 57, 65, 66, 67, 68, 69, 70]⟩ : ByteArray)[d]'(by show d < 16; omega)).toNat = hexD d := by
  have : ∀ x : Fin 16, ((⟨#[48, 49, 50, 51, 52, 53, 54, 55, 56, 57, 65, 66, 67, 68, 69, 70]⟩ : ByteArray)[x.1]'(x.2)).toNat = hexD x.1 := by decide
  exact this ⟨d, by omega⟩
theorem Holds.row (w : World) (l : List Nat) (t : TypeId) : Holds (w.alloc (.cells (l.map u8N).toArray t)) (w.heap.size + 1) (some ⟨w.heap.size, 0, none⟩) (l.map u8N) := fun _ =>
  ⟨w.heap.size, 0, rfl, by omega, fun j u hu => cell_new w _ t w.heap.size (0 + j) u rfl (by rw [Nat.zero_add]; simpa using hu)⟩
theorem and1023 (a : Int) (h0 : 0 ≤ a) (h1 : a ≤ 1048575) : bits .and .i32 a 1023 = a % 1024 := by
  obtain ⟨n, rfl⟩ := Int.eq_ofNat_of_zero_le h0
  have hn : n ≤ 1048575 := by omega
  have hx : n &&& 1023 < 2 ^ 31 := Nat.and_lt_two_pow _ (by omega)
  show IntKind.i32.wrap ((BitVec.ofInt 32 (n : Int) &&& BitVec.ofInt 32 ((1023 : Nat) : Int)).toNat : Int) = _
  rw [BitVec.toNat_and, ofInt_i32 n (by omega), ofInt_i32 1023 (by omega), show (1023 : Nat) = 2 ^ 10 - 1 from rfl, Nat.and_two_pow_sub_one_eq_mod]
  simp [IntKind.wrap, IntKind.bits, IntKind.signed]
  omega
/-- what the inner loop keeps -/
def Three (s : ByteArray) (ps : List Nat) (ascii : Bool) (q : Nat) (k n k2 : Nat) (done run rest : List Nat) : Prop :=
  Two s ps ascii q k n done (run ++ rest) ∧ k2 = (encAll (done ++ run)).length ∧ ∀ p ∈ run, cpB p ascii = true
theorem Three.two {s : ByteArray} {ps : List Nat} {ascii : Bool} {q k n k2 : Nat} {done run rest : List Nat} (h : Three s ps ascii q k n k2 done run rest) :
    Two s ps ascii q k2 (n + (s.extract k k2).size) (done ++ run) rest := by
  obtain ⟨⟨h1, h2, h3, h4, h5⟩, h6, h7⟩ := h
  have hc := run_cells ascii q h4 (by rw [h3, List.append_assoc]) h1 h6 h7
  have hl := congrArg List.length hc
  rw [Lib.strCells_length, List.length_map] at hl
  exact ⟨h6, by rw [qAll_append, List.length_append, hl, h2]; omega, by rw [h3, List.append_assoc], h4, h5⟩
theorem Three.cells {s : ByteArray} {ps : List Nat} {ascii : Bool} {q k n k2 : Nat} {done run rest : List Nat} (h : Three s ps ascii q k n k2 done run rest) :
    (q :: qAll ascii q done).map u8N ++ Lib.strCells (s.extract k k2) = (q :: qAll ascii q (done ++ run)).map u8N := by
  obtain ⟨⟨h1, h2, h3, h4, h5⟩, h6, h7⟩ := h
  rw [run_cells ascii q h4 (by rw [h3, List.append_assoc]) h1 h6 h7, qAll_append]
  simp
theorem Three.start {s : ByteArray} {ps : List Nat} {ascii : Bool} {q k n m : Nat} {done rest : List Nat} {p : Nat} (h : Two s ps ascii q k n done (p :: rest)) (hm : m = (enc p).length) (hc : cpB p ascii = true) :
    Three s ps ascii q k n (k + m) done [p] rest :=
  ⟨h, by rw [encAll_append, List.length_append, ← h.1, hm]; simp [encAll], by intro x hx; rw [List.mem_singleton.1 hx]; exact hc⟩
theorem Three.more {s : ByteArray} {ps : List Nat} {ascii : Bool} {q k n k2 m : Nat} {done run rest : List Nat} {p : Nat} (h : Three s ps ascii q k n k2 done run (p :: rest)) (hm : m = (enc p).length) (hc : cpB p ascii = true) :
    Three s ps ascii q k n (k2 + m) done (run ++ [p]) rest := by
  obtain ⟨h1, h2, h3⟩ := h
  refine ⟨by rw [List.append_assoc]; exact h1, ?_, ?_⟩
  · rw [← List.append_assoc, encAll_append, List.length_append, ← h2, hm]; simp [encAll]
  · intro x hx
    rcases List.mem_append.1 hx with hx | hx
    · exact h3 x hx
    · rw [List.mem_singleton.1 hx]; exact hc
theorem enc_one {p : Nat} (h : p < 128) : (enc p).length = 1 := by
  unfold enc; rw [if_pos h]; rfl

set_option maxRecDepth 100000 in
set_option maxHeartbeats 40000000 in
theorem iq (s : ByteArray) (ps : List Nat) (hl : s.data.toList = encAll ps) (hps : ∀ p ∈ ps, Scalar p) (hs : s.size ≤ 8589934592) (ascii : Bool) (q : Nat) (hq : q < 256) (w : World) :
    Calls Try.prog 33 #[.string s, .bool ascii, .int .u8 (q : Int)] w (QuPost (Stamp.quoted ascii q ps) w) := by
  have Hl := Lib.hid hl
  have Hps := Lib.hid hps
  obtain ⟨i0, hi0, hz0, hz1, hz2⟩ := info_parts infoU8
  clear hl hps
  go_enter Try.func33, Try.ntmps33
  go_wp2
  go_loopw [7] (fun v wr => ∃ (pos e : Nat) (done rest : List Nat), v = .int .i64 (e : Int) ∧ wr.heap[w.heap.size]? = some (.stringIter s pos) ∧ Below w.heap.size w wr ∧ Hid (ps = done ++ rest) ∧ Hid (s.data.toList.drop pos = encAll rest) ∧ done.length ≤ pos ∧ pos ≤ s.size ∧ 2 ≤ e ∧ e ≤ 2 + 12 * pos)
    (fun _ wr => s.size - wr.iterPos w.heap.size)
  case atStart =>
    refine ⟨0, 2, [], ps, rfl, World.iter_heap w s 0, (Below.refl _ w).alloc (Nat.le_refl _) _, Lib.hid rfl, Lib.hid Hl.out, by simp, by omega, by omega, by omega⟩
  case round =>
    obtain ⟨pos, e, done, rest, rfl, hit, hb, hsp, hr, hdl, hps, he1, he2⟩ := hrel
    by_cases hp : pos < s.size
    · have hnx : ∀ ty, (Instr.next (.pointer (some ⟨w.heap.size, 0, none⟩)) true ty).run Try.prog wr = _ := fun ty => Lib.run_next_any_at wr w.heap.size s pos ty hit hp
      have hrn : rest ≠ [] := by
        intro e
        have := hr.out
        rw [e] at this
        have h2 := congrArg List.length this
        rw [List.length_drop] at h2
        have e : s.data.toList.length = s.size := by simp
        simp [encAll] at h2
        omega
      match rest, hrn, hsp, hr with
      | p :: rest, _, hsp, hr =>
        have hsc : Scalar p := Hps.out p (by rw [hsp.out]; simp)
        have hdec := decode_enc s pos p (encAll rest) hsc (by rw [hr.out]; rfl)
        rw [hdec] at hnx
        have hp1 := hsc.1
        have hit2 := Lib.iterAt_heap wr w.heap.size s pos (pos + (enc p).length) hit
        have hb2 := Lib.below_iterAt hb (k := w.heap.size) (by omega) s (pos + (enc p).length)
        have hr2 := Lib.hid (show s.data.toList.drop (pos + (enc p).length) = encAll rest by rw [← List.drop_drop, hr.out]; exact List.drop_left)
        have hfin : pos + (enc p).length ≤ s.size := by
          have h2 := congrArg List.length hr.out
          rw [List.length_drop] at h2
          have e : s.data.toList.length = s.size := by simp
          simp only [encAll, List.length_append] at h2
          omega
        have hel := (enc_len p).1
        have Hit := Lib.hid hit
        have Hsc := Lib.hid hsc
        clear hdec hit hb hr hsc
        generalize hw1 : wr.iterAt w.heap.size s (pos + (enc p).length) = w1 at *
        have Hw1 := Lib.hid hw1
        clear hw1
        have fin1 : ∀ (k : Nat), k ≤ 12 → ∃ (pos' e' : Nat) (done' rest' : List Nat), Value.int .i64 ((e : Int) + (k : Int)) = .int .i64 (e' : Int) ∧ w1.heap[w.heap.size]? = some (.stringIter s pos') ∧ Below w.heap.size w w1 ∧ Hid (ps = done' ++ rest') ∧ Hid (s.data.toList.drop pos' = encAll rest') ∧ done'.length ≤ pos' ∧ pos' ≤ s.size ∧ 2 ≤ e' ∧ e' ≤ 2 + 12 * pos' := fun k hk =>
          ⟨pos + (enc p).length, e + k, done ++ [p], rest, by simp, hit2, hb2, Lib.hid (by rw [hsp.out]; simp), hr2, by simp; omega, hfin, by omega, by omega⟩
        have fin2 : s.size - w1.iterPos w.heap.size < s.size - wr.iterPos w.heap.size := by
          simp only [World.iterPos, hit2, Hit.out]; omega
        have Fin := Lib.hid (And.intro fin1 fin2)
        clear fin1 fin2

        cases hc : cpB p ascii with
        | true =>
          go_wp2_with fail
          refine (cp34 p hp1 ascii w1).mono ?_
          rintro e1 w2 ⟨rfl, rfl⟩
          rw [hc]
          go_wp2_with fail
          refine (len35 p Hsc.out w2).mono ?_
          rintro e1 w3 ⟨rfl, k, hk, rfl⟩
          go_wp2
          exact ⟨Fin.out.1 k (by omega), Fin.out.2⟩
        | false =>
          have n39 : ((p : Int) == 39) = false := by
            have : p ≠ 39 := by rintro rfl; revert hc; cases ascii <;> decide
            simp; omega
          by_cases v8 : p = 8
          · have n8 : ((p : Int) == 8) = true := by simp; omega
            clear v8
            go_wp2_with fail
            refine (cp34 p hp1 ascii w1).mono ?_
            rintro e1 w2 ⟨rfl, rfl⟩
            rw [hc]
            go_wp2
            exact ⟨Fin.out.1 2 (by omega), Fin.out.2⟩
          have n8 : ((p : Int) == 8) = false := by simp; omega
          clear v8
          by_cases v12 : p = 12
          · have n12 : ((p : Int) == 12) = true := by simp; omega
            clear v12
            go_wp2_with fail
            refine (cp34 p hp1 ascii w1).mono ?_
            rintro e1 w2 ⟨rfl, rfl⟩
            rw [hc]
            go_wp2
            exact ⟨Fin.out.1 2 (by omega), Fin.out.2⟩
          have n12 : ((p : Int) == 12) = false := by simp; omega
          clear v12
          by_cases v10 : p = 10
          · have n10 : ((p : Int) == 10) = true := by simp; omega
            clear v10
            go_wp2_with fail
            refine (cp34 p hp1 ascii w1).mono ?_
            rintro e1 w2 ⟨rfl, rfl⟩
            rw [hc]
            go_wp2
            exact ⟨Fin.out.1 2 (by omega), Fin.out.2⟩
          have n10 : ((p : Int) == 10) = false := by simp; omega
          clear v10
          by_cases v13 : p = 13
          · have n13 : ((p : Int) == 13) = true := by simp; omega
            clear v13
            go_wp2_with fail
            refine (cp34 p hp1 ascii w1).mono ?_
            rintro e1 w2 ⟨rfl, rfl⟩
            rw [hc]
            go_wp2
            exact ⟨Fin.out.1 2 (by omega), Fin.out.2⟩
          have n13 : ((p : Int) == 13) = false := by simp; omega
          clear v13
          by_cases v9 : p = 9
          · have n9 : ((p : Int) == 9) = true := by simp; omega
            clear v9
            go_wp2_with fail
            refine (cp34 p hp1 ascii w1).mono ?_
            rintro e1 w2 ⟨rfl, rfl⟩
            rw [hc]
            go_wp2
            exact ⟨Fin.out.1 2 (by omega), Fin.out.2⟩
          have n9 : ((p : Int) == 9) = false := by simp; omega
          clear v9
          by_cases v92 : p = 92
          · have n92 : ((p : Int) == 92) = true := by simp; omega
            clear v92
            go_wp2_with fail
            refine (cp34 p hp1 ascii w1).mono ?_
            rintro e1 w2 ⟨rfl, rfl⟩
            rw [hc]
            go_wp2
            exact ⟨Fin.out.1 2 (by omega), Fin.out.2⟩
          have n92 : ((p : Int) == 92) = false := by simp; omega
          clear v92
          by_cases v34 : p = 34
          · have n34 : ((p : Int) == 34) = true := by simp; omega
            clear v34
            by_cases u34 : q = 34
            · have m34 : ((q : Int) == 34) = true := by simp; omega
              clear u34
              go_wp2_with fail
              refine (cp34 p hp1 ascii w1).mono ?_
              rintro e1 w2 ⟨rfl, rfl⟩
              rw [hc]
              go_wp2
              exact ⟨Fin.out.1 2 (by omega), Fin.out.2⟩
            · have m34 : ((q : Int) == 34) = false := by simp; omega
              clear u34
              go_wp2_with fail
              refine (cp34 p hp1 ascii w1).mono ?_
              rintro e1 w2 ⟨rfl, rfl⟩
              rw [hc]
              go_wp2
              exact ⟨Fin.out.1 0 (by omega), Fin.out.2⟩
          have n34 : ((p : Int) == 34) = false := by simp; omega
          clear v34
          by_cases v6 : p ≤ 65535
          · have n6 : (p : Int) ≤ 65535 := by omega
            go_wp2_with fail
            refine (cp34 p hp1 ascii w1).mono ?_
            rintro e1 w2 ⟨rfl, rfl⟩
            rw [hc]
            go_wp2
            exact ⟨Fin.out.1 6 (by omega), Fin.out.2⟩
          · have n6 : decide ((p : Int) ≤ 65535) = false := by simp; omega
            go_wp2_with fail
            refine (cp34 p hp1 ascii w1).mono ?_
            rintro e1 w2 ⟨rfl, rfl⟩
            rw [hc]
            go_wp2
            exact ⟨Fin.out.1 12 (by omega), Fin.out.2⟩
    · have hnx : ∀ ty, (Instr.next (.pointer (some ⟨w.heap.size, 0, none⟩)) true ty).run Try.prog wr = _ := fun ty => Lib.run_next_end_at wr w.heap.size s pos ty hit hp
      clear hr hsp
      have Hnx := Lib.hid hnx
      have hmk := run_make (P := Try.prog) wr 47 5 i0 (.int .u8 0) Try.underlying47 hi0 hz0 .i64 .i64 0 (e : Int) (by omega) (by omega) (by rw [hz2]; omega) (by omega)
      simp only [hz1, Int.toNat_natCast, Nat.mul_one] at hmk
      have hown0 := World.ownsRow_made (base := w.heap.size) (e := 5) (size := 1) wr (madeCells #[Value.int .u8 0] e) e hb.size (by unfold maxLen; omega) (by simp [size_madeCells])
      have hb0 := hb.alloc hb.size (.cells (madeCells #[Value.int .u8 0] e) 5)
      have hbs := hb.size
      have Hmk := Lib.hid hmk
      clear hit hb Hnx hdl
      go_wp2_with (at_builtin
                   refine wpList_append_holds _ rfl (.tmp 62) (.tmp 64) _ rfl w.heap.size 5 i0 _ 1 1 Try.underlying47 hi0 hz0 hz1 hz2 rfl (by omega) _ 0 [] rfl (hown0.alloc _) (wr.heap.size + 1 + 1) _ 1 1 [u8N q] rfl rfl (Holds.oneAt _ _ _ (by simp)) (oneCell_u8 (l := [q])) (by simp only [maxLen]; omega) (by omega) (by simp; omega) ?_
                   intro v1 w4 hown4 hg4 hat4)
      have hb4 := Below.grown (hb0.alloc (by simp; omega) (.cells #[u8N q] 5)) hg4 (by simp; omega) (own_row_ge hown0)
      have HT : Hid (Two s ps ascii q 0 1 [] ps) := Lib.hid ⟨rfl, rfl, rfl, Hl.out, Hps.out⟩
      clear hmk Hmk hg4 hat4 hown0 hb0 hnx hps he1 he2 hp hbs
      generalize hW4 : w4 = W4 at *
      clear hW4 Hl Hps
      go_loopw [10, 11] (fun v vi wr => ∃ (k n : Nat) (done rest : List Nat), vi = .int .i64 (k : Int) ∧ k ≤ s.size ∧ Hid (Two s ps ascii q k n done rest) ∧ wr.ownsRow w.heap.size 5 1 v n ((q :: qAll ascii q done).map u8N) ∧ Below w.heap.size w wr)
        (fun _ vi _ => s.size - (intOf vi).toNat)
      case atStart => exact ⟨0, 1, [], ps, rfl, by omega, HT, hown4, hb4⟩
      case round =>
        clear HT hown4 hb4
        obtain ⟨k, n, done, rest, rfl, hk, HT, hown, hb⟩ := hrel
        by_cases hk2 : k < s.size
        · obtain ⟨p, rest, rfl⟩ := HT.out.some hk2
          have hk2' : (k : Int) < (s.size : Int) := by omega
          obtain ⟨m, hm⟩ : ∃ m, m = (enc p).length := ⟨_, rfl⟩
          have Hm := Lib.hid hm
          have hm1 : 1 ≤ m ∧ m ≤ 4 := by have := enc_len p; omega
          have hkm : k + m ≤ s.size := by have := HT.out.bound.1; simp only [encAll, List.length_append] at this; omega
          have hn12 := HT.out.bound.2
          have hp1 := HT.out.scalar.1
          have Hpt := Lib.hid (show Stamp.point (s.extract k s.size).data.toList = some (p, m) by rw [hm]; exact HT.out.point)
          have hbs := hb.size
          have hex : (s.extract k s.size).size ≤ maxLen := by rw [ByteArray.size_extract]; unfold maxLen; omega
          have Hex := Lib.hid hex
          clear hm hex
          go_wp2_with fail
          refine (Dw_calls (s.extract k s.size) wr Hex.out).mono ?_
          rintro e1 w1 ⟨rfl, hdw⟩
          have hdw2 : e1 = .returned (.tuple #[.int .i32 (p : Int), .int .i64 (m : Int)]) := by
            rcases hdw with ⟨p', n', h1, h2⟩ | ⟨h1, _⟩
            · rw [Hpt.out] at h1; injection h1 with h1; injection h1 with h1 h3; rw [h2, h1, h3]
            · rw [Hpt.out] at h1; cases h1
          clear hdw
          subst hdw2
          go_wp2_with fail
          refine (cp34 p hp1 ascii w1).mono ?_
          rintro e1 w2 ⟨rfl, rfl⟩
          cases hc : cpB p ascii with
          | true =>
            as_aux_lemma =>
              have H30 := Lib.hid (Three.start HT.out Hm.out hc)
              have Hc := Lib.hid hc
              clear hc
              go_wp2
              go_loopw [11] (fun vi wr3 => ∃ (k2 : Nat) (run rest2 : List Nat), vi = .int .i64 (k2 : Int) ∧ k + 1 ≤ k2 ∧ k2 ≤ s.size ∧ Hid (Three s ps ascii q k n k2 done run rest2) ∧ wr3 = w2)
                (fun vi _ => s.size - (intOf vi).toNat)
              case atStart => exact ⟨k + m, [p], rest, by simp, by omega, hkm, H30, rfl⟩
              case round =>
                clear H30 Hc
                obtain ⟨k2, run, rest2, rfl, hk1, hk3, H3, rfl⟩ := hrel
                by_cases hk4 : k2 < s.size
                · have hk4' : (k2 : Int) < (s.size : Int) := by omega
                  have HT2 := Lib.hid H3.out.two
                  obtain ⟨p2, rest2, rfl⟩ := HT2.out.some hk4
                  obtain ⟨m2, hm2⟩ : ∃ m, m = (enc p2).length := ⟨_, rfl⟩
                  have Hm2 := Lib.hid hm2
                  have hm3 : 1 ≤ m2 ∧ m2 ≤ 4 := by have := enc_len p2; omega
                  have hkm2 : k2 + m2 ≤ s.size := by have := HT2.out.bound.1; simp only [encAll, List.length_append] at this; omega
                  have hp2 := HT2.out.scalar.1
                  have Hpt2 := Lib.hid (show Stamp.point (s.extract k2 s.size).data.toList = some (p2, m2) by rw [hm2]; exact HT2.out.point)
                  have Hex2 := Lib.hid (show (s.extract k2 s.size).size ≤ maxLen by rw [ByteArray.size_extract]; unfold maxLen; omega)
                  clear hm2
                  go_wp2_with fail
                  refine (Dw_calls (s.extract k2 s.size) _ Hex2.out).mono ?_
                  rintro e1 w1 ⟨rfl, hdw⟩
                  have hdw2 : e1 = .returned (.tuple #[.int .i32 (p2 : Int), .int .i64 (m2 : Int)]) := by
                    rcases hdw with ⟨p', n', h1, h2⟩ | ⟨h1, _⟩
                    · rw [Hpt2.out] at h1; injection h1 with h1; injection h1 with h1 h3; rw [h2, h1, h3]
                    · rw [Hpt2.out] at h1; cases h1
                  clear hdw
                  subst hdw2
                  go_wp2_with fail
                  refine (cp34 p2 hp2 ascii _).mono ?_
                  rintro e1 w2 ⟨rfl, rfl⟩
                  cases hc : cpB p2 ascii with
                  | true =>
                    have H31 := Lib.hid (H3.out.more Hm2.out hc)
                    clear hc
                    go_wp2
                    exact ⟨⟨k2 + m2, run ++ [p2], rest2, by simp, by omega, hkm2, H31, by first | rfl | trivial⟩, by simp only [intOf]; omega⟩
                  | false =>
                    have Hc := Lib.hid hc
                    clear hc HT2
                    obtain ⟨rest2, hr2⟩ : ∃ r, r = p2 :: rest2 := ⟨_, rfl⟩
                    rw [← hr2] at H3
                    clear hr2
                    have HT3 := Lib.hid H3.out.two
                    have HC3 := Lib.hid H3.out.cells
                    have hsz : (s.extract k k2).size = k2 - k := by rw [ByteArray.size_extract]; omega
                    have Hsz := Lib.hid hsz
                    clear hsz
                    have hsl : ∀ W, (Instr.slice 9 (Value.string s) (some (Value.int IntKind.i64 (k : Int))) (some (Value.int IntKind.i64 (k2 : Int))) none).run Try.prog W = .ok (.string (s.extract k k2)) W := fun W => by
                      rw [run_slice_string_if W 9 s .i64 .i64 k k2 Try.underlying9, if_pos ⟨by omega, by omega⟩, if_pos ⟨by omega, by omega⟩]; rfl
                    go_wp2_with (at_builtin
                                 refine Lib.wpList_append_own_string _ rfl (.tmp 100) (.tmp 104) 47 9 rfl w.heap.size 5 i0 Try.underlying47 Try.underlying9 hi0 hz0 hz1 hz2 _ n _ rfl hown (s.extract k k2) rfl (by rw [Hsz.out]; unfold maxLen; omega) (by rw [Hsz.out]; omega) hbs ?_
                                 intro v1 w4 hown4 hg4 hat4)
                    exact ⟨⟨k2, n + (s.extract k k2).size, done ++ run, rest2, rfl, hk3, HT3, by rw [← HC3.out]; exact hown4, Below.grown hb hg4 hbs (own_row_ge hown)⟩, by simp only [intOf]; omega⟩
                · have hk4' : ¬ (k2 : Int) < (s.size : Int) := by omega
                  have HT3 := Lib.hid H3.out.two
                  have HC3 := Lib.hid H3.out.cells
                  have hsz : (s.extract k k2).size = k2 - k := by rw [ByteArray.size_extract]; omega
                  have Hsz := Lib.hid hsz
                  clear hsz
                  have hsl : ∀ W, (Instr.slice 9 (Value.string s) (some (Value.int IntKind.i64 (k : Int))) (some (Value.int IntKind.i64 (k2 : Int))) none).run Try.prog W = .ok (.string (s.extract k k2)) W := fun W => by
                    rw [run_slice_string_if W 9 s .i64 .i64 k k2 Try.underlying9, if_pos ⟨by omega, by omega⟩, if_pos ⟨by omega, by omega⟩]; rfl
                  go_wp2_with (at_builtin
                               refine Lib.wpList_append_own_string _ rfl (.tmp 100) (.tmp 104) 47 9 rfl w.heap.size 5 i0 Try.underlying47 Try.underlying9 hi0 hz0 hz1 hz2 _ n _ rfl hown (s.extract k k2) rfl (by rw [Hsz.out]; unfold maxLen; omega) (by rw [Hsz.out]; omega) hbs ?_
                               intro v1 w4 hown4 hg4 hat4)
                  exact ⟨⟨k2, n + (s.extract k k2).size, done ++ run, rest2, rfl, hk3, HT3, by rw [← HC3.out]; exact hown4, Below.grown hb hg4 hbs (own_row_ge hown)⟩, by simp only [intOf]; omega⟩
          | false => 
            have n39 : ((p : Int) == 39) = false := by
              have : p ≠ 39 := by rintro rfl; revert hc; cases ascii <;> decide
              simp; omega
            have fin : ∀ (l : List Nat) (m' n' : Nat) (v' : Value) (w4 : World), l = q1 ascii q p → m' = m → n' = n + l.length → w4.ownsRow w.heap.size 5 1 v' n' ((q :: qAll ascii q done).map u8N ++ l.map u8N) → Below w.heap.size w w4 →
                ∃ (k' n' : Nat) (done' rest' : List Nat), Value.int .i64 ((k : Int) + (m' : Int)) = .int .i64 (k' : Int) ∧ k' ≤ s.size ∧ Hid (Two s ps ascii q k' n' done' rest') ∧ w4.ownsRow w.heap.size 5 1 v' n' ((q :: qAll ascii q done').map u8N) ∧ Below w.heap.size w w4 := by
              intro l m' n' v' w4 hl hm' hn' ho hbb
              subst hm' hn'
              refine ⟨k + m', n + l.length, done ++ [p], rest, by simp, hkm, Lib.hid (HT.out.next Hm.out (by rw [hl])), ?_, hbb⟩
              rw [← HT.out.cells l hl]; exact ho
            have Fin := Lib.hid fin
            clear fin
            have Hc := Lib.hid hc
            by_cases v8 : p = 8
            · have n8 : ((p : Int) == 8) = true := by simp; omega
              have HQ := Lib.hid (show q1 ascii q p = [92, 98] by rw [q1, hc, v8]; rfl)
              have H1 := Lib.hid (show m = 1 by rw [Hm.out]; exact enc_one (by omega))
              clear v8 hc
              as_aux_lemma =>
                go_wp2_with (at_builtin
                             refine Lib.wpList_append_own_string w2 rfl (.tmp 171) (.const (.string ⟨#[92, 98]⟩)) 47 9 rfl w.heap.size 5 i0 Try.underlying47 Try.underlying9 hi0 hz0 hz1 hz2 _ n _ rfl hown ⟨#[92, 98]⟩ rfl (by show n + 2 ≤ _; unfold maxLen; omega) (by show n + 2 ≤ _; omega) hbs ?_
                             intro v1 w4 hown4 hg4 hat4)
                exact ⟨Fin.out [92, 98] 1 (n + 2) v1 w4 (HQ.out.symm) (H1.out.symm) rfl hown4 (Below.grown hb hg4 hbs (own_row_ge hown)), by simp only [intOf]; omega⟩
            have n8 : ((p : Int) == 8) = false := by simp; omega
            have h8 := Lib.hid v8
            clear v8
            by_cases v12 : p = 12
            · have n12 : ((p : Int) == 12) = true := by simp; omega
              have HQ := Lib.hid (show q1 ascii q p = [92, 102] by rw [q1, hc, v12]; rfl)
              have H1 := Lib.hid (show m = 1 by rw [Hm.out]; exact enc_one (by omega))
              clear v12 hc
              as_aux_lemma =>
                go_wp2_with (at_builtin
                             refine Lib.wpList_append_own_string w2 rfl (.tmp 177) (.const (.string ⟨#[92, 102]⟩)) 47 9 rfl w.heap.size 5 i0 Try.underlying47 Try.underlying9 hi0 hz0 hz1 hz2 _ n _ rfl hown ⟨#[92, 102]⟩ rfl (by show n + 2 ≤ _; unfold maxLen; omega) (by show n + 2 ≤ _; omega) hbs ?_
                             intro v1 w4 hown4 hg4 hat4)
                exact ⟨Fin.out [92, 102] 1 (n + 2) v1 w4 (HQ.out.symm) (H1.out.symm) rfl hown4 (Below.grown hb hg4 hbs (own_row_ge hown)), by simp only [intOf]; omega⟩
            have n12 : ((p : Int) == 12) = false := by simp; omega
            have h12 := Lib.hid v12
            clear v12
            by_cases v10 : p = 10
            · have n10 : ((p : Int) == 10) = true := by simp; omega
              have HQ := Lib.hid (show q1 ascii q p = [92, 110] by rw [q1, hc, v10]; rfl)
              have H1 := Lib.hid (show m = 1 by rw [Hm.out]; exact enc_one (by omega))
              clear v10 hc
              as_aux_lemma =>
                go_wp2_with (at_builtin
                             refine Lib.wpList_append_own_string w2 rfl (.tmp 183) (.const (.string ⟨#[92, 110]⟩)) 47 9 rfl w.heap.size 5 i0 Try.underlying47 Try.underlying9 hi0 hz0 hz1 hz2 _ n _ rfl hown ⟨#[92, 110]⟩ rfl (by show n + 2 ≤ _; unfold maxLen; omega) (by show n + 2 ≤ _; omega) hbs ?_
                             intro v1 w4 hown4 hg4 hat4)
                exact ⟨Fin.out [92, 110] 1 (n + 2) v1 w4 (HQ.out.symm) (H1.out.symm) rfl hown4 (Below.grown hb hg4 hbs (own_row_ge hown)), by simp only [intOf]; omega⟩
            have n10 : ((p : Int) == 10) = false := by simp; omega
            have h10 := Lib.hid v10
            clear v10
            by_cases v13 : p = 13
            · have n13 : ((p : Int) == 13) = true := by simp; omega
              have HQ := Lib.hid (show q1 ascii q p = [92, 114] by rw [q1, hc, v13]; rfl)
              have H1 := Lib.hid (show m = 1 by rw [Hm.out]; exact enc_one (by omega))
              clear v13 hc
              as_aux_lemma =>
                go_wp2_with (at_builtin
                             refine Lib.wpList_append_own_string w2 rfl (.tmp 189) (.const (.string ⟨#[92, 114]⟩)) 47 9 rfl w.heap.size 5 i0 Try.underlying47 Try.underlying9 hi0 hz0 hz1 hz2 _ n _ rfl hown ⟨#[92, 114]⟩ rfl (by show n + 2 ≤ _; unfold maxLen; omega) (by show n + 2 ≤ _; omega) hbs ?_
                             intro v1 w4 hown4 hg4 hat4)
                exact ⟨Fin.out [92, 114] 1 (n + 2) v1 w4 (HQ.out.symm) (H1.out.symm) rfl hown4 (Below.grown hb hg4 hbs (own_row_ge hown)), by simp only [intOf]; omega⟩
            have n13 : ((p : Int) == 13) = false := by simp; omega
            have h13 := Lib.hid v13
            clear v13
            by_cases v9 : p = 9
            · have n9 : ((p : Int) == 9) = true := by simp; omega
              have HQ := Lib.hid (show q1 ascii q p = [92, 116] by rw [q1, hc, v9]; rfl)
              have H1 := Lib.hid (show m = 1 by rw [Hm.out]; exact enc_one (by omega))
              clear v9 hc
              as_aux_lemma =>
                go_wp2_with (at_builtin
                             refine Lib.wpList_append_own_string w2 rfl (.tmp 195) (.const (.string ⟨#[92, 116]⟩)) 47 9 rfl w.heap.size 5 i0 Try.underlying47 Try.underlying9 hi0 hz0 hz1 hz2 _ n _ rfl hown ⟨#[92, 116]⟩ rfl (by show n + 2 ≤ _; unfold maxLen; omega) (by show n + 2 ≤ _; omega) hbs ?_
                             intro v1 w4 hown4 hg4 hat4)
                exact ⟨Fin.out [92, 116] 1 (n + 2) v1 w4 (HQ.out.symm) (H1.out.symm) rfl hown4 (Below.grown hb hg4 hbs (own_row_ge hown)), by simp only [intOf]; omega⟩
            have n9 : ((p : Int) == 9) = false := by simp; omega
            have h9 := Lib.hid v9
            clear v9
            by_cases v92 : p = 92
            · have n92 : ((p : Int) == 92) = true := by simp; omega
              have HQ := Lib.hid (show q1 ascii q p = [92, 92] by rw [q1, hc, v92]; rfl)
              have H1 := Lib.hid (show m = 1 by rw [Hm.out]; exact enc_one (by omega))
              clear v92 hc
              as_aux_lemma =>
                go_wp2_with (at_builtin
                             refine Lib.wpList_append_own_string w2 rfl (.tmp 201) (.const (.string ⟨#[92, 92]⟩)) 47 9 rfl w.heap.size 5 i0 Try.underlying47 Try.underlying9 hi0 hz0 hz1 hz2 _ n _ rfl hown ⟨#[92, 92]⟩ rfl (by show n + 2 ≤ _; unfold maxLen; omega) (by show n + 2 ≤ _; omega) hbs ?_
                             intro v1 w4 hown4 hg4 hat4)
                exact ⟨Fin.out [92, 92] 1 (n + 2) v1 w4 (HQ.out.symm) (H1.out.symm) rfl hown4 (Below.grown hb hg4 hbs (own_row_ge hown)), by simp only [intOf]; omega⟩
            have n92 : ((p : Int) == 92) = false := by simp; omega
            have h92 := Lib.hid v92
            clear v92
            by_cases v34 : p = 34
            · have n34 : ((p : Int) == 34) = true := by simp; omega
              have H1 := Lib.hid (show m = 1 by rw [Hm.out]; exact enc_one (by omega))
              by_cases u34 : q = 34
              · have m34 : ((q : Int) == 34) = true := by simp; omega
                have HQ := Lib.hid (show q1 ascii q p = [92, 34] by rw [q1, hc, v34, u34]; rfl)
                clear u34 v34 hc
                as_aux_lemma =>
                  go_wp2_with (at_builtin
                               refine Lib.wpList_append_own_string w2 rfl (.tmp 209) (.const (.string ⟨#[92, 34]⟩)) 47 9 rfl w.heap.size 5 i0 Try.underlying47 Try.underlying9 hi0 hz0 hz1 hz2 _ n _ rfl hown ⟨#[92, 34]⟩ rfl (by show n + 2 ≤ _; unfold maxLen; omega) (by show n + 2 ≤ _; omega) hbs ?_
                               intro v1 w4 hown4 hg4 hat4)
                  exact ⟨Fin.out [92, 34] 1 (n + 2) v1 w4 (HQ.out.symm) (H1.out.symm) rfl hown4 (Below.grown hb hg4 hbs (own_row_ge hown)), by simp only [intOf]; omega⟩
              · have m34 : ((q : Int) == 34) = false := by simp; omega
                have HQ := Lib.hid (show q1 ascii q p = [34] by rw [q1, hc, v34]; simp [esc, u34])
                clear u34 v34 hc
                as_aux_lemma =>
                  go_wp2_with (at_builtin
                               refine wpList_append_holds _ rfl (.tmp 211) (.tmp 212) _ rfl w.heap.size 5 i0 _ 1 1 Try.underlying47 hi0 hz0 hz1 hz2 rfl (by omega) _ n _ rfl (hown.alloc _) (w2.heap.size + 1) _ 1 1 [u8N 34] rfl rfl (Holds.one _ _ _) (oneCell_u8 (l := [34])) (by simp only [maxLen]; omega) (by omega) (by simp; omega) ?_
                               intro v1 w4 hown4 hg4 hat4)
                  exact ⟨Fin.out [34] 1 (n + 1) v1 w4 (HQ.out.symm) (H1.out.symm) rfl hown4 (Below.grown (hb.alloc hbs (.cells #[u8N 34] 5)) hg4 (by simp; omega) (own_row_ge hown)), by simp only [intOf]; omega⟩
            have n34 : ((p : Int) == 34) = false := by simp; omega
            by_cases v6 : p ≤ 65535
            · have n6 : (p : Int) ≤ 65535 := by omega
              have HQ := Lib.hid (show q1 ascii q p = hex4 p by rw [q1, hc]; simp [esc, h8.out, h12.out, h10.out, h13.out, h9.out, h92.out, v34, v6])
              clear v34 v6 hc
              obtain ⟨d0, d1, d2, d3, e0, e1, e2, e3, l0, l1, l2, l3, HD⟩ : ∃ d0 d1 d2 d3 : Nat, (p : Int) / 4096 = (d0 : Int) ∧ bits .and .i32 ((p : Int) / 256) 15 = (d1 : Int) ∧ bits .and .i32 ((p : Int) / 16) 15 = (d2 : Int) ∧ bits .and .i32 (p : Int) 15 = (d3 : Int) ∧ (d0 : Int) < 16 ∧ (d1 : Int) < 16 ∧ (d2 : Int) < 16 ∧ (d3 : Int) < 16 ∧ Hid (d0 = p / 4096 ∧ d1 = p / 256 % 16 ∧ d2 = p / 16 % 16 ∧ d3 = p % 16) :=
                ⟨p / 4096, p / 256 % 16, p / 16 % 16, p % 16, by omega, by have := and15 (p / 256) (by omega); exact this, by have := and15 (p / 16) (by omega); exact this, and15 p hp1, by omega, by omega, by omega, by omega, Lib.hid ⟨rfl, rfl, rfl, rfl⟩⟩
              have x0 := hexs d0 l0
              have x1 := hexs d1 l1
              have x2 := hexs d2 l2
              have x3 := hexs d3 l3
              go_wp2_with fail
              have hown3 : ∀ o, (w2.drew.alloc o).ownsRow w.heap.size 5 1 u10 n ((q :: qAll ascii q done).map u8N) := fun o => World.ownsRow.alloc (w := w2.drew) hown o
              refine wp_region_any (by kernel_rfl) ?_
              change wpAny _ _ _ _ _ _ _ (World.drew _)
              refine wpAny_take (i := 0) (v := ?_) rfl (by kernel_rfl) (by kernel_rfl) (by kernel_rfl) (fun _ _ _ h => h) (Or.inl ⟨by rfl, ?_⟩) ?_
              rotate_left 1
              · intro w; go_simp; try with_reducible rfl
              refine wpAny_take (i := 1) (v := ?_) rfl (by kernel_rfl) (by kernel_rfl) (by kernel_rfl) (fun _ _ _ h => h) (Or.inl ⟨by rfl, ?_⟩) ?_
              rotate_left 1
              · intro w; go_simp; try with_reducible rfl
              refine wpAny_take (i := 2) (v := ?_) rfl (by kernel_rfl) (by kernel_rfl) (by kernel_rfl) (fun _ _ _ h => h) (Or.inl ⟨by rfl, ?_⟩) ?_
              rotate_left 1
              · intro w; go_simp; try with_reducible rfl
              refine wpAny_take (i := 3) (v := ?_) rfl (by kernel_rfl) (by kernel_rfl) (by kernel_rfl) (fun _ _ _ h => h) (Or.inl ⟨by rfl, ?_⟩) ?_
              rotate_left 1
              · intro w; go_simp; try with_reducible rfl
              refine wpAny_take (i := 4) (v := ?_) rfl (by kernel_rfl) (by kernel_rfl) (by kernel_rfl) (fun _ _ _ h => h) (Or.inl ⟨by rfl, ?_⟩) ?_
              rotate_left 1
              · intro w; go_simp; try with_reducible rfl
              refine wpAny_take (i := 5) (v := ?_) rfl (by kernel_rfl) (by kernel_rfl) (by kernel_rfl) (fun _ _ _ h => h) (Or.inl ⟨by rfl, ?_⟩) ?_
              rotate_left 1
              · intro w; go_simp; try with_reducible rfl
              refine wpAny_take (i := 6) (v := ?_) rfl (by kernel_rfl) (by kernel_rfl) (by kernel_rfl) (fun _ _ _ h => h) (Or.inl ⟨by rfl, ?_⟩) ?_
              rotate_left 1
              · intro w; go_simp; try with_reducible rfl
              refine wpAny_take (i := 7) (v := ?_) rfl (by kernel_rfl) (by kernel_rfl) (by kernel_rfl) (fun _ _ _ h => h) (Or.inl ⟨by rfl, ?_⟩) ?_
              rotate_left 1
              · intro w; go_simp; try with_reducible rfl
              refine wpAny_take (i := 8) (v := ?_) rfl (by kernel_rfl) (by kernel_rfl) (by kernel_rfl) (fun _ _ _ h => h) (Or.inl ⟨by rfl, ?_⟩) ?_
              rotate_left 1
              · intro w; go_simp; try with_reducible rfl
              refine wpAny_take (i := 9) (v := ?_) rfl (by kernel_rfl) (by kernel_rfl) (by kernel_rfl) (fun _ _ _ h => h) (Or.inl ⟨by rfl, ?_⟩) ?_
              rotate_left 1
              · intro w; go_simp; try with_reducible rfl
              refine wpAny_take (i := 10) (v := ?_) rfl (by kernel_rfl) (by kernel_rfl) (by kernel_rfl) (fun _ _ _ h => h) (Or.inl ⟨by rfl, ?_⟩) ?_
              rotate_left 1
              · intro w; go_simp; try with_reducible rfl
              refine wpAny_take (i := 11) (v := ?_) rfl (by kernel_rfl) (by kernel_rfl) (by kernel_rfl) (fun _ _ _ h => h) (Or.inl ⟨by rfl, ?_⟩) ?_
              rotate_left 1
              · intro w; go_simp; try with_reducible rfl
              refine wpAny_take (i := 12) (v := ?_) rfl (by kernel_rfl) (by kernel_rfl) (by kernel_rfl) (fun _ _ _ h => h) (Or.inl ⟨by rfl, ?_⟩) ?_
              rotate_left 1
              · intro w; go_simp; try with_reducible rfl
              refine wpAny_take (i := 13) (v := ?_) rfl (by kernel_rfl) (by kernel_rfl) (by kernel_rfl) (fun _ _ _ h => h) (Or.inl ⟨by rfl, ?_⟩) ?_
              rotate_left 1
              · intro w; go_simp; try with_reducible rfl
              refine wpAny_take (i := 14) (v := ?_) rfl (by kernel_rfl) (by kernel_rfl) (by kernel_rfl) (fun _ _ _ h => h) (Or.inl ⟨by rfl, ?_⟩) ?_
              rotate_left 1
              · intro w; go_simp; try with_reducible rfl
              refine wpAny_ready (rs := [15]) (by kernel_rfl) (by simp) ?_
              refine AllReady.cons rfl (fun K hK => ?_) AllReady.nil
              go_simp
              refine hK _ _ ?_
              clear hK K
              refine wpAny_ready (rs := [16]) (by kernel_rfl) (by simp) ?_
              refine AllReady.cons rfl (fun K hK => ?_) AllReady.nil
              refine step_append_holds _ rfl (.tmp 112) (.tmp 127) _ rfl w.heap.size 5 i0 (.int .u8 0) 1 1 Try.underlying47 hi0 hz0 hz1 hz2 rfl Nat.one_pos u10 n ((q :: qAll ascii q done).map u8N) rfl (hown3 _) (w2.heap.size + 1) (some ⟨w2.heap.size, 0, none⟩) 6 6 ([92, 117, hexD d0, hexD d1, hexD d2, hexD d3].map u8N) rfl rfl (Holds.row _ _ _) oneCell_u8 (by simp only [maxLen]; omega) (by omega) (by simp; omega) ?_
              intro v1 w4 hown4 hg4 hat4
              refine hK _ _ ?_
              clear hK K
              refine wpAny_take (i := 17) (v := ?_) rfl (by kernel_rfl) (by kernel_rfl) (by kernel_rfl) (fun _ _ _ h => h) (Or.inl ⟨by rfl, ?_⟩) ?_
              rotate_left 1
              · intro w; go_simp; try with_reducible rfl
              refine wpAny_done (by kernel_rfl) ?_ _
              simp [Act.put]
              go_wp2
              exact ⟨Fin.out [92, 117, hexD d0, hexD d1, hexD d2, hexD d3] m (n + 6) v1 w4 (by rw [HQ.out, HD.out.1, HD.out.2.1, HD.out.2.2.1, HD.out.2.2.2]; rfl) rfl rfl hown4 (Below.grown ((below_drewN hb 1).alloc hbs (.cells ([92, 117, hexD d0, hexD d1, hexD d2, hexD d3].map u8N).toArray 5)) hg4 (by simp; omega) (own_row_ge hown)), by simp only [intOf]; omega⟩
            · have n6 : decide ((p : Int) ≤ 65535) = false := by simp; omega
              have HQ := Lib.hid (show q1 ascii q p = hex4 (55296 + (p - 65536) / 1024) ++ hex4 (56320 + (p - 65536) % 1024) by rw [q1, hc]; simp [esc, h8.out, h12.out, h10.out, h13.out, h9.out, h92.out, v34, v6])
              obtain ⟨x, y, hx, hy, hx2, hy2, HX⟩ : ∃ x y : Nat, (55296 : Int) + ((p : Int) - 65536) / 1024 = (x : Int) ∧ (56320 : Int) + ((p : Int) - 65536) % 1024 = (y : Int) ∧ x ≤ 56319 ∧ y ≤ 57343 ∧ Hid (x = 55296 + (p - 65536) / 1024 ∧ y = 56320 + (p - 65536) % 1024) :=
                ⟨55296 + (p - 65536) / 1024, 56320 + (p - 65536) % 1024, by omega, by omega, by omega, by omega, Lib.hid ⟨rfl, rfl⟩⟩
              have a1 := and1023 (((p : Int) - 65536) / 1024) (by omega) (by omega)
              have a2 := and1023 ((p : Int) - 65536) (by omega) (by omega)
              rw [Int.emod_eq_of_lt (show 0 ≤ ((p : Int) - 65536) / 1024 by omega) (by omega)] at a1
              obtain ⟨d0, d1, d2, d3, e0, e1, e2, e3, l0, l1, l2, l3, HD⟩ : ∃ d0 d1 d2 d3 : Nat, (x : Int) / 4096 = (d0 : Int) ∧ bits .and .i32 ((x : Int) / 256) 15 = (d1 : Int) ∧ bits .and .i32 ((x : Int) / 16) 15 = (d2 : Int) ∧ bits .and .i32 (x : Int) 15 = (d3 : Int) ∧ (d0 : Int) < 16 ∧ (d1 : Int) < 16 ∧ (d2 : Int) < 16 ∧ (d3 : Int) < 16 ∧ Hid (d0 = x / 4096 ∧ d1 = x / 256 % 16 ∧ d2 = x / 16 % 16 ∧ d3 = x % 16) :=
                ⟨x / 4096, x / 256 % 16, x / 16 % 16, x % 16, by omega, by have := and15 (x / 256) (by omega); exact this, by have := and15 (x / 16) (by omega); exact this, and15 x (by omega), by omega, by omega, by omega, by omega, Lib.hid ⟨rfl, rfl, rfl, rfl⟩⟩
              obtain ⟨f0, f1, f2, f3, g0, g1, g2, g3, k0, k1, k2, k3, HF⟩ : ∃ d0 d1 d2 d3 : Nat, (y : Int) / 4096 = (d0 : Int) ∧ bits .and .i32 ((y : Int) / 256) 15 = (d1 : Int) ∧ bits .and .i32 ((y : Int) / 16) 15 = (d2 : Int) ∧ bits .and .i32 (y : Int) 15 = (d3 : Int) ∧ (d0 : Int) < 16 ∧ (d1 : Int) < 16 ∧ (d2 : Int) < 16 ∧ (d3 : Int) < 16 ∧ Hid (d0 = y / 4096 ∧ d1 = y / 256 % 16 ∧ d2 = y / 16 % 16 ∧ d3 = y % 16) :=
                ⟨y / 4096, y / 256 % 16, y / 16 % 16, y % 16, by omega, by have := and15 (y / 256) (by omega); exact this, by have := and15 (y / 16) (by omega); exact this, and15 y (by omega), by omega, by omega, by omega, by omega, Lib.hid ⟨rfl, rfl, rfl, rfl⟩⟩
              have x0 := hexs d0 l0
              have x1 := hexs d1 l1
              have x2 := hexs d2 l2
              have x3 := hexs d3 l3
              have y0 := hexs f0 k0
              have y1 := hexs f1 k1
              have y2 := hexs f2 k2
              have y3 := hexs f3 k3
              clear v34 v6 hc
              go_wp2_with fail
              have hown3 : ∀ o, (w2.drew.alloc o).ownsRow w.heap.size 5 1 u10 n ((q :: qAll ascii q done).map u8N) := fun o => World.ownsRow.alloc (w := w2.drew) hown o
              refine wp_region_any (by kernel_rfl) ?_
              change wpAny _ _ _ _ _ _ _ (World.drew _)
              refine wpAny_take (i := 0) (v := ?_) rfl (by kernel_rfl) (by kernel_rfl) (by kernel_rfl) (fun _ _ _ h => h) (Or.inl ⟨by rfl, ?_⟩) ?_
              rotate_left 1
              · intro w; go_simp; try with_reducible rfl
              refine wpAny_take (i := 1) (v := ?_) rfl (by kernel_rfl) (by kernel_rfl) (by kernel_rfl) (fun _ _ _ h => h) (Or.inl ⟨by rfl, ?_⟩) ?_
              rotate_left 1
              · intro w; go_simp; try with_reducible rfl
              refine wpAny_take (i := 2) (v := ?_) rfl (by kernel_rfl) (by kernel_rfl) (by kernel_rfl) (fun _ _ _ h => h) (Or.inl ⟨by rfl, ?_⟩) ?_
              rotate_left 1
              · intro w; go_simp; try with_reducible rfl
              refine wpAny_take (i := 3) (v := ?_) rfl (by kernel_rfl) (by kernel_rfl) (by kernel_rfl) (fun _ _ _ h => h) (Or.inl ⟨by rfl, ?_⟩) ?_
              rotate_left 1
              · intro w; go_simp; try with_reducible rfl
              refine wpAny_take (i := 4) (v := ?_) rfl (by kernel_rfl) (by kernel_rfl) (by kernel_rfl) (fun _ _ _ h => h) (Or.inl ⟨by rfl, ?_⟩) ?_
              rotate_left 1
              · intro w; go_simp; try with_reducible rfl
              refine wpAny_take (i := 5) (v := ?_) rfl (by kernel_rfl) (by kernel_rfl) (by kernel_rfl) (fun _ _ _ h => h) (Or.inl ⟨by rfl, ?_⟩) ?_
              rotate_left 1
              · intro w; go_simp; try with_reducible rfl
              refine wpAny_take (i := 6) (v := ?_) rfl (by kernel_rfl) (by kernel_rfl) (by kernel_rfl) (fun _ _ _ h => h) (Or.inl ⟨by rfl, ?_⟩) ?_
              rotate_left 1
              · intro w; go_simp; try with_reducible rfl
              refine wpAny_take (i := 7) (v := ?_) rfl (by kernel_rfl) (by kernel_rfl) (by kernel_rfl) (fun _ _ _ h => h) (Or.inl ⟨by rfl, ?_⟩) ?_
              rotate_left 1
              · intro w; go_simp; try with_reducible rfl
              refine wpAny_take (i := 8) (v := ?_) rfl (by kernel_rfl) (by kernel_rfl) (by kernel_rfl) (fun _ _ _ h => h) (Or.inl ⟨by rfl, ?_⟩) ?_
              rotate_left 1
              · intro w; go_simp; try with_reducible rfl
              refine wpAny_take (i := 9) (v := ?_) rfl (by kernel_rfl) (by kernel_rfl) (by kernel_rfl) (fun _ _ _ h => h) (Or.inl ⟨by rfl, ?_⟩) ?_
              rotate_left 1
              · intro w; go_simp; try with_reducible rfl
              refine wpAny_take (i := 10) (v := ?_) rfl (by kernel_rfl) (by kernel_rfl) (by kernel_rfl) (fun _ _ _ h => h) (Or.inl ⟨by rfl, ?_⟩) ?_
              rotate_left 1
              · intro w; go_simp; try with_reducible rfl
              refine wpAny_take (i := 11) (v := ?_) rfl (by kernel_rfl) (by kernel_rfl) (by kernel_rfl) (fun _ _ _ h => h) (Or.inl ⟨by rfl, ?_⟩) ?_
              rotate_left 1
              · intro w; go_simp; try with_reducible rfl
              refine wpAny_take (i := 12) (v := ?_) rfl (by kernel_rfl) (by kernel_rfl) (by kernel_rfl) (fun _ _ _ h => h) (Or.inl ⟨by rfl, ?_⟩) ?_
              rotate_left 1
              · intro w; go_simp; try with_reducible rfl
              refine wpAny_take (i := 13) (v := ?_) rfl (by kernel_rfl) (by kernel_rfl) (by kernel_rfl) (fun _ _ _ h => h) (Or.inl ⟨by rfl, ?_⟩) ?_
              rotate_left 1
              · intro w; go_simp; try with_reducible rfl
              refine wpAny_take (i := 14) (v := ?_) rfl (by kernel_rfl) (by kernel_rfl) (by kernel_rfl) (fun _ _ _ h => h) (Or.inl ⟨by rfl, ?_⟩) ?_
              rotate_left 1
              · intro w; go_simp; try with_reducible rfl
              refine wpAny_take (i := 15) (v := ?_) rfl (by kernel_rfl) (by kernel_rfl) (by kernel_rfl) (fun _ _ _ h => h) (Or.inl ⟨by rfl, ?_⟩) ?_
              rotate_left 1
              · intro w; go_simp; try with_reducible rfl
              refine wpAny_take (i := 16) (v := ?_) rfl (by kernel_rfl) (by kernel_rfl) (by kernel_rfl) (fun _ _ _ h => h) (Or.inl ⟨by rfl, ?_⟩) ?_
              rotate_left 1
              · intro w; go_simp; try with_reducible rfl
              refine wpAny_take (i := 17) (v := ?_) rfl (by kernel_rfl) (by kernel_rfl) (by kernel_rfl) (fun _ _ _ h => h) (Or.inl ⟨by rfl, ?_⟩) ?_
              rotate_left 1
              · intro w; go_simp; try with_reducible rfl
              refine wpAny_take (i := 18) (v := ?_) rfl (by kernel_rfl) (by kernel_rfl) (by kernel_rfl) (fun _ _ _ h => h) (Or.inl ⟨by rfl, ?_⟩) ?_
              rotate_left 1
              · intro w; go_simp; try with_reducible rfl
              refine wpAny_take (i := 19) (v := ?_) rfl (by kernel_rfl) (by kernel_rfl) (by kernel_rfl) (fun _ _ _ h => h) (Or.inl ⟨by rfl, ?_⟩) ?_
              rotate_left 1
              · intro w; go_simp; try with_reducible rfl
              refine wpAny_take (i := 20) (v := ?_) rfl (by kernel_rfl) (by kernel_rfl) (by kernel_rfl) (fun _ _ _ h => h) (Or.inl ⟨by rfl, ?_⟩) ?_
              rotate_left 1
              · intro w; go_simp; try with_reducible rfl
              refine wpAny_take (i := 21) (v := ?_) rfl (by kernel_rfl) (by kernel_rfl) (by kernel_rfl) (fun _ _ _ h => h) (Or.inl ⟨by rfl, ?_⟩) ?_
              rotate_left 1
              · intro w; go_simp; try with_reducible rfl
              refine wpAny_take (i := 22) (v := ?_) rfl (by kernel_rfl) (by kernel_rfl) (by kernel_rfl) (fun _ _ _ h => h) (Or.inl ⟨by rfl, ?_⟩) ?_
              rotate_left 1
              · intro w; go_simp; try with_reducible rfl
              refine wpAny_take (i := 23) (v := ?_) rfl (by kernel_rfl) (by kernel_rfl) (by kernel_rfl) (fun _ _ _ h => h) (Or.inl ⟨by rfl, ?_⟩) ?_
              rotate_left 1
              · intro w; go_simp; try with_reducible rfl
              refine wpAny_take (i := 24) (v := ?_) rfl (by kernel_rfl) (by kernel_rfl) (by kernel_rfl) (fun _ _ _ h => h) (Or.inl ⟨by rfl, ?_⟩) ?_
              rotate_left 1
              · intro w; go_simp; try with_reducible rfl
              refine wpAny_take (i := 25) (v := ?_) rfl (by kernel_rfl) (by kernel_rfl) (by kernel_rfl) (fun _ _ _ h => h) (Or.inl ⟨by rfl, ?_⟩) ?_
              rotate_left 1
              · intro w; go_simp; try with_reducible rfl
              refine wpAny_take (i := 26) (v := ?_) rfl (by kernel_rfl) (by kernel_rfl) (by kernel_rfl) (fun _ _ _ h => h) (Or.inl ⟨by rfl, ?_⟩) ?_
              rotate_left 1
              · intro w; go_simp; try with_reducible rfl
              refine wpAny_take (i := 27) (v := ?_) rfl (by kernel_rfl) (by kernel_rfl) (by kernel_rfl) (fun _ _ _ h => h) (Or.inl ⟨by rfl, ?_⟩) ?_
              rotate_left 1
              · intro w; go_simp; try with_reducible rfl
              refine wpAny_take (i := 28) (v := ?_) rfl (by kernel_rfl) (by kernel_rfl) (by kernel_rfl) (fun _ _ _ h => h) (Or.inl ⟨by rfl, ?_⟩) ?_
              rotate_left 1
              · intro w; go_simp; try with_reducible rfl
              refine wpAny_ready (rs := [29]) (by kernel_rfl) (by simp) ?_
              refine AllReady.cons rfl (fun K hK => ?_) AllReady.nil
              go_simp
              refine hK _ _ ?_
              clear hK K
              refine wpAny_ready (rs := [30]) (by kernel_rfl) (by simp) ?_
              refine AllReady.cons rfl (fun K hK => ?_) AllReady.nil
              refine step_append_holds _ rfl (.tmp 138) (.tmp 167) _ rfl w.heap.size 5 i0 (.int .u8 0) 1 1 Try.underlying47 hi0 hz0 hz1 hz2 rfl Nat.one_pos u10 n ((q :: qAll ascii q done).map u8N) rfl (hown3 _) (w2.heap.size + 1) (some ⟨w2.heap.size, 0, none⟩) 12 12 ([92, 117, hexD d0, hexD d1, hexD d2, hexD d3, 92, 117, hexD f0, hexD f1, hexD f2, hexD f3].map u8N) rfl rfl (Holds.row _ _ _) oneCell_u8 (by simp only [maxLen]; omega) (by omega) (by simp; omega) ?_
              intro v1 w4 hown4 hg4 hat4
              refine hK _ _ ?_
              clear hK K
              refine wpAny_take (i := 31) (v := ?_) rfl (by kernel_rfl) (by kernel_rfl) (by kernel_rfl) (fun _ _ _ h => h) (Or.inl ⟨by rfl, ?_⟩) ?_
              rotate_left 1
              · intro w; go_simp; try with_reducible rfl
              refine wpAny_done (by kernel_rfl) ?_ _
              simp [Act.put]
              go_wp2
              exact ⟨Fin.out [92, 117, hexD d0, hexD d1, hexD d2, hexD d3, 92, 117, hexD f0, hexD f1, hexD f2, hexD f3] m (n + 12) v1 w4 (by rw [HQ.out, ← HX.out.1, ← HX.out.2, HD.out.1, HD.out.2.1, HD.out.2.2.1, HD.out.2.2.2, HF.out.1, HF.out.2.1, HF.out.2.2.1, HF.out.2.2.2]; rfl) rfl rfl hown4 (Below.grown ((below_drewN hb 1).alloc hbs (.cells ([92, 117, hexD d0, hexD d1, hexD d2, hexD d3, 92, 117, hexD f0, hexD f1, hexD f2, hexD f3].map u8N).toArray 5)) hg4 (by simp; omega) (own_row_ge hown)), by simp only [intOf]; omega⟩
        · have hk2' : ¬ (k : Int) < (s.size : Int) := by omega
          have hr0 := HT.out.none hk2
          have HN := Lib.hid (show Stamp.quoted ascii q ps = q :: (qAll ascii q done ++ [q]) by rw [Stamp.quoted, HT.out.2.2.1, hr0, List.append_nil])
          have HL := Lib.hid (show (Stamp.quoted ascii q ps).length = n + 1 by rw [HN.out, HT.out.2.1]; simp)
          have hn12 := HT.out.bound.2
          have hbs := hb.size
          clear hr0
          go_wp2_with (at_builtin
                       refine wpList_append_holds _ rfl (.tmp 227) (.tmp 229) _ rfl w.heap.size 5 i0 _ 1 1 Try.underlying47 hi0 hz0 hz1 hz2 rfl (by omega) _ n _ rfl (hown.alloc _) (wr.heap.size + 1) _ 1 1 [u8N q] rfl rfl (Holds.one _ _ _) (oneCell_u8 (l := [q])) (by simp only [maxLen]; omega) (by omega) (by simp; omega) ?_
                       intro v1 w4 hown4 hg4 hat4)
          have hb5 := Below.grown (hb.alloc hbs (.cells #[u8N q] 5)) hg4 (by simp; omega) (own_row_ge hown)
          obtain ⟨A1, c1, rfl, hc1, hc2, hh⟩ := own_form hown4
          go_ret
          exact ⟨A1, c1, by rw [HL.out]; rfl, by rw [HL.out]; exact hc1, hc2, by rw [HN.out]; simpa using hh, hb5⟩

end Go.Proofs.Ytolgpnkofnibjaa
