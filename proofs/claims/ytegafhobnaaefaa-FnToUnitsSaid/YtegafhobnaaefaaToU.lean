/- The walk of 'laws.FnToUnits'. -/
import Derived.Test.YtegafhobnaaefaaUnits
import Derived.Test.YtegafhobnaaefaaSame
import Derived.Test.YtegafhobnaaefaaDec
import Derived.Lib.OthersKept
import Derived.WalkSmall
import Derived.BigCall
namespace Go.Proofs.Ytegafhobnaaefaa
open Go.RowKit Stamp
set_option linter.unusedVariables false

theorem own_iter {w : World} {base : Nat} {e : TypeId} {size n : Nat} {v : Value} {xs : List Value} (h : w.ownsRow base e size v n xs) {k : Nat} {s : ByteArray} {pos : Nat} (hk : w.heap[k]? = some (.stringIter s pos)) (pos' : Nat) :
    (w.iterAt k s pos').ownsRow base e size v n xs := by
  refine ⟨h.1, ?_⟩
  rcases h.2 with hn | ⟨g, cap, cur, hv, hbg, hg, rest⟩
  · exact .inl hn
  · have hkg : g ≠ k := by
      intro e1
      rw [e1, hk] at hg
      cases hg
    exact .inr ⟨g, cap, cur, hv, hbg, (Lib.iterAt_other w k g s pos' hkg).trans hg, rest⟩
theorem own_iter_ne {w : World} {base : Nat} {e : TypeId} {size n : Nat} {v : Value} {xs : List Value} (h : w.ownsRow base e size v n xs) {k : Nat} {s : ByteArray} {pos : Nat} (hk : w.heap[k]? = some (.stringIter s pos)) : some k ≠ v.ownBlock := by
  rcases h.2 with ⟨rfl, _⟩ | ⟨g', cap, cur, rfl, _, hh, _⟩
  · simp [Value.ownBlock]
  · intro he
    have : k = g' := by simpa [Value.ownBlock] using he
    subst this
    rw [hk] at hh
    cases hh

theorem and1023 (a : Int) (h0 : 0 ≤ a) (h1 : a ≤ 1048575) : bits .and .i32 a 1023 = a % 1024 := by
  obtain ⟨n, rfl⟩ := Int.eq_ofNat_of_zero_le h0
  have hn : n ≤ 1048575 := by omega
  have hx : n &&& 1023 < 2 ^ 31 := Nat.and_lt_two_pow _ (by omega)
  show IntKind.i32.wrap ((BitVec.ofInt 32 (n : Int) &&& BitVec.ofInt 32 ((1023 : Nat) : Int)).toNat : Int) = _
  rw [BitVec.toNat_and, ofInt_i32 n (by omega), ofInt_i32 1023 (by omega), show (1023 : Nat) = 2 ^ 10 - 1 from rfl, Nat.and_two_pow_sub_one_eq_mod]
  simp [IntKind.wrap, IntKind.bits, IntKind.signed]
  omega

set_option maxRecDepth 100000 in
set_option maxHeartbeats 1000000 in
theorem ToU13 (s : ByteArray) (ps : List Nat) (hl : s.data.toList = encAll ps) (hps : ∀ p ∈ ps, Scalar p) (hs : s.size ≤ 8589934592) (w : World) :
    Calls Try.prog 13 #[.string s] w (UnitsPost ps w) := by
  have Hl := Lib.hid hl
  have Hps := Lib.hid hps
  obtain ⟨i0, hi0, hz0, hz1, hz2⟩ := info_parts infoU16
  have hmk := fun W => run_make (P := Try.prog) W 24 31 i0 (.int .u16 0) Try.underlying24 hi0 hz0 .i64 .i64 0 (s.size : Int) (by omega) (by omega) (by rw [hz2]; omega) (by omega)
  simp only [hz1, Int.toNat_natCast, Nat.mul_one] at hmk
  clear hl hps
  go_enter Try.func13, Try.ntmps13
  go_wp2
  go_loopw [3] (fun v wr => ∃ (pos : Nat) (done rest : List Nat), wr.heap[w.heap.size + 1]? = some (.stringIter s pos) ∧ wr.ownsRow w.heap.size 31 1 v (unitsOf done).length ((unitsOf done).map u16I) ∧ Below w.heap.size w wr ∧ Hid (ps = done ++ rest) ∧ Hid (s.data.toList.drop pos = encAll rest) ∧ done.length ≤ pos)
    (fun _ wr => s.size - wr.iterPos (w.heap.size + 1))
  case atStart =>
    refine ⟨0, [], ps, ?_, (World.ownsRow_made w _ s.size (Nat.le_refl _) (by unfold maxLen; omega) (by simp [size_madeCells])).alloc _, ((Below.refl _ w).alloc (Nat.le_refl _) _).alloc (by simp) _, Lib.hid rfl, Lib.hid Hl.out, by simp⟩
    have := World.iter_heap (w.alloc (Obj.cells (madeCells #[Value.int IntKind.u16 0] s.size) 31)) s 0
    simpa using this
  case round =>
    obtain ⟨pos, done, rest, hit, hown, hb, hsp, hr, hdl⟩ := hrel
    by_cases hp : pos < s.size
    · have hnx : ∀ ty, (Instr.next (.pointer (some ⟨w.heap.size + 1, 0, none⟩)) true ty).run Try.prog wr = _ := fun ty => Lib.run_next_any_at wr (w.heap.size + 1) s pos ty hit hp
      have hrn : rest ≠ [] := by
        intro e
        have := hr.out
        rw [e] at this
        have h2 := congrArg List.length this
        rw [List.length_drop] at h2
        have e : s.data.toList.length = s.size := by simp
        simp [encAll] at h2
        omega
      match rest, hrn, hsp, hr with
      | p :: rest, _, hsp, hr =>
        have hsc : Scalar p := Hps.out p (by rw [hsp.out]; simp)
        have hdec := decode_enc s pos p (encAll rest) hsc (by rw [hr.out]; rfl)
        rw [hdec] at hnx
        have hp1 := hsc.1
        have hit2 := Lib.iterAt_heap wr (w.heap.size + 1) s pos (pos + (enc p).length) hit
        have hb2 := Lib.below_iterAt hb (k := w.heap.size + 1) (by omega) s (pos + (enc p).length)
        have hown2 := own_iter hown hit (pos + (enc p).length)
        have hr2 := Lib.hid (show s.data.toList.drop (pos + (enc p).length) = encAll rest by rw [← List.drop_drop, hr.out]; exact List.drop_left)
        have hel := (enc_len p).1
        have hul := units_len done
        have Hit := Lib.hid hit
        have hss : s.data.toList.length = s.size := by simp
        have Hss := Lib.hid hss
        have hbs := hb2.size
        clear hdec hit hb hr hsc hown hss
        generalize hw1 : wr.iterAt (w.heap.size + 1) s (pos + (enc p).length) = w1 at *
        have Hw1 := Lib.hid hw1
        clear hw1
        by_cases hbig : p ≤ 65535
        · have hbig' : (p : Int) ≤ 65535 := by omega
          have HS := Lib.hid (units_snoc1 (done := done) (p := p) (by omega))
          go_wp2_with (at_builtin
                       refine wpList_append_holds _ rfl (.tmp 16) (.tmp 19) _ rfl w.heap.size 31 i0 _ 1 2 Try.underlying24 hi0 hz0 hz1 hz2 rfl (by omega) _ (unitsOf done).length ((unitsOf done).map u16I) rfl (hown2.alloc _) (w1.heap.size + 1) _ 1 1 [u16I p] rfl rfl (Holds.one _ _ _) (oneCell_u16 (l := [p])) (by simp only [maxLen]; omega) (by omega) (by simp; omega) ?_
                       intro v1 w4 hown4 hg4 hat4)
          have hb4 := Below.grown (hb2.alloc hbs (.cells #[u16I p] 31)) hg4 (by simp; omega) (own_row_ge hown2)
          have hit4 : w4.heap[w.heap.size + 1]? = some (.stringIter s (pos + (enc p).length)) := by
            have hlt : w.heap.size + 1 < w1.heap.size := (Array.getElem?_eq_some_iff.1 hit2).1
            exact ((hg4.block _ (by simp; omega) (own_iter_ne hown2 hit2)).trans (Below.heap_alloc _ _ _ hlt)).trans hit2
          have hown5 : w4.ownsRow w.heap.size 31 1 v1 (unitsOf (done ++ [p])).length ((unitsOf (done ++ [p])).map u16I) := by
            rw [HS.out, List.length_append, List.map_append]; exact hown4
          refine ⟨⟨pos + (enc p).length, done ++ [p], rest, hit4, hown5, hb4, Lib.hid (by rw [hsp.out]; simp), hr2, by simp; omega⟩, ?_⟩
          simp only [World.iterPos, hit4, Hit.out]; omega
        · have hbig' : (65535 : Int) < (p : Int) := by omega
          obtain ⟨x, y, hx, hy, hx2, hy2, HS⟩ : ∃ x y : Nat, (55296 : Int) + ((p : Int) - 65536) / 1024 = (x : Int) ∧ (56320 : Int) + ((p : Int) - 65536) % 1024 = (y : Int) ∧ x ≤ 56319 ∧ y ≤ 57343 ∧ Hid (unitsOf (done ++ [p]) = unitsOf done ++ [x, y]) :=
            ⟨55296 + (p - 65536) / 1024, 56320 + (p - 65536) % 1024, by omega, by omega, by omega, by omega, Lib.hid (units_snoc2 (by omega))⟩
          have a1 := and1023 (((p : Int) - 65536) / 1024) (by omega) (by omega)
          have a2 := and1023 ((p : Int) - 65536) (by omega) (by omega)
          rw [Int.emod_eq_of_lt (show 0 ≤ ((p : Int) - 65536) / 1024 by omega) (by omega)] at a1
          clear hbig
          go_wp2_with (at_builtin
                       refine wpList_append_holds _ rfl (.tmp 23) (.tmp 33) _ rfl w.heap.size 31 i0 _ 1 2 Try.underlying24 hi0 hz0 hz1 hz2 rfl (by omega) _ (unitsOf done).length ((unitsOf done).map u16I) rfl (hown2.alloc _) (w1.heap.size + 1) _ 2 2 [u16I x, u16I y] rfl rfl (Holds.two _ _ _ _) (oneCell_u16 (l := [x, y])) (by simp only [maxLen]; omega) (by omega) (by simp; omega) ?_
                       intro v1 w4 hown4 hg4 hat4)
          have hb4 := Below.grown (hb2.alloc hbs (.cells #[u16I x, u16I y] 31)) hg4 (by simp; omega) (own_row_ge hown2)
          have hit4 : w4.heap[w.heap.size + 1]? = some (.stringIter s (pos + (enc p).length)) := by
            have hlt : w.heap.size + 1 < w1.heap.size := (Array.getElem?_eq_some_iff.1 hit2).1
            exact ((hg4.block _ (by simp; omega) (own_iter_ne hown2 hit2)).trans (Below.heap_alloc _ _ _ hlt)).trans hit2
          have hown5 : w4.ownsRow w.heap.size 31 1 v1 (unitsOf (done ++ [p])).length ((unitsOf (done ++ [p])).map u16I) := by
            rw [HS.out, List.length_append, List.map_append]; exact hown4
          refine ⟨⟨pos + (enc p).length, done ++ [p], rest, hit4, hown5, hb4, Lib.hid (by rw [hsp.out]; simp), hr2, by simp; omega⟩, ?_⟩
          simp only [World.iterPos, hit4, Hit.out]; omega
    · have hnx : ∀ ty, (Instr.next (.pointer (some ⟨w.heap.size + 1, 0, none⟩)) true ty).run Try.prog wr = _ := fun ty => Lib.run_next_end_at wr (w.heap.size + 1) s pos ty hit hp
      have hrn : rest = [] := by
        have := hr.out
        rw [List.drop_eq_nil_of_le (by simp; omega)] at this
        match rest, this with
        | [], _ => rfl
        | p :: r, this => exact absurd (List.append_eq_nil_iff.1 this.symm).1 (enc_ne p)
      subst hrn
      obtain ⟨A1, c1, rfl, hc1, hc2, hh⟩ := own_form hown
      have HE := Lib.hid (show ps = done by rw [hsp.out, List.append_nil])
      clear hr hsp
      go_wp2
      go_ret
      exact ⟨A1, c1, by rw [HE.out]; rfl, by rw [HE.out]; exact hc1, hc2, by rw [HE.out]; exact hh, hb⟩

theorem ToU8 (s : ByteArray) (ps : List Nat) (hl : s.data.toList = encAll ps) (hps : ∀ p ∈ ps, Scalar p) (hs : s.size ≤ 8589934592) (w : World) :
    Calls Try.prog 8 #[.string s] w (UnitsPost ps w) := by
  have H := Lib.hid (⟨hl, hps⟩ : s.data.toList = encAll ps ∧ ∀ p ∈ ps, Scalar p)
  clear hl hps
  go_enter Try.func8, Try.ntmps8
  go_wp2_with fail
  refine (ToU13 s ps H.out.1 H.out.2 hs w).mono ?_
  rintro e w1 ⟨A, c, rfl, h1, h2, h3, h4⟩
  go_wp2
  go_ret
  exact ⟨A, c, rfl, h1, h2, h3, h4⟩

theorem u16_map (l : List Nat) : l.map u16I = (l.map fun (c : Nat) => (c : Int)).map (Value.int .u16) := by simp [u16I]

set_option maxHeartbeats 400000 in
theorem toUnits_walk (s : ByteArray) (hs : s.size ≤ maxLen) (w : World) :
    Calls Try.prog 3 #[.string s] w fun e w' => e = .returned (.bool true) ∧ Below w.heap.size w w' := by
  by_cases h1 : 2147483647 < s.size
  · unfold maxLen at hs
    have h1' : (2147483647 : Int) < (s.size : Int) := by omega
    go_enter Try.func3, Try.ntmps3
    go_wp2
    go_ret
    exact ⟨rfl, Below.refl _ _⟩
  · have h1' : ¬ (2147483647 : Int) < (s.size : Int) := by omega
    have h2 : s.size ≤ 8589934592 := by omega
    cases hv : validB s.data.toList with
    | false =>
      go_enter Try.func3, Try.ntmps3
      go_wp2_with fail
      refine (Valid_calls s w h2).mono ?_
      rintro e w' ⟨rfl, hb⟩
      go_wp2
      go_ret
      exact ⟨rfl, hb⟩
    | true =>
      obtain ⟨ps, hp⟩ := valid_points hv
      obtain ⟨hl, hps⟩ := points_sound _ _ hp
      have Hl := Lib.hid hl
      have Hps := Lib.hid hps
      have hlen : (unitsOf ps).length ≤ maxLen := by
        have a := units_len ps
        have b : ps.length ≤ s.size := by
          have e : s.data.toList.length = s.size := by simp
          rw [← e, hl]
          clear hl hp hps Hl Hps e a
          induction ps with
          | nil => simp
          | cons p r ih => have := (enc_len p).1; simp [encAll]; omega
        unfold maxLen; omega
      clear hl hps hp
      go_enter Try.func3, Try.ntmps3
      go_wp2_with fail
      refine (Valid_calls s w h2).mono ?_
      rintro e w1 ⟨rfl, hb1⟩
      go_wp2_with fail
      refine (ToU8 s ps Hl.out Hps.out h2 w1).mono ?_
      rintro e w2 ⟨A, c, rfl, _, _, hh, hb2⟩
      go_wp2_with fail
      refine (Units_calls s ps Hl.out Hps.out h2 w2).mono ?_
      rintro e w3 ⟨B, d, rfl, _, _, hh2, hb3⟩
      rw [u16_map] at hh hh2
      go_wp2_with fail
      refine (SameUnits_calls A B _ _ c d _ _ (by simp) (by simp) hlen w3 w3.heap.size ((hh.below hb3).more hb3.size) hh2).mono ?_
      rintro e w4 ⟨rfl, q, rfl⟩
      have hss := same_self ((unitsOf ps).map fun (c : Nat) => (c : Int))
      have h12 := hb1.trans (hb2.mono hb1.size)
      have h13 := h12.trans (hb3.mono h12.size)
      go_wp2_with fail
      refine (ToU8 ⟨#[97]⟩ [97] rfl (by intro p hp; rw [List.mem_singleton.1 hp]; exact ⟨by omega, rfl⟩) (by decide) _).mono ?_
      rintro e w5 ⟨E, g, rfl, _, _, _, hb5⟩
      have h15 := (below_drewN h13 q).trans (hb5.mono (by have := h13.size; simpa using this))
      have hone : (unitsOf [97]).length = 1 := rfl
      go_wp2
      go_ret
      exact ⟨rfl, h15⟩
end Go.Proofs.Ytegafhobnaaefaa
