/- The contract of 'spec.ReadSingle' at a quoted text. -/
import Derived.Test.YtolgpnkofnibjaaRdE
namespace Go.Proofs.Ytolgpnkofnibjaa
open Go.RowKit Stamp
set_option linter.unusedVariables false

set_option maxRecDepth 100000 in
set_option maxHeartbeats 4000000 in
theorem ReadSingle_calls (z m : ByteArray) (al : List Atm) (hok : ∀ a ∈ al, a.ok 39) (hz2 : 2 ≤ z.size) (hzs : z.size ≤ 68719476736) (h0 : (z[0].toNat : Int) = 39) (h1 : (z[z.size - 1].toNat : Int) = 39) (hm : m = z.extract 1 (z.size - 1)) (hmd : m.data.toList = rdA al) (w : World) :
    Calls Try.prog 17 #[.string z] w fun e w' => ∃ A c, e = .returned (.tuple #[.slice A (unitsA al).length c, .bool true]) ∧ (unitsA al).length ≤ c ∧ c ≤ maxLen ∧ Holds w' w'.heap.size A ((unitsA al).map u16I) ∧ Below w.heap.size w w' := by
  obtain ⟨i0, hi0, hz0, hz1, hz3⟩ := info_parts infoU16
  have HI := Lib.hid (fun w => inside_calls z m 39 hz2 (by omega) h0 h1 hm w)
  have hms : m.size ≤ 68719476736 := by rw [hm, ByteArray.size_extract]; omega
  have HR := Lib.hid (show RRel al m [] al from ⟨rfl, hmd⟩)
  have HO := Lib.hid hok
  clear h0 h1 hm hmd hok
  go_enter Try.func17, Try.ntmps17
  go_wp2_with fail
  refine (HI.out w).mono ?_
  rintro e w1 ⟨rfl, rfl⟩
  go_wp2
  go_loopw [0, 5] (fun t v wr => ∃ (r : ByteArray) (done rest : List Atm) (n : Nat), t = .string r ∧ Hid (RRel al r done rest) ∧ Hid (n = (unitsA done).length) ∧ n + r.size ≤ m.size ∧ wr.ownsRow w1.heap.size 38 1 v n ((unitsA done).map u16I) ∧ Below w1.heap.size w1 wr)
    (fun t _ _ => strLen t)
  case atStart => exact ⟨m, [], al, 0, rfl, HR, Lib.hid rfl, by omega, World.ownsRow_nil _ _ _ _, Below.refl _ _⟩
  case round =>
    clear HR HI
    obtain ⟨r, done, rest, n, rfl, HR, HN, hns, hown, hb⟩ := hrel
    have hbs := hb.size
    match rest, HR with
    | [], HR =>
      have he : r.toList = [] := by rw [Go.ByteArray.toList_eq, HR.out.2]; rfl
      have hd : al = done := by have := HR.out.1; rwa [List.append_nil] at this
      subst hd
      obtain ⟨A1, c1, rfl, hc1, hc2, hh⟩ := own_form hown
      go_wp2
      go_ret2
      exact ⟨A1, c1, by rw [← HN.out]; rfl, by rw [← HN.out]; exact hc1, hc2, hh, hb⟩
    | a :: rest, HR =>
      have hak : a.ok 39 := HO.out a (by rw [HR.out.1]; simp)
      have hal := atm_len hak
      have hrs := size_rd HR.out.2
      have HD := Lib.hid (fun n (hn : n = a.bytes.length) => drop_rd HR.out.2 hn)
      have hrs1 : a.bytes.length ≤ r.size := by omega
      have he : r.toList.isEmpty = false := by
        rw [Go.ByteArray.toList_eq]
        cases h : r.data.toList with
        | nil => have e : r.data.toList.length = r.size := by simp
                 rw [h] at e; simp at e; omega
        | cons x l => rfl
      clear hrs
      match a, hak, hal, HR, HD, hrs1 with
      | .one c u, hak, hal, HR, HD, hrs1 =>
        have hl2 : (Atm.one c u).bytes.length = 2 := rfl
        rw [hl2] at hrs1
        have hr2 := HR.out.2
        rw [rdA_cons] at hr2
        obtain ⟨k0, e0⟩ := at_rd hr2 (k := 0) (c := 92) rfl
        have t0 : ((r[0].toNat : Int) == 92) = true := by rw [e0]; rfl
        have hs1 : ∀ W, (Instr.slice 9 (Value.string r) (some (Value.int IntKind.i64 1)) none none).run Try.prog W = .ok (.string (r.extract 1 r.size)) W := fun W => by
          have := run_slice_string_from_if (P := Try.prog) W 9 r .i64 1 Try.underlying9
          rw [if_pos ⟨by omega, by omega⟩] at this
          exact this
        have hsz1 : (r.extract 1 r.size).size = r.size - 1 := by rw [ByteArray.size_extract]; omega
        have hd2 : (r.extract 1 r.size).data.toList = UInt8.ofNat c :: rdA rest := by
          rw [Lib.extract_to_end, hr2]; rfl
        obtain ⟨m2, hm2⟩ : ∃ m2, m2 = r.extract 1 r.size := ⟨_, rfl⟩
        rw [← hm2] at hs1 hd2 hsz1
        obtain ⟨j0, f0⟩ := at_rd hd2 (k := 0) (c := UInt8.ofNat c) rfl
        have HE := Lib.hid (fun w => escape_one m2 c u hak j0 (by omega) f0 w)
        clear e0 hr2 hak hal hm2 hd2 hsz1 f0 j0 hl2
        have hsl : ∀ W, (Instr.slice 9 (Value.string r) (some (Value.int IntKind.i64 2)) none none).run Try.prog W = .ok (.string (r.extract 2 r.size)) W := fun W => by
          have := run_slice_string_from_if (P := Try.prog) W 9 r .i64 2 Try.underlying9
          rw [if_pos ⟨by omega, by omega⟩] at this
          exact this
        have hw6 : IntKind.i64.wrap 2 = 2 := by decide
        have h6s : (2 : Int) ≤ (r.size : Int) := by omega
        have hsz : Hid ((r.extract 2 r.size).size = r.size - 2) := Lib.hid (by rw [ByteArray.size_extract]; omega)
        clear he
        have he := nonempty (r := r) (by omega)
        go_wp2_with fail
        refine (HE.out _).mono ?_
        rintro e w3 ⟨A3, c3, rfl, k31, k32, k33, k34⟩
        have hown3 := own_below hown k34
        have hb3 := hb.trans (k34.mono hbs)
        have hb3s := hb3.size
        have hn3 : n ≤ m.size := by omega
        go_wp2
        go_region_law (refine step_append_holds _ rfl (.tmp 33) (.tmp 34) _ rfl w1.heap.size 38 i0 _ 1 2 Try.underlying23 hi0 hz0 hz1 hz3 rfl Nat.one_pos _ n ((unitsA done).map u16I) rfl ?c0 w3.heap.size _ 1 c3 [u16I u] rfl rfl ?c1 (oneCell_u16 (l := [u])) ?c3 ?c4 ?c2 ?_; (case c0 => exact hown3); (case c1 => exact k33); (case c3 => simp only [maxLen]; omega); (case c4 => omega); (case c2 => exact hb3s); intro v1 w4 hown4 hg4 hat4)
        have hb4 : Below w1.heap.size w1 w4 := Below.grown (hb3.drew) hg4 hb3s (own_row_ge hown3)
        clear hg4 hat4
        simp [Act.put]
        go_wp2
        go_roundw
        case rel => exact ⟨_, done ++ [.one c u], rest, n + 1, rfl, Lib.hid (HR.out.next (HD.out 2 rfl)), Lib.hid (by rw [unitsA_snoc, List.length_append, ← HN.out]; rfl), by rw [hsz.out]; omega, by rw [unitsA_snoc, List.map_append]; exact hown4, hb4⟩
        case measure => simp only [strLen]; rw [hsz.out]; omega
      | .four u, hak, hal, HR, HD, hrs1 =>
        have hu : u ≤ 65535 := hak
        have hl6 : (Atm.four u).bytes.length = 6 := rfl
        rw [hl6] at hrs1
        have hr2 := HR.out.2
        rw [rdA_cons] at hr2
        obtain ⟨k0, e0⟩ := at_rd hr2 (k := 0) (c := 92) rfl
        have t0 : ((r[0].toNat : Int) == 92) = true := by rw [e0]; rfl
        have hs1 : ∀ W, (Instr.slice 9 (Value.string r) (some (Value.int IntKind.i64 1)) none none).run Try.prog W = .ok (.string (r.extract 1 r.size)) W := fun W => by
          have := run_slice_string_from_if (P := Try.prog) W 9 r .i64 1 Try.underlying9
          rw [if_pos ⟨by omega, by omega⟩] at this
          exact this
        have hd2 : (r.extract 1 r.size).data.toList = 117 :: UInt8.ofNat (hexD (u / 4096)) :: UInt8.ofNat (hexD (u / 256 % 16)) :: UInt8.ofNat (hexD (u / 16 % 16)) :: UInt8.ofNat (hexD (u % 16)) :: rdA rest := by
          rw [Lib.extract_to_end, hr2]; rfl
        have hsz1 : (r.extract 1 r.size).size = r.size - 1 := by rw [ByteArray.size_extract]; omega
        obtain ⟨m2, hm2⟩ : ∃ m2, m2 = r.extract 1 r.size := ⟨_, rfl⟩
        rw [← hm2] at hs1 hd2 hsz1
        obtain ⟨j0, f0⟩ := at_rd hd2 (k := 0) (c := 117) rfl
        obtain ⟨j1, f1⟩ := at_rd hd2 (k := 1) (c := UInt8.ofNat (hexD (u / 4096))) rfl
        have hdd := hexD_bd (show u / 4096 < 16 by omega)
        have hx4 : (m2.extract 1 5).data.toList = [UInt8.ofNat (hexD (u / 4096)), UInt8.ofNat (hexD (u / 256 % 16)), UInt8.ofNat (hexD (u / 16 % 16)), UInt8.ofNat (hexD (u % 16))] := by
          rw [Lib.extract_eq, hd2]; rfl
        have H4 := Lib.hid (fun w => four_calls m2 u (by omega) (by omega) (by rw [f0]; rfl) hu (by rw [hx4]; exact hexV_four hu) w)
        have HE := Lib.hid (fun w => escape_four m2 u (hexD (u / 4096)) (by omega) (by omega) f0 (by rw [f1, toNat_ofNat_lt (by omega)]) hdd.2.1 H4 w)
        clear e0 hr2 hak hal hm2 hd2 hsz1 f0 j0 f1 j1 hx4 hl6 hdd H4
        have hsl : ∀ W, (Instr.slice 9 (Value.string r) (some (Value.int IntKind.i64 6)) none none).run Try.prog W = .ok (.string (r.extract 6 r.size)) W := fun W => by
          have := run_slice_string_from_if (P := Try.prog) W 9 r .i64 6 Try.underlying9
          rw [if_pos ⟨by omega, by omega⟩] at this
          exact this
        have hw6 : IntKind.i64.wrap 6 = 6 := by decide
        have h6s : (6 : Int) ≤ (r.size : Int) := by omega
        have hsz : Hid ((r.extract 6 r.size).size = r.size - 6) := Lib.hid (by rw [ByteArray.size_extract]; omega)
        clear he
        have he := nonempty (r := r) (by omega)
        go_wp2_with fail
        refine (HE.out _).mono ?_
        rintro e w3 ⟨A3, c3, rfl, k31, k32, k33, k34⟩
        have hown3 := own_below hown k34
        have hb3 := hb.trans (k34.mono hbs)
        have hb3s := hb3.size
        have hn3 : n ≤ m.size := by omega
        go_wp2
        go_region_law (refine step_append_holds _ rfl (.tmp 33) (.tmp 34) _ rfl w1.heap.size 38 i0 _ 1 2 Try.underlying23 hi0 hz0 hz1 hz3 rfl Nat.one_pos _ n ((unitsA done).map u16I) rfl ?c0 w3.heap.size _ 1 c3 [u16I u] rfl rfl ?c1 (oneCell_u16 (l := [u])) ?c3 ?c4 ?c2 ?_; (case c0 => exact hown3); (case c1 => exact k33); (case c3 => simp only [maxLen]; omega); (case c4 => omega); (case c2 => exact hb3s); intro v1 w4 hown4 hg4 hat4)
        have hb4 : Below w1.heap.size w1 w4 := Below.grown (hb3.drew) hg4 hb3s (own_row_ge hown3)
        clear hg4 hat4
        simp [Act.put]
        go_wp2
        go_roundw
        case rel => exact ⟨_, done ++ [.four u], rest, n + 1, rfl, Lib.hid (HR.out.next (HD.out 6 rfl)), Lib.hid (by rw [unitsA_snoc, List.length_append, ← HN.out]; rfl), by rw [hsz.out]; omega, by rw [unitsA_snoc, List.map_append]; exact hown4, hb4⟩
        case measure => simp only [strLen]; rw [hsz.out]; omega
      | .plain p, hak, hal, HR, HD, hrs1 =>
        obtain ⟨hsc, hp32, hp92, hp39⟩ := hak
        have hr2 := HR.out.2
        rw [rdA_cons] at hr2
        have hr3 : r.data.toList = enc p ++ rdA rest := by rw [hr2]; congr 1; exact toU_nums _
        have hpt : Stamp.point r.data.toList = some (p, (enc p).length) := by rw [hr3]; exact point_enc p hsc.1 _
        have hel := enc_len p
        obtain ⟨k, hk⟩ : ∃ k, k = (enc p).length := ⟨_, rfl⟩
        have hbl : (Atm.plain p).bytes.length = k := by rw [hk]; exact nums_len _
        rw [hbl] at hrs1
        have t0 : ∀ h : 0 < r.size, ((r[0].toNat : Int) == 92) = false := by
          intro h
          obtain ⟨x, l, e1, e2, _⟩ := nums_head hsc.1
          have hx : r.data.toList[0]? = some (UInt8.ofNat x) := by
            rw [hr2]; show (toU (nums (enc p)) ++ rdA rest)[0]? = _; rw [e1]; rfl
          obtain ⟨_, e3⟩ := at_rd rfl hx
          rw [e3]
          have hxl : x < 256 := by omega
          rw [beq_eq_false_iff_ne, toNat_ofNat_lt hxl]
          omega
        have h0r : 0 < r.size := by omega
        have t0' := t0 h0r
        have hv := Lib.hid (ptV_some hpt)
        rw [← hk] at hv hel
        have hp1 := hsc.1
        have hsu := hsc.2
        have t1 : ((p : Int) == -1) = false := by rw [beq_eq_false_iff_ne]; omega
        have t2 : ((p : Int) == 39) = false := by simp; omega
        have t3 : ((p : Int) == 10) = false := by simp; omega
        have t4 : ((p : Int) == 13) = false := by simp; omega
        have hsl : ∀ W, (Instr.slice 9 (Value.string r) (some (Value.int IntKind.i64 (k : Int))) none none).run Try.prog W = .ok (.string (r.extract k r.size)) W := fun W => by
          have := run_slice_string_from_if (P := Try.prog) W 9 r .i64 k Try.underlying9
          rw [if_pos ⟨by omega, by omega⟩] at this
          exact this
        have hsz : Hid ((r.extract k r.size).size = r.size - k) := Lib.hid (by rw [ByteArray.size_extract]; omega)
        have hun : (unitsOf [p]).length ≤ 2 ∧ (unitsOf [p]).length ≤ k := by
          have := hal.1
          rw [hbl] at this
          simp only [Atm.units] at this
          have e : unitsOf [p] = units1 p := by simp [unitsOf]
          rw [e]
          exact ⟨by unfold units1; split <;> simp, this⟩
        have HSC := Lib.hid hsc
        have HK := Lib.hid hbl
        have hku : k ≤ r.size := hrs1
        obtain ⟨m1, HM⟩ : ∃ m1, Hid (m1 = (unitsOf [p]).length) := ⟨_, Lib.hid rfl⟩
        rw [← HM.out] at hun
        clear hr2 hr3 hpt hk hbl t0 hsc hp32 hp92 hp39 hal he
        have he : r.toList.isEmpty = false := by
          rw [Go.ByteArray.toList_eq]
          cases h : r.data.toList with
          | nil => have e : r.data.toList.length = r.size := by simp
                   rw [h] at e; simp at e; omega
          | cons x l => rfl
        go_wp2_with fail
        refine (Point_calls r _ (by unfold maxLen; omega)).mono ?_
        rintro e w2 ⟨rfl, rfl⟩
        rw [hv.out]
        go_wp2_with fail
        refine (isSur_no p _ hp1 hsu).mono ?_
        rintro e w2 ⟨rfl, rfl⟩
        clear hsu
        go_wp2
        go_region_held3 (fun w' => True) (first | trivial) (first | (go_at_call 27; refine (units_calls p HSC.out _).mono ?_; rintro e w3 ⟨A3, c3, rfl, k31, k32, k33, k34⟩) | ((have k35 := k34; refine step_append_holds _ (by rfl) (.tmp 63) (.tmp 65) _ (by rfl) w1.heap.size 38 i0 _ 1 2 Try.underlying23 hi0 hz0 hz1 hz3 rfl Nat.one_pos _ n ((unitsA done).map u16I) (by rfl) (own_below (w := w2.drew) hown k34) w3.heap.size A3 (unitsOf [p]).length c3 ((unitsOf [p]).map u16I) (by rfl) (by simp) k33 oneCell_u16 (by simp only [maxLen]; rw [← HM.out]; omega) (by rw [← HM.out]; omega) (by have := k34.size; simp at this; omega) ?_; intro v1 w4 hown4 hg4 hat4)))
        have k34s := k34.size
        have hb4 : Below w1.heap.size w1 w4 := Below.grown ((hb.drew).trans (k34.mono (by simp; omega))) hg4 (by simp at k34s; omega) (own_row_ge hown)
        clear hg4 hat4
        go_wp2
        go_roundw
        case rel => exact ⟨_, done ++ [.plain p], rest, n + m1, rfl, Lib.hid (HR.out.next (HD.out k HK.out.symm)), Lib.hid (by rw [unitsA_snoc, List.length_append, ← HN.out, HM.out]; simp [Atm.units, unitsOf]), by rw [hsz.out]; omega, by rw [unitsA_snoc, List.map_append, HM.out]; simpa [Atm.units, unitsOf] using hown4, hb4⟩
        case measure => simp only [strLen]; rw [hsz.out]; omega
end Go.Proofs.Ytolgpnkofnibjaa
