/- The contract of 'spec.ReadJSON' at a quoted text. -/
import Derived.Test.YtolgpnkofnibjaaRdA
import Derived.Test.YtolgpnkofnibjaaWSJ
import Derived.Deep.RegionHeld3
import Derived.Laws.Strings3
namespace Go.Proofs.Ytolgpnkofnibjaa
open Go.RowKit Stamp
set_option linter.unusedVariables false

def rdA (l : List Atm) : List UInt8 := toU (bytesA l)
theorem rdA_cons (a : Atm) (l : List Atm) : rdA (a :: l) = toU a.bytes ++ rdA l := by
  unfold rdA
  rw [← toU_append]; rfl
theorem unitsA_snoc (l : List Atm) (a : Atm) : unitsA (l ++ [a]) = unitsA l ++ a.units := by simp [unitsA]
theorem hv_hexD {d : Nat} (h : d < 16) : hv (UInt8.ofNat (hexD d)) = some d := by
  have : ∀ x : Fin 16, hv (UInt8.ofNat (hexD x.1)) = some x.1 := by decide
  exact this ⟨d, h⟩
theorem hexV_four {u : Nat} (h : u ≤ 65535) : hexV 0 [UInt8.ofNat (hexD (u / 4096)), UInt8.ofNat (hexD (u / 256 % 16)), UInt8.ofNat (hexD (u / 16 % 16)), UInt8.ofNat (hexD (u % 16))] = some u := by
  rw [hexV_yes (hv_hexD (by omega)) (by omega), hexV_yes (hv_hexD (by omega)) (by omega), hexV_yes (hv_hexD (by omega)) (by omega), hexV_yes (hv_hexD (by omega)) (by omega)]
  simp only [hexV]; congr 1; omega
/-- what the loop keeps -/
def RRel (al : List Atm) (r : ByteArray) (done rest : List Atm) : Prop := al = done ++ rest ∧ r.data.toList = rdA rest
theorem RRel.next {al done rest : List Atm} {a : Atm} {r r' : ByteArray} (h : RRel al r done (a :: rest)) (hr : r'.data.toList = rdA rest) : RRel al r' (done ++ [a]) rest := ⟨by rw [h.1]; simp, hr⟩
theorem drop_rd {r : ByteArray} {a : Atm} {rest : List Atm} (h : r.data.toList = rdA (a :: rest)) {n : Nat} (hn : n = a.bytes.length) : (r.extract n r.size).data.toList = rdA rest := by
  rw [Lib.extract_to_end, h, rdA_cons, hn, ← toU_len a.bytes, List.drop_left]
theorem size_rd {r : ByteArray} {a : Atm} {rest : List Atm} (h : r.data.toList = rdA (a :: rest)) : r.size = a.bytes.length + (rdA rest).length := by
  have e : r.data.toList.length = r.size := by simp
  rw [h, rdA_cons, List.length_append, toU_len] at e
  exact e.symm
theorem at_rd {r : ByteArray} {l : List UInt8} (h : r.data.toList = l) {k : Nat} {c : UInt8} (hc : l[k]? = some c) : ∃ hk : k < r.size, r[k] = c := by
  rw [← h] at hc
  have hk : k < r.size := by
    rcases Nat.lt_or_ge k r.size with h1 | h1
    · exact h1
    · have e : r.data.toList.length = r.size := by simp
      rw [List.getElem?_eq_none (by omega)] at hc; cases hc
  refine ⟨hk, ?_⟩
  rw [Lib.data_getElem? r k hk] at hc
  injection hc
theorem look_one {c u : Nat} (h : oneB c u = true) : look [34, 92, 47, 98, 102, 110, 114, 116] [34, 92, 47, 8, 12, 10, 13, 9] (UInt8.ofNat c) = some (UInt8.ofNat u) ∧ c < 256 ∧ u < 256 := by
  simp only [oneB, Bool.or_eq_true, Bool.and_eq_true, beq_iff_eq] at h
  rcases h with (((((⟨rfl, rfl⟩ | ⟨rfl, rfl⟩) | ⟨rfl, rfl⟩) | ⟨rfl, rfl⟩) | ⟨rfl, rfl⟩) | ⟨rfl, rfl⟩) | ⟨rfl, rfl⟩ <;> exact ⟨by decide, by decide, by decide⟩
theorem atm_len {q : Nat} {a : Atm} (h : a.ok q) : a.units.length ≤ a.bytes.length ∧ 1 ≤ a.bytes.length ∧ a.bytes.length ≤ 6 := by
  match a, h with
  | .plain p, h =>
    have h1 := enc_len p
    simp only [Atm.units, Atm.bytes, nums_len]
    refine ⟨?_, h1.1, by omega⟩
    unfold units1
    split
    · simp; omega
    · have : (enc p).length = 4 := by unfold enc; rw [if_neg (by omega), if_neg (by omega), if_neg (by omega)]; rfl
      rw [this]; simp
  | .one c u, _ => simp [Atm.units, Atm.bytes]
  | .four u, _ => simp [Atm.units, Atm.bytes, hex4]

set_option maxRecDepth 100000 in
set_option maxHeartbeats 4000000 in
theorem ReadJSON_calls (z m : ByteArray) (al : List Atm) (hok : ∀ a ∈ al, a.ok 34) (hz2 : 2 ≤ z.size) (hzs : z.size ≤ 68719476736) (h0 : (z[0].toNat : Int) = 34) (h1 : (z[z.size - 1].toNat : Int) = 34) (hm : m = z.extract 1 (z.size - 1)) (hmd : m.data.toList = rdA al) (w : World) :
    Calls Try.prog 11 #[.string z] w fun e w' => ∃ A c, e = .returned (.tuple #[.slice A (unitsA al).length c, .bool true]) ∧ (unitsA al).length ≤ c ∧ c ≤ maxLen ∧ Holds w' w'.heap.size A ((unitsA al).map u16I) ∧ Below w.heap.size w w' := by
  obtain ⟨i0, hi0, hz0, hz1, hz3⟩ := info_parts infoU16
  have HI := Lib.hid (fun w => inside_calls z m 34 hz2 (by omega) h0 h1 hm w)
  have hms : m.size ≤ 68719476736 := by rw [hm, ByteArray.size_extract]; omega
  have HR := Lib.hid (show RRel al m [] al from ⟨rfl, hmd⟩)
  have HO := Lib.hid hok
  clear h0 h1 hm hmd hok
  go_enter Try.func11, Try.ntmps11
  go_wp2_with fail
  refine (HI.out w).mono ?_
  rintro e w1 ⟨rfl, rfl⟩
  go_wp2
  go_loopw [0, 5] (fun t v wr => ∃ (r : ByteArray) (done rest : List Atm) (n : Nat), t = .string r ∧ Hid (RRel al r done rest) ∧ Hid (n = (unitsA done).length) ∧ n + r.size ≤ m.size ∧ wr.ownsRow w1.heap.size 38 1 v n ((unitsA done).map u16I) ∧ Below w1.heap.size w1 wr)
    (fun t _ _ => strLen t)
  case atStart => exact ⟨m, [], al, 0, rfl, HR, Lib.hid rfl, by omega, World.ownsRow_nil _ _ _ _, Below.refl _ _⟩
  case round =>
    clear HR HI
    obtain ⟨r, done, rest, n, rfl, HR, HN, hns, hown, hb⟩ := hrel
    have hbs := hb.size
    match rest, HR with
    | [], HR =>
      have he : r.toList = [] := by rw [Go.ByteArray.toList_eq, HR.out.2]; rfl
      have hd : al = done := by have := HR.out.1; rwa [List.append_nil] at this
      subst hd
      obtain ⟨A1, c1, rfl, hc1, hc2, hh⟩ := own_form hown
      go_wp2
      go_ret2
      exact ⟨A1, c1, by rw [← HN.out]; rfl, by rw [← HN.out]; exact hc1, hc2, hh, hb⟩
    | a :: rest, HR =>
      have hak : a.ok 34 := HO.out a (by rw [HR.out.1]; simp)
      have hal := atm_len hak
      have hrs := size_rd HR.out.2
      have HD := Lib.hid (fun n (hn : n = a.bytes.length) => drop_rd HR.out.2 hn)
      have hrs1 : a.bytes.length ≤ r.size := by omega
      have he : r.toList.isEmpty = false := by
        rw [Go.ByteArray.toList_eq]
        cases h : r.data.toList with
        | nil => have e : r.data.toList.length = r.size := by simp
                 rw [h] at e; simp at e; omega
        | cons x l => rfl
      clear hrs
      match a, hak, hal, HR, HD, hrs1 with
      | .one c u, hak, hal, HR, HD, hrs1 =>
        obtain ⟨hlk, hc, hu⟩ := look_one hak
        have hr2 := HR.out.2
        rw [rdA_cons] at hr2
        obtain ⟨k0, e0⟩ := at_rd hr2 (k := 0) (c := 92) rfl
        obtain ⟨k1, e1⟩ := at_rd hr2 (k := 1) (c := UInt8.ofNat c) rfl
        have t0 : ((r[0].toNat : Int) == 92) = true := by rw [e0]; rfl
        have t1 : (1 : Int) < (r.size : Int) := by omega
        have t2 : (2 : Int) ≤ (r.size : Int) := by omega
        obtain ⟨x, hx⟩ : ∃ x, x = r[1] := ⟨_, rfl⟩
        have Hlk := Lib.hid (show look (⟨#[34, 92, 47, 98, 102, 110, 114, 116]⟩ : ByteArray).data.toList (⟨#[34, 92, 47, 8, 12, 10, 13, 9]⟩ : ByteArray).data.toList r[1] = some (UInt8.ofNat u) by rw [e1]; exact hlk)
        have hsl : ∀ W, (Instr.slice 9 (Value.string r) (some (Value.int IntKind.i64 2)) none none).run Try.prog W = .ok (.string (r.extract 2 r.size)) W := fun W => by
          have := run_slice_string_from_if (P := Try.prog) W 9 r .i64 2 Try.underlying9
          rw [if_pos ⟨by omega, by omega⟩] at this
          exact this
        have hsz : Hid ((r.extract 2 r.size).size = r.size - 2) := Lib.hid (by rw [ByteArray.size_extract]; omega)
        have Hu := Lib.hid (toNat_ofNat_lt hu)
        clear e0 e1 hr2 hlk hx hak hal he
        have he : r.toList.isEmpty = false := by
          rw [Go.ByteArray.toList_eq]
          cases h : r.data.toList with
          | nil => have e : r.data.toList.length = r.size := by simp
                   rw [h] at e; simp at e; omega
          | cons x l => rfl
        go_wp2_with fail
        refine (single_calls r[1] ⟨#[34, 92, 47, 98, 102, 110, 114, 116]⟩ ⟨#[34, 92, 47, 8, 12, 10, 13, 9]⟩ rfl (by decide) _).mono ?_
        rintro e w2 ⟨he1, rfl⟩
        rw [Hlk.out] at he1
        have he2 : e = .returned (.tuple #[.int .u16 (u : Int), .bool true]) := by rw [show lookPost (some (UInt8.ofNat u)) e = (e = .returned (.tuple #[.int .u16 ((UInt8.ofNat u).toNat : Int), .bool true])) from rfl, Hu.out] at he1; exact he1
        subst he2
        clear he1
        go_wp2
        go_region_law (refine step_append_holds _ rfl (.tmp 38) (.tmp 40) _ rfl w1.heap.size 38 i0 _ 1 2 Try.underlying23 hi0 hz0 hz1 hz3 rfl Nat.one_pos _ n ((unitsA done).map u16I) rfl ?c0 (w2.heap.size + 1) _ 1 1 [u16I u] rfl rfl ?c1 (oneCell_u16 (l := [u])) ?c3 ?c4 ?c2 ?_; (case c0 => exact World.ownsRow.alloc hown _); (case c1 => exact Holds.one _ _ _); (case c3 => simp only [maxLen]; omega); (case c4 => omega); (case c2 => simp; omega); intro v1 w4 hown4 hg4 hat4)
        have hb4 : Below w1.heap.size w1 w4 := Below.grown ((hb.alloc hbs _).drew) hg4 (by simp; omega) (own_row_ge hown)
        clear hg4 hat4
        simp [Act.put]
        go_wp2
        go_roundw
        case rel => exact ⟨_, done ++ [.one c u], rest, n + 1, rfl, Lib.hid (HR.out.next (HD.out 2 rfl)), Lib.hid (by rw [unitsA_snoc, List.length_append, ← HN.out]; rfl), by rw [hsz.out]; omega, by rw [unitsA_snoc, List.map_append]; exact hown4, hb4⟩
        case measure => simp only [strLen]; rw [hsz.out]; omega
      | .four u, hak, hal, HR, HD, hrs1 =>
        have hu : u ≤ 65535 := hak
        have hl6 : (Atm.four u).bytes.length = 6 := rfl
        rw [hl6] at hrs1
        have hr2 := HR.out.2
        rw [rdA_cons] at hr2
        obtain ⟨k0, e0⟩ := at_rd hr2 (k := 0) (c := 92) rfl
        obtain ⟨k1, e1⟩ := at_rd hr2 (k := 1) (c := 117) rfl
        have t0 : ((r[0].toNat : Int) == 92) = true := by rw [e0]; rfl
        have t1 : (1 : Int) < (r.size : Int) := by omega
        have Hlk := Lib.hid (show look (⟨#[34, 92, 47, 98, 102, 110, 114, 116]⟩ : ByteArray).data.toList (⟨#[34, 92, 47, 8, 12, 10, 13, 9]⟩ : ByteArray).data.toList r[1] = none by rw [e1]; decide)
        have hs1 : ∀ W, (Instr.slice 9 (Value.string r) (some (Value.int IntKind.i64 1)) none none).run Try.prog W = .ok (.string (r.extract 1 r.size)) W := fun W => by
          have := run_slice_string_from_if (P := Try.prog) W 9 r .i64 1 Try.underlying9
          rw [if_pos ⟨by omega, by omega⟩] at this
          exact this
        have hsl : ∀ W, (Instr.slice 9 (Value.string r) (some (Value.int IntKind.i64 6)) none none).run Try.prog W = .ok (.string (r.extract 6 r.size)) W := fun W => by
          have := run_slice_string_from_if (P := Try.prog) W 9 r .i64 6 Try.underlying9
          rw [if_pos ⟨by omega, by omega⟩] at this
          exact this
        have hw6 : IntKind.i64.wrap 6 = 6 := by decide
        have h6s : (6 : Int) ≤ (r.size : Int) := by omega
        have hsz : Hid ((r.extract 6 r.size).size = r.size - 6) := Lib.hid (by rw [ByteArray.size_extract]; omega)
        have hd2 : (r.extract 1 r.size).data.toList = 117 :: UInt8.ofNat (hexD (u / 4096)) :: UInt8.ofNat (hexD (u / 256 % 16)) :: UInt8.ofNat (hexD (u / 16 % 16)) :: UInt8.ofNat (hexD (u % 16)) :: rdA rest := by
          rw [Lib.extract_to_end, hr2]; rfl
        have hsz1 : (r.extract 1 r.size).size = r.size - 1 := by rw [ByteArray.size_extract]; omega
        obtain ⟨m2, hm2⟩ : ∃ m2, m2 = r.extract 1 r.size := ⟨_, rfl⟩
        rw [← hm2] at hs1 hd2 hsz1
        obtain ⟨j0, f0⟩ := at_rd hd2 (k := 0) (c := 117) rfl
        have hx4 : (m2.extract 1 5).data.toList = [UInt8.ofNat (hexD (u / 4096)), UInt8.ofNat (hexD (u / 256 % 16)), UInt8.ofNat (hexD (u / 16 % 16)), UInt8.ofNat (hexD (u % 16))] := by
          rw [Lib.extract_eq, hd2]; rfl
        have H4 := Lib.hid (fun w => four_calls m2 u (by omega) (by omega) (by rw [f0]; rfl) hu (by rw [hx4]; exact hexV_four hu) w)
        clear e0 e1 hr2 hak hal he hm2 hd2 hsz1 f0 j0 hx4 hl6
        have he : r.toList.isEmpty = false := by
          rw [Go.ByteArray.toList_eq]
          cases h : r.data.toList with
          | nil => have e : r.data.toList.length = r.size := by simp
                   rw [h] at e; simp at e; omega
          | cons x l => rfl
        go_wp2_with fail
        refine (single_calls r[1] ⟨#[34, 92, 47, 98, 102, 110, 114, 116]⟩ ⟨#[34, 92, 47, 8, 12, 10, 13, 9]⟩ rfl (by decide) _).mono ?_
        rintro e w2 ⟨he1, rfl⟩
        rw [Hlk.out] at he1
        have he2 : e = .returned (.tuple #[.int .u16 0, .bool false]) := he1
        subst he2
        clear he1
        go_wp2_with fail
        refine (H4.out _).mono ?_
        rintro e w2 ⟨rfl, rfl⟩
        go_wp2
        go_region_law (refine step_append_holds _ rfl (.tmp 53) (.tmp 55) _ rfl w1.heap.size 38 i0 _ 1 2 Try.underlying23 hi0 hz0 hz1 hz3 rfl Nat.one_pos _ n ((unitsA done).map u16I) rfl ?c0 (w2.heap.size + 1) _ 1 1 [u16I u] rfl rfl ?c1 (oneCell_u16 (l := [u])) ?c3 ?c4 ?c2 ?_; (case c0 => exact World.ownsRow.alloc hown _); (case c1 => exact Holds.one _ _ _); (case c3 => simp only [maxLen]; omega); (case c4 => omega); (case c2 => simp; omega); intro v1 w4 hown4 hg4 hat4)
        have hb4 : Below w1.heap.size w1 w4 := Below.grown ((hb.alloc hbs _).drew) hg4 (by simp; omega) (own_row_ge hown)
        clear hg4 hat4
        simp [Act.put]
        go_wp2
        go_roundw
        case rel => exact ⟨_, done ++ [.four u], rest, n + 1, rfl, Lib.hid (HR.out.next (HD.out 6 rfl)), Lib.hid (by rw [unitsA_snoc, List.length_append, ← HN.out]; rfl), by rw [hsz.out]; omega, by rw [unitsA_snoc, List.map_append]; exact hown4, hb4⟩
        case measure => simp only [strLen]; rw [hsz.out]; omega
      | .plain p, hak, hal, HR, HD, hrs1 =>
        obtain ⟨hsc, hp32, hp92, hp34⟩ := hak
        have hr2 := HR.out.2
        rw [rdA_cons] at hr2
        have hr3 : r.data.toList = enc p ++ rdA rest := by rw [hr2]; congr 1; exact toU_nums _
        have hpt : Stamp.point r.data.toList = some (p, (enc p).length) := by rw [hr3]; exact point_enc p hsc.1 _
        have hel := enc_len p
        obtain ⟨k, hk⟩ : ∃ k, k = (enc p).length := ⟨_, rfl⟩
        have hbl : (Atm.plain p).bytes.length = k := by rw [hk]; exact nums_len _
        rw [hbl] at hrs1
        have t0 : ∀ h : 0 < r.size, ((r[0].toNat : Int) == 92) = false := by
          intro h
          obtain ⟨x, l, e1, e2, _⟩ := nums_head hsc.1
          have hx : r.data.toList[0]? = some (UInt8.ofNat x) := by
            rw [hr2]; show (toU (nums (enc p)) ++ rdA rest)[0]? = _; rw [e1]; rfl
          obtain ⟨_, e3⟩ := at_rd rfl hx
          rw [e3]
          have hxl : x < 256 := by omega
          rw [beq_eq_false_iff_ne, toNat_ofNat_lt hxl]
          omega
        have h0r : 0 < r.size := by omega
        have t0' := t0 h0r
        have hv := Lib.hid (ptV_some hpt)
        rw [← hk] at hv hel
        have hp1 := hsc.1
        have hsu := hsc.2
        have t1 : ¬ (p : Int) < 32 := by omega
        have t2 : ((p : Int) == 34) = false := by simp; omega
        have t3 : ((p : Int) == 92) = false := by simp; omega
        have hsl : ∀ W, (Instr.slice 9 (Value.string r) (some (Value.int IntKind.i64 (k : Int))) none none).run Try.prog W = .ok (.string (r.extract k r.size)) W := fun W => by
          have := run_slice_string_from_if (P := Try.prog) W 9 r .i64 k Try.underlying9
          rw [if_pos ⟨by omega, by omega⟩] at this
          exact this
        have hsz : Hid ((r.extract k r.size).size = r.size - k) := Lib.hid (by rw [ByteArray.size_extract]; omega)
        have hun : (unitsOf [p]).length ≤ 2 ∧ (unitsOf [p]).length ≤ k := by
          have := hal.1
          rw [hbl] at this
          simp only [Atm.units] at this
          have e : unitsOf [p] = units1 p := by simp [unitsOf]
          rw [e]
          exact ⟨by unfold units1; split <;> simp, this⟩
        have HSC := Lib.hid hsc
        have HK := Lib.hid hbl
        have hku : k ≤ r.size := hrs1
        obtain ⟨m1, HM⟩ : ∃ m1, Hid (m1 = (unitsOf [p]).length) := ⟨_, Lib.hid rfl⟩
        rw [← HM.out] at hun
        clear hr2 hr3 hpt hk hbl t0 hsc hp32 hp92 hp34 hal he
        have he : r.toList.isEmpty = false := by
          rw [Go.ByteArray.toList_eq]
          cases h : r.data.toList with
          | nil => have e : r.data.toList.length = r.size := by simp
                   rw [h] at e; simp at e; omega
          | cons x l => rfl
        go_wp2_with fail
        refine (Point_calls r _ (by unfold maxLen; omega)).mono ?_
        rintro e w2 ⟨rfl, rfl⟩
        rw [hv.out]
        go_wp2_with fail
        refine (isSur_no p _ hp1 hsu).mono ?_
        rintro e w2 ⟨rfl, rfl⟩
        clear hsu
        go_wp2
        go_region_held3 (fun w' => True) (first | trivial) (first | (go_at_call 27; refine (units_calls p HSC.out _).mono ?_; rintro e w3 ⟨A3, c3, rfl, k31, k32, k33, k34⟩) | ((have k35 := k34; refine step_append_holds _ (by rfl) (.tmp 80) (.tmp 82) _ (by rfl) w1.heap.size 38 i0 _ 1 2 Try.underlying23 hi0 hz0 hz1 hz3 rfl Nat.one_pos _ n ((unitsA done).map u16I) (by rfl) (own_below (w := w2.drew) hown k34) w3.heap.size A3 (unitsOf [p]).length c3 ((unitsOf [p]).map u16I) (by rfl) (by simp) k33 oneCell_u16 (by simp only [maxLen]; rw [← HM.out]; omega) (by rw [← HM.out]; omega) (by have := k34.size; simp at this; omega) ?_; intro v1 w4 hown4 hg4 hat4)))
        have k34s := k34.size
        have hb4 : Below w1.heap.size w1 w4 := Below.grown ((hb.drew).trans (k34.mono (by simp; omega))) hg4 (by simp at k34s; omega) (own_row_ge hown)
        clear hg4 hat4
        go_wp2
        go_roundw
        case rel => exact ⟨_, done ++ [.plain p], rest, n + m1, rfl, Lib.hid (HR.out.next (HD.out k HK.out.symm)), Lib.hid (by rw [unitsA_snoc, List.length_append, ← HN.out, HM.out]; simp [Atm.units, unitsOf]), by rw [hsz.out]; omega, by rw [unitsA_snoc, List.map_append, HM.out]; simpa [Atm.units, unitsOf] using hown4, hb4⟩
        case measure => simp only [strLen]; rw [hsz.out]; omega
end Go.Proofs.Ytolgpnkofnibjaa
