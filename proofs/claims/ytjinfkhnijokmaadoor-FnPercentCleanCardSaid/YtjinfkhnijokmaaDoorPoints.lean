/- The contracts of 'spec.isSurrogate', 'spec.Points', 'spec.Valid'. -/
import Derived.Test.YtjinfkhnijokmaaDoorPoint
import Derived.Test.YtjinfkhnijokmaaDoorApp
import Derived.Deep.RegionLaw
import Derived.BigQuiet
import Derived.Lib.IndexBytes
namespace Go.Proofs.YtjinfkhnijokmaaDoor
open Go.RowKit Stamp
set_option linter.unusedVariables false

theorem isSur_yes (p : Nat) (w : World) (hp : p ≤ 1114111) (hs : isSur p = true) : Calls Tryd.prog 22 #[.int .i64 (p : Int)] w fun e w' => e = .returned (.bool true) ∧ w' = w := by
  rw [isSur_iff] at hs
  have h1 : (55296 : Int) ≤ (p : Int) := by omega
  have h2 : (p : Int) < 57344 := by omega
  clear hs hp
  go_enter Tryd.func22, Tryd.ntmps22
  go_wp2
  go_ret
  exact ⟨rfl, rfl⟩
theorem isSur_no (p : Nat) (w : World) (hp : p ≤ 1114111) (hs : isSur p = false) : Calls Tryd.prog 22 #[.int .i64 (p : Int)] w fun e w' => e = .returned (.bool false) ∧ w' = w := by
  rw [isSur_not] at hs
  by_cases h : 55296 ≤ p
  · have h1 : (55296 : Int) ≤ (p : Int) := by omega
    have h2 : ¬ (p : Int) < 57344 := by omega
    clear hs hp h
    go_enter Tryd.func22, Tryd.ntmps22
    go_wp2
    go_ret
    exact ⟨rfl, rfl⟩
  · have h1 : ¬ (55296 : Int) ≤ (p : Int) := by omega
    clear hs hp h
    go_enter Tryd.func22, Tryd.ntmps22
    go_wp2
    go_ret
    exact ⟨rfl, rfl⟩

def natI (p : Nat) : Value := .int .i64 (p : Int)
theorem oneCell_nat {l : List Nat} : ∀ u ∈ l.map natI, u.oneCell' = true := by
  intro u hu
  obtain ⟨x, _, rfl⟩ := List.mem_map.1 hu
  rfl

/-- what 'spec.Points' hands back -/
def PtsPost (l : List UInt8) (w : World) (e : Ending) (w' : World) : Prop :=
  Below w.heap.size w w' ∧
  ((points l = none ∧ e = .returned (.tuple #[.slice none 0 0, .bool false])) ∨
   ∃ ps A c, points l = some ps ∧ e = .returned (.tuple #[.slice A ps.length c, .bool true]) ∧ ps.length ≤ c ∧ c ≤ maxLen ∧ ps.length ≤ l.length ∧ Holds w' w'.heap.size A (ps.map natI))

theorem infoInt : (Tryd.prog.info? 3).map (fun i => (i.zero, i.size, i.bytes)) = some (some (.int .i64 0), 1, 8) := by kernel_rfl

theorem drop_len {rest : List UInt8} {p n : Nat} (h : point rest = some (p, n)) : n ≤ rest.length ∧ 1 ≤ n ∧ n ≤ 4 := by
  obtain ⟨_, h2, h3⟩ := point_some rest p n h
  have := enc_len p
  refine ⟨?_, by omega, by omega⟩
  have e := congrArg List.length h3
  rw [List.length_append, List.length_drop] at e
  omega

set_option maxHeartbeats 1000000 in
theorem Points_calls (s : ByteArray) (w : World) (hs : s.size ≤ 8589934592) : Calls Tryd.prog 12 #[.string s] w (PtsPost s.data.toList w) := by
  obtain ⟨i0, hi0, hz0, hz1, hz2⟩ := info_parts infoInt
  go_enter Tryd.func12, Tryd.ntmps12
  go_wp2
  go_loopw [0, 4] (fun t v wr => ∃ (r : ByteArray) (done : List Nat), t = .string r ∧ wr.ownsRow w.heap.size 3 1 v done.length (done.map natI) ∧ Below w.heap.size w wr ∧ Hid (s.data.toList = encAll done ++ r.data.toList) ∧ Hid (∀ p ∈ done, Scalar p) ∧ done.length + r.size ≤ s.size)
    (fun t _ _ => strLen t)
  case atStart => exact ⟨s, [], rfl, World.ownsRow_nil _ _ _ _, Below.refl _ _, Lib.hid rfl, Lib.hid (by simp), by simp⟩
  case round =>
    obtain ⟨r, done, rfl, hown, hb, hl, hd, hsz⟩ := hrel
    by_cases h0 : 0 < r.size
    · obtain ⟨t0, ht0⟩ := bytes_cons r h0
      have he : r.toList.isEmpty = false := by rw [Go.ByteArray.toList_eq, ht0]; rfl
      have hne : Hid (r.data.toList ≠ []) := Lib.hid (by rw [ht0]; simp)
      clear ht0
      have hmx : r.size ≤ maxLen := by unfold maxLen; omega
      cases hp : point r.data.toList with
      | none =>
        have hF := Lib.hid (points_fail hl.out hd.out hne.out (fun p n h => by rw [hp] at h; cases h))
        have hv := Lib.hid (ptV_none hp)
        clear hp
        go_wp2_with fail
        refine (Point_calls r wr hmx).mono ?_
        rintro e w' ⟨rfl, rfl⟩
        rw [hv.out]
        go_wp2
        go_ret2
        exact ⟨hb, .inl ⟨hF.out, rfl⟩⟩
      | some x =>
        obtain ⟨p, n⟩ := x
        have hv := Lib.hid (ptV_some hp)
        have hpn := Lib.hid hp
        obtain ⟨hn1, hn2, hn3⟩ := drop_len hp
        have hp1 := (point_some _ _ _ hp).1
        have hlen : r.data.toList.length = r.size := by simp
        rw [hlen] at hn1
        clear hp hlen
        have hnb : ((p : Int) == -1) = false := by rw [beq_eq_false_iff_ne]; omega
        cases hsur : isSur p with
        | true =>
          have hF := Lib.hid (points_fail hl.out hd.out hne.out (fun q m h => by rw [hpn.out] at h; injection h with h; injection h with h _; rw [← h]; exact hsur))
          go_wp2_with fail
          refine (Point_calls r wr hmx).mono ?_
          rintro e w' ⟨rfl, rfl⟩
          rw [hv.out]
          go_wp2_with fail
          refine (isSur_yes p _ hp1 hsur).mono ?_
          rintro e w'' ⟨rfl, rfl⟩
          go_wp2
          go_ret2
          exact ⟨hb, .inl ⟨hF.out, rfl⟩⟩
        | false =>
          have hM := Lib.hid (points_more hl.out hpn.out)
          have hD := Lib.hid (scalar_more hd.out hpn.out hsur)
          go_wp2_with fail
          refine (Point_calls r wr hmx).mono ?_
          rintro e w' ⟨rfl, rfl⟩
          rw [hv.out]
          go_wp2_with fail
          refine (isSur_no p _ hp1 hsur).mono ?_
          rintro e w'' ⟨rfl, rfl⟩
          clear hsur
          go_wp2
          have hbs := hb.size
          go_region_law (refine step_append_holds _ rfl (.tmp 20) (.tmp 22) _ rfl w.heap.size 3 i0 _ 1 8 Tryd.underlying27 hi0 hz0 hz1 hz2 rfl Nat.one_pos _ done.length (done.map natI) rfl ?c0 (w''.heap.size + 1) _ 1 1 [natI p] rfl rfl ?c1 (oneCell_nat (l := [p])) ?c3 ?c4 ?c2 ?_; (case c0 => exact World.ownsRow.alloc hown _); (case c1 => exact Holds.one _ _ _); (case c3 => simp only [maxLen]; omega); (case c4 => omega); (case c2 => simp; omega); intro v1 w1 hown1 hg1 hat1)
          have hb1 : Below w.heap.size w w1 := Below.grown ((hb.alloc hbs _).drew) hg1 (by simp; omega) (own_row_ge hown)
          have hown2 : w1.ownsRow w.heap.size 3 1 v1 (done ++ [p]).length ((done ++ [p]).map natI) := by
            rw [List.length_append, List.map_append]; exact hown1
          clear hg1 hat1 hown1 hown hb
          have hsz2 : (r.extract n r.size).size = r.size - n := by rw [ByteArray.size_extract]; omega
          have Hs2 := Lib.hid hsz2
          clear hsz2
          simp [Act.put]
          go_wp2
          go_roundw
          case rel => exact ⟨_, done ++ [p], rfl, hown2, hb1, Lib.hid (by rw [Lib.extract_to_end]; exact hM.out), hD, by rw [Hs2.out, List.length_append]; simp; omega⟩
          case measure => simp only [strLen]; rw [Hs2.out]; omega
    · have hl0 := Lib.hid (bytes_nil r h0)
      have he : r.toList = [] := by rw [Go.ByteArray.toList_eq, hl0.out]
      have hF := Lib.hid (points_done (l := s.data.toList) (by rw [← hl0.out]; exact hl.out) hd.out)
      obtain ⟨A, c, rfl, hc1, hc2, hh⟩ := own_form hown
      have hlen : done.length ≤ s.data.toList.length := by
        have e : s.data.toList.length = s.size := by simp
        omega
      have Hlen := Lib.hid hlen
      clear hlen hl hd
      go_wp2
      go_ret2
      exact ⟨hb, .inr ⟨done, A, c, hF.out, rfl, hc1, hc2, Hlen.out, hh⟩⟩

/-- what 'spec.Valid' says -/
def validB (l : List UInt8) : Bool := (points l).isSome
theorem valid_points {l : List UInt8} (h : validB l = true) : ∃ ps, points l = some ps := Option.isSome_iff_exists.1 h

theorem Valid_calls (s : ByteArray) (w : World) (hs : s.size ≤ 8589934592) : Calls Tryd.prog 8 #[.string s] w fun e w' => e = .returned (.bool (validB s.data.toList)) ∧ Below w.heap.size w w' := by
  go_enter Tryd.func8, Tryd.ntmps8
  go_wp2_with fail
  refine (Points_calls s w hs).mono ?_
  rintro e w' ⟨hb, ⟨hn, rfl⟩ | ⟨ps, A, c, hn, rfl, h1, h2, h3, h4⟩⟩
  · have hv := Lib.hid (show validB s.data.toList = false by unfold validB; rw [hn]; rfl)
    clear hn
    go_wp2
    go_ret
    exact ⟨ret_bool hv.out.symm, hb⟩
  · have hv := Lib.hid (show validB s.data.toList = true by unfold validB; rw [hn]; rfl)
    clear hn
    go_wp2
    go_ret
    exact ⟨ret_bool hv.out.symm, hb⟩

end Go.Proofs.YtjinfkhnijokmaaDoor
