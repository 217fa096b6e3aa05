/- The contract of 'spec.Units': the units of a text in UTF-8. -/
import Derived.Test.YtolgpnkofnibjaaPoints
import Derived.Test.YtolgpnkofnibjaaDwB
namespace Go.Proofs.Ytolgpnkofnibjaa
open Go.RowKit Stamp
set_option linter.unusedVariables false

def u16I (c : Nat) : Value := .int .u16 (c : Int)
theorem oneCell_u16 {l : List Nat} : ∀ u ∈ l.map u16I, u.oneCell' = true := by
  intro u hu
  obtain ⟨x, _, rfl⟩ := List.mem_map.1 hu
  rfl
theorem infoU16 : (Try.prog.info? 38).map (fun i => (i.zero, i.size, i.bytes)) = some (some (.int .u16 0), 1, 2) := by kernel_rfl
theorem Holds.two (w : World) (x y : Value) (t : TypeId) : Holds (w.alloc (.cells #[x, y] t)) (w.heap.size + 1) (some ⟨w.heap.size, 0, none⟩) [x, y] := fun _ =>
  ⟨w.heap.size, 0, rfl, by omega, fun j u hu => cell_new w #[x, y] t w.heap.size (0 + j) u rfl (by rw [Nat.zero_add]; simpa using hu)⟩

/-- what hands back units -/
def UnitsPost (ps : List Nat) (w : World) (e : Ending) (w' : World) : Prop :=
  ∃ A c, e = .returned (.slice A (unitsOf ps).length c) ∧ (unitsOf ps).length ≤ c ∧ c ≤ maxLen ∧ Holds w' w'.heap.size A ((unitsOf ps).map u16I) ∧ Below w.heap.size w w'

theorem units_snoc1 {done : List Nat} {p : Nat} (h : p < 65536) : unitsOf (done ++ [p]) = unitsOf done ++ [p] := by
  rw [unitsOf_append]; simp [unitsOf, units1, h]
theorem units_snoc2 {done : List Nat} {p : Nat} (h : ¬ p < 65536) : unitsOf (done ++ [p]) = unitsOf done ++ [55296 + (p - 65536) / 1024, 56320 + (p - 65536) % 1024] := by
  rw [unitsOf_append]; simp [unitsOf, units1, h]
theorem units_len (ps : List Nat) : (unitsOf ps).length ≤ 2 * ps.length := by
  induction ps with
  | nil => simp [unitsOf]
  | cons p r ih =>
    simp only [unitsOf, List.length_append, List.length_cons]
    have : (units1 p).length ≤ 2 := by unfold units1; split <;> simp
    omega
theorem take_get {ps : List Nat} {k p : Nat} (h : ps[k]? = some p) : ps.take (k + 1) = ps.take k ++ [p] := by
  rw [List.take_add_one, h]; rfl

set_option maxRecDepth 100000 in
set_option maxHeartbeats 1000000 in
theorem Units_calls (s : ByteArray) (ps : List Nat) (hl : s.data.toList = encAll ps) (hps : ∀ p ∈ ps, Scalar p) (hs : s.size ≤ 8589934592) (w : World) :
    Calls Try.prog 14 #[.string s] w (UnitsPost ps w) := by
  have Hpt := Lib.hid ((points_some_iff s.data.toList ps).2 ⟨hl, hps⟩)
  have hbd := Lib.hid (fun p hp => (hps p hp).1 : ∀ p ∈ ps, p ≤ 1114111)
  obtain ⟨i0, hi0, hz0, hz1, hz2⟩ := info_parts infoU16
  clear hl hps
  go_enter Try.func14, Try.ntmps14
  go_wp2_with fail
  refine (Points_calls s w hs).mono ?_
  rintro e w1 ⟨hb, ⟨hn, rfl⟩ | ⟨ps', A, c, hn, rfl, h1, h2, h3, h4⟩⟩
  · have := Hpt.out
    rw [hn] at this; cases this
  · obtain rfl : ps' = ps := by have := Hpt.out; rw [hn] at this; injection this
    have hsz : s.data.toList.length = s.size := by simp
    have hn3 : ps'.length ≤ 8589934592 := by omega
    clear hn h3 h2 hsz
    go_wp2
    go_loopw [3, 15] (fun v i wr => ∃ k : Nat, k ≤ ps'.length ∧ i = .int .i64 k ∧ wr.ownsRow w1.heap.size 38 1 v (unitsOf (ps'.take k)).length ((unitsOf (ps'.take k)).map u16I) ∧ Below w1.heap.size w1 wr) (fun _ i _ => ps'.length - (intOf i).toNat)
    case atStart => exact ⟨0, Nat.zero_le _, rfl, World.ownsRow_nil _ _ _ _, Below.refl _ _⟩
    case round =>
      obtain ⟨k, hk, rfl, hown, hb1⟩ := hrel
      by_cases hlt : k < ps'.length
      · obtain ⟨b1, o1, p, rfl, hbl, hx, hc1⟩ := h4.atMap (k := k) hlt
        have hc2 : wr.cell? ⟨b1, o1 + k, none⟩ = some (.int .i64 (p : Int)) := (hb1.cell hbl).trans hc1
        have HX := Lib.hid hx
        have hp1 := hbd.out p (List.mem_of_getElem? hx)
        have hul := units_len (ps'.take k)
        have htl : (ps'.take k).length ≤ k := List.length_take_le _ _
        have hbs := hb1.size
        clear hx h4 hc1
        by_cases hbig : p < 65536
        · have hbig' : (p : Int) < 65536 := by omega
          have HS := Lib.hid (show unitsOf (ps'.take (k + 1)) = unitsOf (ps'.take k) ++ [p] by rw [take_get HX.out]; exact units_snoc1 hbig)
          go_wp2_with (at_builtin
                       refine wpList_append_holds _ rfl (.tmp 21) (.tmp 24) _ rfl w1.heap.size 38 i0 _ 1 2 Try.underlying23 hi0 hz0 hz1 hz2 rfl (by omega) _ (unitsOf (ps'.take k)).length ((unitsOf (ps'.take k)).map u16I) rfl (hown.alloc _) (wr.heap.size + 1) _ 1 1 [u16I p] rfl rfl (Holds.one _ _ _) (oneCell_u16 (l := [p])) (by simp only [maxLen]; omega) (by omega) (by simp; omega) ?_
                       intro v1 w4 hown4 hg4 hat4)
          have hb4 := Below.grown (hb1.alloc hbs (.cells #[u16I p] 38)) hg4 (by simp; omega) (own_row_ge hown)
          have hown5 : w4.ownsRow w1.heap.size 38 1 v1 (unitsOf (ps'.take (k + 1))).length ((unitsOf (ps'.take (k + 1))).map u16I) := by
            rw [HS.out, List.length_append, List.map_append]; exact hown4
          refine ⟨⟨k + 1, by omega, by go_num, hown5, hb4⟩, ?_⟩
          simp [intOf]; omega
        · have hbig' : (65535 : Int) < (p : Int) := by omega
          have hdd : decide ((p : Int) < 65536) = false := by simp; omega
          obtain ⟨x, y, hx, hy, hx2, hy2, HS⟩ : ∃ x y : Nat, (55296 : Int) + ((p : Int) - 65536) / 1024 = (x : Int) ∧ (56320 : Int) + ((p : Int) - 65536) % 1024 = (y : Int) ∧ x ≤ 56319 ∧ y ≤ 57343 ∧ Hid (unitsOf (ps'.take (k + 1)) = unitsOf (ps'.take k) ++ [x, y]) :=
            ⟨55296 + (p - 65536) / 1024, 56320 + (p - 65536) % 1024, by omega, by omega, by omega, by omega, Lib.hid (by rw [take_get HX.out, units_snoc2 hbig])⟩
          clear hbig
          go_wp2_with (at_builtin
                       refine wpList_append_holds _ rfl (.tmp 26) (.tmp 37) _ rfl w1.heap.size 38 i0 _ 1 2 Try.underlying23 hi0 hz0 hz1 hz2 rfl (by omega) _ (unitsOf (ps'.take k)).length ((unitsOf (ps'.take k)).map u16I) rfl (hown.alloc _) (wr.heap.size + 1) _ 2 2 [u16I x, u16I y] rfl rfl (Holds.two _ _ _ _) (oneCell_u16 (l := [x, y])) (by simp only [maxLen]; omega) (by omega) (by simp; omega) ?_
                       intro v1 w4 hown4 hg4 hat4)
          have hb4 := Below.grown (hb1.alloc hbs (.cells #[u16I x, u16I y] 38)) hg4 (by simp; omega) (own_row_ge hown)
          have hown5 : w4.ownsRow w1.heap.size 38 1 v1 (unitsOf (ps'.take (k + 1))).length ((unitsOf (ps'.take (k + 1))).map u16I) := by
            rw [HS.out, List.length_append, List.map_append]; exact hown4
          refine ⟨⟨k + 1, by omega, by go_num, hown5, hb4⟩, ?_⟩
          simp [intOf]; omega
      · have HT := Lib.hid (show ps'.take k = ps' from List.take_of_length_le (by omega))
        rw [HT.out] at hown
        obtain ⟨A1, c1, rfl, hc1, hc2, hh⟩ := own_form hown
        go_wp2
        go_ret
        exact ⟨A1, c1, rfl, hc1, hc2, hh, hb.trans (hb1.mono hb.size)⟩
end Go.Proofs.Ytolgpnkofnibjaa
