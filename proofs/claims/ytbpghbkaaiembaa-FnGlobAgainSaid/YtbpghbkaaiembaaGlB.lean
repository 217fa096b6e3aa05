/- The contracts of 'spec.WithoutStars', 'spec.Runs'. -/
import Derived.Test.YtbpghbkaaiembaaGlA
import Derived.Test.YtbpghbkaaiembaaApp
import Derived.Test.YtbpghbkaaiembaaConv
namespace Go.Proofs.Ytbpghbkaaiembaa
open Go.RowKit Stamp
set_option linter.unusedVariables false

theorem own_form2 {w : World} {base : Nat} {e : TypeId} {size : Nat} {v : Value} {n : Nat} {xs : List Value} (h : w.ownsRow base e size v n xs) :
    ∃ A c, v = .slice A n c ∧ n ≤ c ∧ c ≤ maxLen ∧ Holds w w.heap.size A xs := by
  have hl := h.1
  rcases h.2 with ⟨rfl, rfl⟩ | ⟨g, cap, cur, rfl, _, hg, hnc, hm, hs, ht⟩
  · refine ⟨none, 0, rfl, Nat.le_refl _, Nat.zero_le _, fun hx => ?_⟩
    rw [hl] at hx; simp at hx
  · refine ⟨_, cap, rfl, hnc, hm, fun hx => ⟨g, 0, rfl, ?_, fun j u hu => ?_⟩⟩
    · rcases Nat.lt_or_ge g w.heap.size with h1 | h1
      · exact h1
      · rw [Array.getElem?_eq_none h1] at hg; cases hg
    · rw [Nat.zero_add, cell_of_row w g j cur e (0, 0) hg]
      rw [← ht, List.getElem?_take] at hu
      split at hu
      · simpa using hu
      · cases hu
theorem infoB : (Try.prog.info? 5).map (fun i => (i.zero, i.size, i.bytes)) = some (some (.int .u8 0), 1, 1) := by kernel_rfl
theorem infoRun : (Try.prog.info? 27).map (fun i => (i.zero, i.size, i.bytes)) = some (some (.agg #[.int .i64 0, .int .i64 0]), 2, 16) := by kernel_rfl
theorem bytesV_snoc (l : List UInt8) (c : UInt8) : bytesV (l ++ [c]) = bytesV l ++ [.int .u8 (c.toNat : Int)] := by simp [bytesV]
theorem oneCell_bytesV {l : List UInt8} : ∀ u ∈ bytesV l, u.oneCell' = true := by
  intro u hu
  obtain ⟨x, _, rfl⟩ := List.mem_map.1 hu
  rfl
theorem starless_snoc {l : List UInt8} {k : Nat} {x : UInt8} (hx : l[k]? = some x) : starless (l.take (k + 1)) = if x = 42 then starless (l.take k) else starless (l.take k) ++ [x] := by
  rw [List.take_add_one, hx, starless_append]
  by_cases h : x = 42
  · rw [if_pos h, h]; simp [starless]
  · rw [if_neg h]; simp [starless, h]
theorem starless_len (l : List UInt8) : (starless l).length ≤ l.length := List.length_filter_le _ _

set_option maxRecDepth 100000 in
set_option maxHeartbeats 1000000 in
theorem Without_calls (s : ByteArray) (hs : s.size ≤ 2147483647) (w : World) : Calls Try.prog 11 #[.string s] w fun e w' => e = .returned (.string ⟨(starless s.data.toList).toArray⟩) ∧ Below w.heap.size w w' := by
  obtain ⟨i0, hi0, hz0, hz1, hz2⟩ := info_parts infoB
  go_enter Try.func11, Try.ntmps11
  go_wp2
  go_loopw [3, 7] (fun v i wr => ∃ k : Nat, k ≤ s.size ∧ i = .int .i64 k ∧ wr.ownsRow w.heap.size 5 1 v (starless (s.data.toList.take k)).length (bytesV (starless (s.data.toList.take k))) ∧ Below w.heap.size w wr) (fun _ i _ => s.size - (intOf i).toNat)
  case atStart => exact ⟨0, Nat.zero_le _, rfl, World.ownsRow_nil _ _ _ _, Below.refl _ _⟩
  case round =>
    obtain ⟨k, hk, rfl, hown, hb⟩ := hrel
    have hl1 := starless_len (s.data.toList.take k)
    have hl2 : (s.data.toList.take k).length ≤ k := List.length_take_le _ _
    have hbs := hb.size
    by_cases hlt : k < s.size
    · have hlt' : (k : Int) < (s.size : Int) := by omega
      have HX := Lib.hid (starless_snoc (Lib.data_getElem? s k hlt))
      by_cases hc : s[k] = 42
      · have ht : ((s[k].toNat : Int) != 42) = false := by rw [hc]; rfl
        have HY := Lib.hid (show starless (s.data.toList.take (k + 1)) = starless (s.data.toList.take k) by rw [HX.out, if_pos hc])
        clear hc
        go_wp2
        go_roundw
        case rel => exact ⟨k + 1, by omega, by go_num, by rw [HY.out]; exact hown, hb⟩
        case measure => simp [intOf]; omega
      · have ht : ((s[k].toNat : Int) != 42) = true := by
          rw [bne_iff_ne]; intro h; exact hc (UInt8.toNat_inj.1 (by show s[k].toNat = 42; omega))
        have HY := Lib.hid (show starless (s.data.toList.take (k + 1)) = starless (s.data.toList.take k) ++ [s[k]] by rw [HX.out, if_neg hc])
        clear hc HX
        obtain ⟨x, hx⟩ : ∃ x, x = s[k] := ⟨_, rfl⟩
        go_wp2_with (at_builtin
                     refine wpList_append_holds _ rfl (.tmp 14) (.tmp 18) _ rfl w.heap.size 5 i0 _ 1 1 Try.underlying41 hi0 hz0 hz1 hz2 rfl (by omega) _ _ _ rfl (hown.alloc _) (wr.heap.size + 1) _ 1 1 [.int .u8 (s[k].toNat : Int)] rfl rfl (Holds.one _ _ _) (oneCell_bytesV (l := [s[k]])) (by simp only [maxLen]; omega) (by omega) (by simp; omega) ?_
                     intro v1 w4 hown4 hg4 hat4)
        have hb4 := Below.grown (hb.alloc hbs (.cells #[.int .u8 (s[k].toNat : Int)] 5)) hg4 (by simp; omega) (own_row_ge hown)
        exact ⟨⟨k + 1, by omega, by go_num, by rw [HY.out, bytesV_snoc, List.length_append]; exact hown4, hb4⟩, by simp [intOf]; omega⟩
    · have HT := Lib.hid (show s.data.toList.take k = s.data.toList from List.take_of_length_le (by simp; show s.size ≤ k; omega))
      rw [HT.out] at hown
      obtain ⟨A1, c1, rfl, hc1, hc2, hh⟩ := own_form hown
      have hcv := fun W' (hW : W' = wr) => run_bytes_text (P := Try.prog) W' 41 9 5 Try.underlying41 Try.underlying5 Try.underlying9 wr.heap.size A1 (starless s.data.toList).length c1 (starless s.data.toList) rfl (by rw [hW]; exact hh)
      have hcv2 := hcv wr rfl
      clear hcv
      go_wp2
      go_ret
      exact ⟨rfl, hb⟩

theorem drop_one {E : List (List UInt8 × Nat)} {t : List UInt8} (h : okParts E t) (h1 : ∀ x ∈ E, x.1 ≠ []) (a : Nat) : ∃ E' t', (flat E t).drop 1 = flat E' t' ∧ okParts E' t' ∧ runsOf (a + 1) E' = runsOf a E := by
  match E, h, h1 with
  | [], h, _ => exact ⟨[], t.drop 1, rfl, ⟨by simp, fun hm => h.2.1 (List.mem_of_mem_drop hm), by simp⟩, rfl⟩
  | (c :: p, n) :: E, h, _ =>
    refine ⟨(p, n) :: E, t, rfl, ⟨fun y hy => ?_, h.2.1, fun y hy => h.2.2 y hy⟩, by simp [runsOf, Nat.add_comm, Nat.add_left_comm]⟩
    rcases List.mem_cons.1 hy with rfl | hy
    · have := h.1 (c :: p, n) (by simp)
      exact ⟨fun hm => this.1 (by simp [hm]), this.2⟩
    · exact h.1 y (by simp [hy])
  | ([], n) :: E, _, h1 => exact absurd rfl (h1 ([], n) (by simp))
theorem head_not {E : List (List UInt8 × Nat)} {t : List UInt8} (h : okParts E t) (h1 : ∀ x ∈ E, x.1 ≠ []) : (flat E t).head? ≠ some 42 := by
  match E, h, h1 with
  | [], h, _ =>
    intro e
    match t, e with
    | c :: t, e => simp [flat] at e; exact h.2.1 (by simp [e])
  | (c :: p, n) :: E, h, _ =>
    intro e
    simp [flat] at e
    exact (h.1 (c :: p, n) (by simp)).1 (by simp [e])
  | ([], n) :: E, _, h1 => exact absurd rfl (h1 ([], n) (by simp))
theorem all_ne {E : List (List UInt8 × Nat)} {t : List UInt8} {c : UInt8} (h : okParts E t) (h0 : (flat E t).head? = some c) (hc : c ≠ 42) : ∀ x ∈ E, x.1 ≠ [] := by
  match E, h, h0 with
  | [], _, _ => intro x hx; cases hx
  | ([], 0) :: E, h, _ => exact absurd (h.1 ([], 0) (by simp)).2 (by decide)
  | ([], n + 1) :: E, h, h0 => simp [flat, List.replicate_succ] at h0; exact absurd h0.symm hc
  | (d :: p, n) :: E, h, _ =>
    intro x hx
    rcases List.mem_cons.1 hx with rfl | hx
    · simp
    · exact h.2.2 x hx
theorem star_first {E : List (List UInt8 × Nat)} {t : List UInt8} (h : okParts E t) (h0 : (flat E t).head? = some 42) : ∃ c E2, E = ([], c) :: E2 ∧ flat E t = List.replicate c 42 ++ flat E2 t ∧ 1 ≤ c ∧ okParts E2 t ∧ ∀ x ∈ E2, x.1 ≠ [] := by
  match E, h, h0 with
  | [], h, h0 =>
    match t, h0 with
    | c :: t, h0 => simp [flat] at h0; exact absurd (by simp [h0]) h.2.1
  | ([], n) :: E, h, _ => exact ⟨n, E, rfl, rfl, (h.1 ([], n) (by simp)).2, h.tail, fun x hx => h.2.2 x hx⟩
  | (d :: p, n) :: E, h, h0 => simp [flat] at h0; exact absurd (by simp [h0]) (h.1 (d :: p, n) (by simp)).1
theorem run_at {l R : List UInt8} {i c m : Nat} (h : l.drop i = List.replicate c 42 ++ R) (hm : m < c) : l[i + m]? = some 42 := by
  rw [← List.getElem?_drop, h, List.getElem?_append_left (by simpa using hm)]
  simp [hm]
theorem run_end {l R : List UInt8} {i c : Nat} (h : l.drop i = List.replicate c 42 ++ R) : l[i + c]? = R.head? := by
  rw [← List.getElem?_drop, h, List.getElem?_append_right (by simp)]
  simp [List.head?_eq_getElem?]
theorem byte_of {s : ByteArray} {k : Nat} {c : UInt8} (h : s.data.toList[k]? = some c) : ∃ hk : k < s.size, s[k] = c := by
  have hk : k < s.size := by
    rcases Nat.lt_or_ge k s.size with h1 | h1
    · exact h1
    · have e : s.data.toList.length = s.size := by simp
      rw [List.getElem?_eq_none (by omega)] at h; cases h
  refine ⟨hk, ?_⟩
  rw [Lib.data_getElem? s k hk] at h
  injection h
theorem head_at {l : List UInt8} {i : Nat} : (l.drop i).head? = l[i]? := by rw [List.head?_eq_getElem?, List.getElem?_drop, Nat.add_zero]

def runCells (l : List (Nat × Nat)) : List Value := l.flatMap fun r => [.int .i64 (r.1 : Int), .int .i64 (r.2 : Int)]
theorem runCells_snoc (l : List (Nat × Nat)) (r : Nat × Nat) : runCells (l ++ [r]) = runCells l ++ [.int .i64 (r.1 : Int), .int .i64 (r.2 : Int)] := by simp [runCells]
theorem runCells_len (l : List (Nat × Nat)) : (runCells l).length = l.length * 2 := by
  induction l with
  | nil => rfl
  | cons r l ih => simp [runCells] at ih ⊢; omega
theorem oneCell_two {a b : Int} : ∀ u ∈ [Value.int .i64 a, Value.int .i64 b], u.oneCell' = true := by
  intro u hu
  simp only [List.mem_cons, List.not_mem_nil, or_false] at hu
  rcases hu with rfl | rfl <;> rfl
theorem Holds.pair (w : World) (x y : Value) (t : TypeId) {g : Nat} (hg : g = w.heap.size) : Holds (w.alloc (.cells #[x, y] t)) (g + 1) (some ⟨g, 0, none⟩) [x, y] := by
  subst hg
  exact fun _ => ⟨w.heap.size, 0, rfl, by omega, fun j u hu => cell_new w #[x, y] t w.heap.size (0 + j) u rfl (by rw [Nat.zero_add]; simpa using hu)⟩

/-- what the loop of 'spec.Runs' keeps -/
def RunsRel (l : List UInt8) (all : List (Nat × Nat)) (i : Nat) (done : List (Nat × Nat)) : Prop :=
  ∃ E t, l.drop i = flat E t ∧ okParts E t ∧ done ++ runsOf i E = all ∧ done.length ≤ i ∧ i ≤ l.length + 1
theorem RunsRel.step {l : List UInt8} {all done : List (Nat × Nat)} {i : Nat} {x : UInt8} (h : RunsRel l all i done) (hx : l[i]? = some x) (hne : x ≠ 42) : RunsRel l all (i + 1) done := by
  obtain ⟨E, t, h1, h2, h3, h4, h5⟩ := h
  obtain ⟨E', t', k1, k2, k3⟩ := drop_one h2 (all_ne h2 (by rw [← h1, head_at, hx]) hne) i
  have hi : i < l.length := by
    rcases Nat.lt_or_ge i l.length with h1 | h1
    · exact h1
    · rw [List.getElem?_eq_none h1] at hx; cases hx
  exact ⟨E', t', by rw [← List.drop_drop, h1, k1], k2, by rw [k3, h3], by omega, by omega⟩
theorem RunsRel.run {l : List UInt8} {all done : List (Nat × Nat)} {i : Nat} (h : RunsRel l all i done) (hx : l[i]? = some 42) :
    ∃ c, 1 ≤ c ∧ i + c ≤ l.length ∧ (∀ m, m < c → l[i + m]? = some 42) ∧ l[i + c]? ≠ some 42 ∧ RunsRel l all (i + c + 1) (done ++ [(i, c)]) := by
  obtain ⟨E, t, h1, h2, h3, h4, h5⟩ := h
  obtain ⟨c, E2, rfl, k1, k2, k3, k4⟩ := star_first h2 (by rw [← h1, head_at, hx])
  rw [k1] at h1
  obtain ⟨E', t', j1, j2, j3⟩ := drop_one k3 k4 (i + c)
  have hle : i + c ≤ l.length := by
    have := run_at h1 (m := c - 1) (by omega)
    rcases Nat.lt_or_ge (i + (c - 1)) l.length with h1 | h1
    · omega
    · rw [List.getElem?_eq_none h1] at this; cases this
  refine ⟨c, k2, hle, fun m hm => run_at h1 hm, by rw [run_end h1]; exact head_not k3 k4, E', t', ?_, j2, ?_, by simp; omega, by omega⟩
  · rw [show i + c + 1 = i + (c + 1) by omega, ← List.drop_drop, h1, ← List.drop_drop, List.drop_left' (by simp), j1]
  · rw [j3, ← h3]; simp [runsOf]
theorem RunsRel.finish {l : List UInt8} {all done : List (Nat × Nat)} {i : Nat} (h : RunsRel l all i done) (hi : l.length ≤ i) : done = all := by
  obtain ⟨E, t, h1, h2, h3, h4, h5⟩ := h
  rw [List.drop_eq_nil_of_le hi] at h1
  match E, h1, h2, h3 with
  | [], _, _, h3 => simpa [runsOf] using h3
  | (p, n) :: E, h1, h2, _ =>
    have := (h2.1 (p, n) (by simp)).2
    have e := congrArg List.length h1
    simp [flat] at e
    omega

set_option maxRecDepth 100000 in
set_option maxHeartbeats 2000000 in
theorem Runs_calls (s : ByteArray) (hs : s.size ≤ 2147483647) (D : List (List UInt8 × Nat)) (t : List UInt8) (hl : s.data.toList = flat D t) (hD : okParts D t) (w : World) :
    Calls Try.prog 8 #[.string s] w fun e w' => ∃ A c, e = .returned (.slice A (runsOf 0 D).length c) ∧ (runsOf 0 D).length ≤ c ∧ c ≤ maxLen ∧ Holds w' w'.heap.size A (runCells (runsOf 0 D)) ∧ Below w.heap.size w w' := by
  obtain ⟨i0, hi0, hz0, hz1, hz2⟩ := info_parts infoRun
  have hR : Hid (RunsRel s.data.toList (runsOf 0 D) 0 []) := Lib.hid ⟨D, t, by rw [List.drop_zero, hl], hD, rfl, Nat.le_refl _, by omega⟩
  generalize hall : runsOf 0 D = all at *
  clear hall hl hD
  have hsz : Hid (s.data.toList.length = s.size) := Lib.hid (by simp)
  go_enter Try.func8, Try.ntmps8
  go_wp2
  go_loopw [3, 4] (fun v vi wr => ∃ (i : Nat) (done : List (Nat × Nat)), vi = .int .i64 i ∧ i ≤ s.size + 1 ∧ done.length ≤ i ∧ Hid (RunsRel s.data.toList all i done) ∧ wr.ownsRow w.heap.size 27 2 v done.length (runCells done) ∧ Below w.heap.size w wr) (fun _ vi _ => s.size + 1 - (intOf vi).toNat)
  case atStart => exact ⟨0, [], rfl, by omega, Nat.le_refl _, hR, World.ownsRow_nil _ _ _ _, Below.refl _ _⟩
  case round =>
    clear hR
    obtain ⟨i, done, rfl, hi, hdl, HR, hown, hb⟩ := hrel
    have hbs := hb.size
    by_cases hlt : i < s.size
    · have hlt' : (i : Int) < (s.size : Int) := by omega
      by_cases hc : s[i] = 42
      · have ht : ((s[i].toNat : Int) == 42) = true := by rw [hc]; rfl
        have hx : s.data.toList[i]? = some 42 := by rw [Lib.data_getElem? s i hlt, hc]
        obtain ⟨c, hc1, hc2, hc3, hc4, HR2⟩ := HR.out.run hx
        rw [hsz.out] at hc2
        have HR3 := Lib.hid HR2
        have H3 := Lib.hid hc3
        have H4 := Lib.hid hc4
        clear hc hx HR2 hc3 hc4 HR
        go_wp2
        go_loop [5] (fun n => ∃ m : Nat, 1 ≤ m ∧ m ≤ c ∧ n = .int .i64 m) (fun n => c - (intOf n).toNat)
        case atStart => exact ⟨1, Nat.le_refl _, hc1, rfl⟩
        case round =>
          obtain ⟨m, hm1, hm2, rfl⟩ := hrel
          by_cases hm : m < c
          · obtain ⟨hk, hx⟩ := byte_of (H3.out m hm)
            have hk' : (i : Int) + (m : Int) < (s.size : Int) := by omega
            have ht2 : ((s[i + m].toNat : Int) == 42) = true := by rw [hx]; rfl
            clear hx
            go_wp2
            go_round
            case rel => exact ⟨m + 1, by omega, by omega, by go_num⟩
            case measure => simp [intOf]; omega
          · obtain rfl : m = c := by omega
            by_cases hz : i + m < s.size
            · have hk' : (i : Int) + (m : Int) < (s.size : Int) := by omega
              have ht2 : ((s[i + m].toNat : Int) == 42) = false := by
                rw [beq_eq_false_iff_ne]; intro h
                exact H4.out (by rw [Lib.data_getElem? s _ hz]; exact congrArg some (UInt8.toNat_inj.1 (by show s[i + m].toNat = 42; omega)))
              go_wp2_with (at_builtin
                           refine wpList_append_holds _ rfl (.tmp 32) (.tmp 36) _ rfl w.heap.size 27 i0 _ 2 16 Try.underlying24 hi0 hz0 hz1 hz2 rfl (by omega) _ done.length _ rfl (hown.alloc _) (wr.heap.size + 1) _ 1 1 [.int .i64 (i : Int), .int .i64 (m : Int)] rfl rfl (Holds.pair _ _ _ _ rfl) oneCell_two (by simp only [maxLen]; omega) (by omega) (by simp; omega) ?_
                           intro v1 w4 hown4 hg4 hat4)
              have hb4 := Below.grown (hb.alloc hbs (.cells #[.int .i64 (i : Int), .int .i64 (m : Int)] 27)) hg4 (by simp; omega) (own_row_ge hown)
              exact ⟨⟨i + m + 1, done ++ [(i, m)], by go_num, by omega, by simp; omega, HR3, by rw [runCells_snoc, List.length_append]; exact hown4, hb4⟩, by simp [intOf]; omega⟩
            · have hk' : decide ((i : Int) + (m : Int) < (s.size : Int)) = false := by simp; omega
              go_wp2_with (at_builtin
                           refine wpList_append_holds _ rfl (.tmp 32) (.tmp 36) _ rfl w.heap.size 27 i0 _ 2 16 Try.underlying24 hi0 hz0 hz1 hz2 rfl (by omega) _ done.length _ rfl (hown.alloc _) (wr.heap.size + 1) _ 1 1 [.int .i64 (i : Int), .int .i64 (m : Int)] rfl rfl (Holds.pair _ _ _ _ rfl) oneCell_two (by simp only [maxLen]; omega) (by omega) (by simp; omega) ?_
                           intro v1 w4 hown4 hg4 hat4)
              have hb4 := Below.grown (hb.alloc hbs (.cells #[.int .i64 (i : Int), .int .i64 (m : Int)] 27)) hg4 (by simp; omega) (own_row_ge hown)
              exact ⟨⟨i + m + 1, done ++ [(i, m)], by go_num, by omega, by simp; omega, HR3, by rw [runCells_snoc, List.length_append]; exact hown4, hb4⟩, by simp [intOf]; omega⟩
      · have ht : ((s[i].toNat : Int) == 42) = false := by
          rw [beq_eq_false_iff_ne]; intro h; exact hc (UInt8.toNat_inj.1 (by show s[i].toNat = 42; omega))
        have HR2 := Lib.hid (HR.out.step (Lib.data_getElem? s i hlt) hc)
        clear hc HR
        go_wp2
        go_roundw
        case rel => exact ⟨i + 1, done, by go_num, by omega, by omega, HR2, hown, hb⟩
        case measure => simp [intOf]; omega
    · obtain rfl : done = all := HR.out.finish (by rw [hsz.out]; omega)
      obtain ⟨A1, c1, rfl, hc1, hc2, hh⟩ := own_form2 hown
      go_wp2
      go_ret
      exact ⟨A1, c1, rfl, hc1, hc2, hh, hb⟩
end Go.Proofs.Ytbpghbkaaiembaa
