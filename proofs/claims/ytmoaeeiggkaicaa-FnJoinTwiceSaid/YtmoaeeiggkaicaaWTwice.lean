/- The walk of 'laws.FnJoinTwice'. -/
import Derived.Test.YtmoaeeiggkaicaaWNothing
import Derived.Deep.RegionHeld3
namespace Go.Proofs.Ytmoaeeiggkaicaa
open Go.RowKit Stamp
set_option linter.unusedVariables false

theorem stCells_len' (l : List (Int × ByteArray)) : (stCells l).length = l.length * 2 := by rw [stCells_len]; omega
theorem oneCell_st (l : List (Int × ByteArray)) : ∀ u ∈ stCells l, u.oneCell' = true := by
  intro u hu
  simp only [stCells, List.mem_flatMap] at hu
  obtain ⟨x, _, hu⟩ := hu
  simp only [List.mem_cons, List.not_mem_nil, or_false] at hu
  rcases hu with rfl | rfl <;> rfl

theorem great_false2 {l : List (Int × ByteArray)} (h : greatB l = false) : weight l ≤ 16777216 := by
  unfold greatB at h
  have h2 : ¬ 16777216 < weight l := by simpa using h
  omega
theorem infoST : (Try.prog.info? 29).map (fun i => (i.zero, i.size, i.bytes)) = some (some (.agg #[.int .i64 0, .string ⟨#[]⟩]), 2, 24) := by kernel_rfl

set_option maxRecDepth 100000 in
set_option maxHeartbeats 4000000 in
theorem Twice_walk (A : Option Addr) (len cap : Nat) (l : List (Int × ByteArray)) (hl : l.length = len) (hc : len ≤ cap) (hm : cap ≤ maxLen) (W : World) (hh : Holds W W.heap.size A (stCells l)) :
    Calls Try.prog 6 #[.slice A len cap] W fun e W' => e = .returned (.bool true) ∧ Below W.heap.size W W' := by
  subst hl
  have hm2 : l.length ≤ 9223372036854775807 := by have : maxLen ≤ 9223372036854775807 := by decide
                                                  omega
  have HH := Lib.hid hh
  clear hh
  go_enter Try.func6, Try.ntmps6
  go_wp2_with fail
  refine (fits2_calls A cap l W HH.out hm2).mono ?_
  rintro e w1 ⟨b1, rfl, hl, hb⟩
  have hbs := hb.size
  cases b1 with
  | false =>
    go_wp2
    go_ret
    exact ⟨rfl, hb⟩
  | true =>
    have hl2 : l.length ≤ 2147483647 := hl rfl
    go_wp2_with fail
    refine (great_calls A cap l w1 ((HH.out.below hb).more hbs) hl2).mono ?_
    rintro e w2 ⟨rfl, hb2⟩
    have hb3 := hb.trans (hb2.mono hbs)
    have hb3s := hb3.size
    clear hb hb2
    cases hg : greatB l with
    | true =>
      go_wp2
      go_ret
      exact ⟨rfl, hb3⟩
    | false =>
      obtain ⟨hw, hk1⟩ := great_false hg
      have HW := Lib.hid hw
      have HK := Lib.hid hk1
      obtain ⟨i0, hi0, hz0, hz1, hz2⟩ := info_parts infoST
      have HW2 := Lib.hid (great_false2 hg)
      have hll := Nat.le_trans (weight_len l) hw
      clear hw hk1 hg
      go_upto_region 6 with fail
      have hX := hb3.alloc hb3s (.cells #[.int .i64 2, .string ⟨#[]⟩] 29)
      have c0 : (w2.alloc (.cells #[.int .i64 2, .string ⟨#[]⟩] 29)).cell? ⟨w2.heap.size, 0, none⟩ = some (.int .i64 2) := (Blk.new w2 29 _).cell 0
      have c1 : (w2.alloc (.cells #[.int .i64 2, .string ⟨#[]⟩] 29)).cell? ⟨w2.heap.size, 1, none⟩ = some (.string ⟨#[]⟩) := (Blk.new w2 29 _).cell 1
      have hpX : w2.heap.size < (w2.alloc (.cells #[.int .i64 2, .string ⟨#[]⟩] 29)).heap.size := by simp
      generalize (w2.alloc (.cells #[.int .i64 2, .string ⟨#[]⟩] 29)) = X at *
      generalize w2.heap.size = p at *
      have hXs := hX.size
      have stL := Lib.hid (stCells_len' l)
      have HX := Lib.hid hX
      clear hX hb3
      obtain ⟨l2, Hl2⟩ : ∃ l2, l2 = l ++ [(0, ⟨#[97]⟩), (2, ⟨#[]⟩)] := ⟨_, rfl⟩
      have HWE := Lib.hid (show weight l2 ≤ 16777219 by
        rw [Hl2, weight_append]
        have : weight [((0 : Int), ByteArray.mk #[97]), (2, ⟨#[]⟩)] = 3 := by decide
        have := HW2.out
        omega)
      have HLL := Lib.hid (show l2.length ≤ 16777219 from Nat.le_trans (weight_len l2) HWE.out)
      have HK2 := Lib.hid (show ∀ x ∈ l2, x.2.size ≤ 16777216 by
        intro x hx
        rw [Hl2] at hx
        rcases List.mem_append.1 hx with h | h
        · exact HK.out x h
        · simp only [List.mem_cons, List.not_mem_nil, or_false] at h
          rcases h with rfl | rfl <;> decide)
      have e4 := Lib.hid (show [] ++ stCells l ++ [.int .i64 0, .string ⟨#[97]⟩, .int .i64 2, .string ⟨#[]⟩] = stCells l2 by rw [Hl2]; simp [stCells])
      have e5 := Lib.hid (show 0 + l.length + 2 = l2.length by rw [Hl2]; simp)
      obtain ⟨l3, Hl3⟩ : ∃ l3, l3 = l2 ++ [(2, ⟨#[]⟩)] := ⟨_, rfl⟩
      have HWF := Lib.hid (show weight l3 ≤ 16777300 by
        rw [Hl3, weight_append]
        have : weight [((2 : Int), ByteArray.mk #[])] = 1 := by decide
        have := HWE.out
        omega)
      have HK3 := Lib.hid (show ∀ x ∈ l3, x.2.size ≤ 16777216 by
        intro x hx
        rw [Hl3] at hx
        rcases List.mem_append.1 hx with h | h
        · exact HK2.out x h
        · simp only [List.mem_cons, List.not_mem_nil, or_false] at h
          rcases h with rfl <;> decide)
      have e6 := Lib.hid (show stCells l2 ++ [.int .i64 2, .string ⟨#[]⟩] = stCells l3 by rw [Hl3]; simp [stCells])
      have e7 := Lib.hid (show l2.length + 1 = l3.length by rw [Hl3]; simp)
      have ht := joinAll_twice l ⟨#[97]⟩ ⟨#[]⟩ rfl
      have HJ2 := Lib.hid (show joinAll l2 = joinAll l ++ [97, 10] by rw [Hl2, ← ht.2]; simp)
      have HJ3 := Lib.hid (show joinAll l3 = joinAll l ++ [97, 10] by rw [Hl3, Hl2, ← ht.2, ← ht.1]; simp)
      clear ht Hl2 Hl3
      go_region_held3 (fun w' => w'.cell? ⟨p, 0, none⟩ = some (.int .i64 2) ∧ w'.cell? ⟨p, 1, none⟩ = some (.string ⟨#[]⟩)) (first | go_keep | (exact ⟨(hB4.cell (p := ⟨p, 0, none⟩) hpX).trans c0, (hB4.cell (p := ⟨p, 1, none⟩) hpX).trans c1⟩) | (exact ⟨(hB3.cell (p := ⟨p, 0, none⟩) hpX).trans c0, (hB3.cell (p := ⟨p, 1, none⟩) hpX).trans c1⟩)) (first
        | (refine step_append_holds _ (by rfl) (.tmp 16) (.tmp 17) _ (by rfl) X.heap.size 29 i0 _ 2 24 Try.underlying22 hi0 hz0 hz1 hz2 rfl (by omega) (.slice (some ⟨_, 0, none⟩) 0 0) 0 [] (by rfl) (by first | exact own_new X.drew _ 29 2 _ rfl (Nat.le_refl _) | exact World.ownsRow.alloc (w := X.drew.alloc (.cells #[] 29)) (own_new X.drew _ 29 2 _ rfl (Nat.le_refl _)) _ | exact own_new (X.alloc (.cells #[.int .i64 0, .string ⟨#[97]⟩, .int .i64 2, .string ⟨#[]⟩] 29)) _ 29 2 _ (by simp) (by simp)) W.heap.size A l.length cap (stCells l) (by rfl) stL.out (by first | exact HH.out.below (HX.out.drew.alloc hXs _) | exact HH.out.below ((HX.out.drew.alloc hXs _).alloc (by simp; omega) _)) (oneCell_st l) (by simp only [maxLen]; omega) (by omega) (by simp; try omega) ?_; intro v3 w3 hown3 hg3 hat3; have hB3 : Below X.heap.size X w3 := (by first | exact Below.grown ((Below.refl X.heap.size X).drew.alloc (Nat.le_refl _) _) hg3 (by simp <;> omega) (by intro k hk; simp [Value.ownBlock] at hk; subst hk; simp) | exact Below.grown (((Below.refl X.heap.size X).drew.alloc (Nat.le_refl _) _).alloc (by simp) _) hg3 (by simp <;> omega) (by intro k hk; simp [Value.ownBlock] at hk; subst hk; simp)); have hK3 := fun g cs (h : Blk _ g 29 cs) hne => Blk.grown h hg3 hne)
        | (refine step_append_holds _ (by rfl) (.tmp 18) (.tmp 21) _ (by rfl) X.heap.size 29 i0 _ 2 24 Try.underlying22 hi0 hz0 hz1 hz2 rfl (by omega) v3 (0 + l.length) ([] ++ stCells l) (by rfl) (by first | exact hown3 | exact World.ownsRow.alloc hown3 _) _ (some ⟨_, 0, none⟩) 2 2 [.int .i64 0, .string ⟨#[97]⟩, .int .i64 2, .string ⟨#[]⟩] (by rfl) (by rfl) (by first | exact (Blk.new w3 29 #[.int .i64 0, .string ⟨#[97]⟩, .int .i64 2, .string ⟨#[]⟩]).holds | exact (hK3 (X.heap.size + 1) #[.int .i64 0, .string ⟨#[97]⟩, .int .i64 2, .string ⟨#[]⟩] (Blk.newAt (X.alloc (.cells #[] 29)) 29 #[.int .i64 0, .string ⟨#[97]⟩, .int .i64 2, .string ⟨#[]⟩] (by simp)) (by simp [Value.ownBlock])).holds | exact (hK3 X.heap.size #[.int .i64 0, .string ⟨#[97]⟩, .int .i64 2, .string ⟨#[]⟩] (Blk.alloc (Blk.new X 29 #[.int .i64 0, .string ⟨#[97]⟩, .int .i64 2, .string ⟨#[]⟩]) (.cells #[] 29)) (by simp [Value.ownBlock])).holds) (by decide) (by simp only [maxLen]; omega) (by omega) (by have q := hB3.size; simp; try omega) ?_; intro v4 w4 hown4 hg4 hat4; have hB4 : Below X.heap.size X w4 := (by first | exact Below.grown hB3 hg4 hB3.size (own_row_ge hown3) | exact Below.grown (hB3.alloc hB3.size _) hg4 (by have q := hB3.size; simp; omega) (own_row_ge hown3))))
      all_goals
        have hwe : weight l2 ≤ 16777300 := by have := HWE.out; omega
        have hb4 : Below W.heap.size W w4 := HX.out.trans (hB4.mono hXs)
        have hb4s := hb4.size
        rw [e4.out, e5.out] at hown4
        have q := own_form2 hown4
        obtain ⟨A4, c4, rfl, _, _, hh4⟩ := q
        have HH4 := Lib.hid hh4
        clear hh4 hg3 hat3 hg4 hat4 hown3 hK3
        go_wp2_with fail
        refine (Join_calls A4 c4 l2 w4 HH4.out hwe HK2.out).mono ?_
        rintro e w5 ⟨rfl, hb5⟩
        have hb6 := hb4.trans (hb5.mono hb4s)
        have hb6s := hb6.size
        have hB5 := hB4.trans (hb5.mono hB4.size)
        have hB5s := hB5.size
        have hown5 := own_below hown4 hb5
        have c05 := (hB5.cell (p := ⟨p, 0, none⟩) hpX).trans c0
        have c15 := (hB5.cell (p := ⟨p, 1, none⟩) hpX).trans c1
        have hl2b := HLL.out
        clear hown4 hb5 hb4 hb4s hB4 hB3 c0 c1
        go_wp2_with (at_builtin
                     refine wpList_append_holds _ rfl (.tmp 30) (.tmp 32) _ rfl X.heap.size 29 i0 _ 2 24 Try.underlying22 hi0 hz0 hz1 hz2 rfl (by omega) _ l2.length (stCells l2) rfl (hown5.alloc _) (w5.heap.size + 1) _ 1 1 [.int .i64 2, .string ⟨#[]⟩] rfl rfl (Holds.pair w5 _ _ _ rfl) (by decide) (by simp only [maxLen]; omega) (by omega) (by simp; omega) ?_
                     intro v6 w6 hown6 hg6 hat6)
        have hb7 : Below W.heap.size W w6 := Below.grown (hb6.alloc hb6s _) hg6 (by simp; omega) (fun k hk => Nat.le_trans hXs (own_row_ge hown5 k hk))
        have hb7s := hb7.size
        rw [e6.out, e7.out] at hown6
        have q := own_form2 hown6
        obtain ⟨A6, c6, rfl, _, _, hh6⟩ := q
        have HH6 := Lib.hid hh6
        have hwf : weight l3 ≤ 16777300 := HWF.out
        clear hh6 hg6 hat6 hown5 hown6 hb6
        go_wp2_with fail
        refine (Join_calls A6 c6 l3 w6 HH6.out hwf HK3.out).mono ?_
        rintro e w7 ⟨rfl, hb8⟩
        have hb9 := hb7.trans (hb8.mono hb7s)
        rw [HJ2.out, HJ3.out]
        clear hb8 hb7
        obtain ⟨o, HO⟩ : ∃ o, Hid (o = ByteArray.mk (joinAll l ++ [97, 10]).toArray) := ⟨_, Lib.hid rfl⟩
        have hsz : (joinAll l).length + 2 = o.size := by rw [HO.out]; simp [ByteArray.size]
        have hlo : lastB o.data.toList = 10 := by
          rw [HO.out]
          show lastB (joinAll l ++ [97, 10]) = 10
          rw [show joinAll l ++ [97, 10] = (joinAll l ++ [97]) ++ [10] by simp, lastB_snoc]
        have hlen2 : (joinAll l).length ≤ 16777300 := Nat.le_trans (joinAll_len l) (by have := HW2.out; omega)
        have hz1 : o.size - 1 < o.size := by omega
        have hg := bs_last hz1
        rw [hlo] at hg
        have t4 : (((o[o.size - 1]'hz1).toNat : Int) == 10) = true := by rw [hg]; rfl
        have hin : (1 : Int) ≤ (o.size : Int) ∧ (o.size : Int) - 1 < (o.size : Int) := by omega
        have t3 : o.toList.isEmpty = false := by
          rw [Go.ByteArray.toList_eq, HO.out]
          simp
        have hos : o.size ≤ 16777310 := by omega
        rw [← HO.out]
        clear hsz hlo hlen2 hg
        generalize (((joinAll l ++ [97, 10] : List UInt8).length : Nat) : Int) = z1
        generalize (((lastB (joinAll l ++ [97, 10])).toNat : Nat) : Int) = z2
        go_wp2
        go_ret
        exact ⟨rfl, hb9⟩
end Go.Proofs.Ytmoaeeiggkaicaa
