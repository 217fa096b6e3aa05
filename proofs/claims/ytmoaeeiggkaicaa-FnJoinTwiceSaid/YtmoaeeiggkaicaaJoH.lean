/- The contract of 'laws.joined'. -/
import Derived.Test.YtmoaeeiggkaicaaJoG
namespace Go.Proofs.Ytmoaeeiggkaicaa
open Go.RowKit Stamp
set_option linter.unusedVariables false

theorem bs_append (a b : ByteArray) : (a ++ b).data.toList = a.data.toList ++ b.data.toList := by simp
theorem bs_last {o : ByteArray} (h : o.size - 1 < o.size) : o[o.size - 1]'h = lastB o.data.toList := by
  unfold lastB
  have h2 : o.data.size = o.size := rfl
  have h3 : o[o.size - 1]'h = o.data[o.data.size - 1]'h := rfl
  rw [List.getLast?_eq_getElem?, h3]
  have h4 : o.data.size - 1 < o.data.size := h
  simp only [Array.getElem?_toList, Array.length_toList, Array.getElem?_eq_getElem h4, Option.getD_some]

set_option maxRecDepth 100000 in
set_option maxHeartbeats 4000000 in
theorem ljoined_calls (A : Option Addr) (c : Nat) (l : List (Int × ByteArray)) (w : World) (hh : Holds w w.heap.size A (stCells l)) (hw : weight l ≤ 16777300) :
    Calls Try.prog 9 #[.slice A l.length c] w fun e w' => ∃ kb : Bool, e = .returned (.tuple #[.string ⟨(joinAll l).toArray⟩, .bool kb]) ∧ Below w.heap.size w w' := by
  have HW := Lib.hid hw
  have hlen := weight_len l
  have hlen2 : l.length ≤ 16777300 := by omega
  clear hw hlen
  go_enter Try.func9, Try.ntmps9
  go_wp2
  go_loopw [2, 3, 8] (fun v u i wr => ∃ (k : Nat) (o : ByteArray) (kb : Bool), k ≤ l.length ∧ v = .string o ∧ u = .bool kb ∧ i = .int .i64 k ∧ Hid (o.data.toList = joinAll (l.take k)) ∧ Below w.heap.size w wr) (fun _ _ i _ => l.length - (intOf i).toNat)
  case atStart => exact ⟨0, ⟨#[]⟩, true, Nat.zero_le _, rfl, rfl, rfl, Lib.hid rfl, Below.refl _ _⟩
  case round =>
    obtain ⟨k, o, kb, hk, rfl, rfl, rfl, HO, hb⟩ := hrel
    have hbs := hb.size
    by_cases hlt : k < l.length
    · have hlt' : (k : Int) < (l.length : Int) := by omega
      obtain ⟨⟨kd, t⟩, hx⟩ : ∃ x, l[k]? = some x := ⟨_, List.getElem?_eq_getElem hlt⟩
      obtain ⟨b, off, rfl, hbl, g1, g2⟩ := Holds.st hh hx
      have f1 : wr.cell? ⟨b, off + k * 2, none⟩ = some (.int .i64 kd) := (hb.cell (p := ⟨b, off + k * 2, none⟩) hbl).trans g1
      have f2 : wr.cell? ⟨b, off + k * 2 + 1, none⟩ = some (.string t) := (hb.cell (p := ⟨b, off + (k * 2 + 1), none⟩) hbl).trans g2
      have HT := Lib.hid (show joinAll (l.take (k + 1)) = jStep (joinAll (l.take k)) (kd, t) by rw [take_ext hx, joinAll_snoc])
      rw [← HO.out] at HT
      have HS := Lib.hid (show o.size ≤ 16777300 ∧ t.size ≤ 16777300 by
        have a := joinAll_len (l.take k)
        have b := weight_take l k
        have c := HW.out
        have d := weight_mem (List.mem_of_getElem? hx)
        have e := congrArg List.length HO.out
        simp only [Array.length_toList] at e
        have f : o.data.size = o.size := rfl
        have g : (kd, t).2.size = t.size := rfl
        omega)
      have hos := HS.out.1
      have hts := HS.out.2
      have hb2 := hb.alloc hbs (.cells #[.int .i64 kd, .string t] 29)
      clear hx g1 g2 hh
      by_cases k0 : kd = 0 ∨ kd = 1
      · have HE := Lib.hid (show jStep o.data.toList (kd, t) = o.data.toList ++ t.data.toList by unfold jStep; rw [if_pos k0])
        have a1 : ∀ W, (Op.stringOp .add o t).run Try.prog W = .ok (.string (o ++ t)) W := fun W => run_string_add_sum W _ _ (by omega)
        have HN := Lib.hid (show (o ++ t).data.toList = joinAll (l.take (k + 1)) by rw [HT.out, HE.out, bs_append])
        rcases k0 with k0 | k0
        · have t0 : (kd == 0) = true := by simp [k0]
          clear k0
          go_wp2
          go_roundw
          case rel => exact ⟨k + 1, o ++ t, kb, by omega, rfl, rfl, by go_num, HN, hb2⟩
          case measure => simp [intOf]; omega
        · have t0 : (kd == 0) = false := by simp [k0]
          have t1 : (kd == 1) = true := by simp [k0]
          clear k0
          go_wp2
          go_roundw
          case rel => exact ⟨k + 1, o ++ t, kb, by omega, rfl, rfl, by go_num, HN, hb2⟩
          case measure => simp [intOf]; omega
      · have t0 : (kd == 0) = false := by simp; exact fun h => k0 (.inl h)
        have t1 : (kd == 1) = false := by simp; exact fun h => k0 (.inr h)
        by_cases k2 : kd = 2
        · have t2 : (kd == 2) = true := by simp [k2]
          have e0 : jStep o.data.toList (kd, t) = if o.data.toList = [] then o.data.toList else if lastB o.data.toList = 10 then o.data.toList else o.data.toList ++ [10] := by unfold jStep; rw [if_neg k0, if_pos k2]
          clear k0 k2
          by_cases ho : o = ⟨#[]⟩
          · have t3 : o.toList.isEmpty = true := by rw [ho, Go.ByteArray.toList_eq]; rfl
            have HN := Lib.hid (show o.data.toList = joinAll (l.take (k + 1)) by rw [HT.out, e0, ho]; rfl)
            clear e0 ho
            go_wp2
            go_roundw
            case rel => exact ⟨k + 1, o, false, by omega, rfl, rfl, by go_num, HN, hb2⟩
            case measure => simp [intOf]; omega
          · have hnil : o.data.toList ≠ [] := fun h => ho (by cases o; simp only [ByteArray.mk.injEq]; exact Array.ext' h)
            have t3 : o.toList.isEmpty = false := by rw [Go.ByteArray.toList_eq]; simpa using hnil
            obtain ⟨z, hz⟩ : ∃ z, o.size = z + 1 := by
              rcases h : o.size with _ | z
              · exact absurd (List.eq_nil_of_length_eq_zero (by have : o.data.size = 0 := h; simpa using this)) hnil
              · exact ⟨z, rfl⟩
            have hin : (1 : Int) ≤ (o.size : Int) ∧ (o.size : Int) - 1 < (o.size : Int) := by omega
            have hz1 : o.size - 1 < o.size := by omega
            have hg := bs_last hz1
            by_cases hc : lastB o.data.toList = 10
            · have HN := Lib.hid (show o.data.toList = joinAll (l.take (k + 1)) by rw [HT.out, e0, if_neg hnil, if_pos hc])
              have t4 : (((o[o.size - 1]'hz1).toNat : Int) != 10) = false := by rw [hg, hc]; rfl
              clear e0 ho hnil hz hg hc
              go_wp2
              go_roundw
              case rel => exact ⟨k + 1, o, kb, by omega, rfl, rfl, by go_num, HN, hb2⟩
              case measure => simp [intOf]; omega
            · have HN := Lib.hid (show (o ++ ⟨#[10]⟩).data.toList = joinAll (l.take (k + 1)) by rw [HT.out, e0, if_neg hnil, if_neg hc, bs_append])
              have a1 : ∀ W, (Op.stringOp .add o ⟨#[10]⟩).run Try.prog W = .ok (.string (o ++ ⟨#[10]⟩)) W := fun W => run_string_add_sum W _ _ (by show o.size + 1 ≤ _; omega)
              have t4 : (((o[o.size - 1]'hz1).toNat : Int) != 10) = true := by
                rw [hg, bne_iff_ne]; intro h; exact hc (UInt8.toNat_inj.1 (by show _ = 10; omega))
              clear e0 ho hnil hz hg hc
              go_wp2
              go_roundw
              case rel => exact ⟨k + 1, _, kb, by omega, rfl, rfl, by go_num, HN, hb2⟩
              case measure => simp [intOf]; omega
        · have t2 : (kd == 2) = false := by simp [k2]
          have HN := Lib.hid (show o.data.toList = joinAll (l.take (k + 1)) by rw [HT.out]; unfold jStep; rw [if_neg k0, if_neg k2])
          clear k0 k2
          go_wp2
          go_roundw
          case rel => exact ⟨k + 1, o, kb, by omega, rfl, rfl, by go_num, HN, hb2⟩
          case measure => simp [intOf]; omega
    · obtain rfl : k = l.length := by omega
      rw [List.take_length] at HO
      have HR := Lib.hid (show o = ⟨(joinAll l).toArray⟩ by rw [← HO.out])
      go_wp2
      go_ret2
      exact ⟨kb, by rw [HR.out]; rfl, hb⟩
end Go.Proofs.Ytmoaeeiggkaicaa
