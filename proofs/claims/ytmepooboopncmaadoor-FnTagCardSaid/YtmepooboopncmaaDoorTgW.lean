/- What the listed tables say at the laws on tags; the walks of 'laws.FnTag' and 'laws.FnTagGone'. -/
import Derived.Test.YtmepooboopncmaaDoorTgB
import Derived.Test.YtmepooboopncmaaDoorTgC
import Derived.MakeChecks
namespace Go.Proofs.YtmepooboopncmaaDoor
open Go.RowKit Stamp
set_option linter.unusedVariables false

theorem fold_of {l : List (String × DataW Unit)} {W : World} (hp : (l.all fun x => x.2.handleName?.isNone) = true) (h0 : ("unicode.asciiFold", (Rows.laid_unicode_asciiFold : DataW Unit)) ∈ l) (h1 : ("unicode.caseOrbit", (Rows.laid_unicode_caseOrbit : DataW Unit)) ∈ l) (h : laidMetH Tryd.prog l W) : FoldTabs W := by
  rw [MakeChecks.laidMetH_plain _ _ _ hp] at h
  rw [fold_eq] at h0
  rw [orb_eq] at h1
  exact foldTabs_of_reads (Lib.laidMet.reads h h0) (Lib.laidMet.reads h h1)
theorem tabs_of_fnTag {W : World} (h : laidMetH Tryd.prog Rows.fnTagRow.laid W) : FoldTabs W := fold_of (by kernel_rfl) (.tail _ (.head _)) (.tail _ (.tail _ (.head _))) h
theorem tabs_of_fnTagGone {W : World} (h : laidMetH Tryd.prog Rows.fnTagGoneRow.laid W) : FoldTabs W := fold_of (by kernel_rfl) (.tail _ (.head _)) (.tail _ (.tail _ (.head _))) h

theorem tagB_form (which : Bool) : ∃ x, (tagB which).data.toList = 47 :: x ∧ (∀ c ∈ (tagB which).data.toList, isTag c = true) ∧ (tagB which).size ≤ 1024 ∧ (∀ c ∈ (tagB which).data.toList, c ≠ 60 ∧ c ≠ 92) := by
  cases which with
  | true => exact ⟨_, rfl, by decide, by decide, by decide⟩
  | false => exact ⟨_, rfl, by decide, by decide, by decide⟩
theorem EscA (W : World) (hW : FoldTabs W) : Calls Tryd.prog 8 #[.string (⟨#[97]⟩ : ByteArray), .string (⟨#[47, 115, 116, 121, 108, 101]⟩ : ByteArray)] W fun e w' => e = .returned (.string (⟨#[97]⟩ : ByteArray)) ∧ Below W.heap.size W w' := by
  have := EscT_calls (⟨#[97]⟩ : ByteArray) (⟨#[47, 115, 116, 121, 108, 101]⟩ : ByteArray) _ rfl (by decide) (by decide) (by decide) W hW
  have e : tagged (⟨#[47, 115, 116, 121, 108, 101]⟩ : ByteArray).data.toList (⟨#[97]⟩ : ByteArray).data.toList = [97] := by decide
  rw [e] at this
  exact this

set_option maxRecDepth 1000000 in
set_option maxHeartbeats 4000000 in
theorem Tag_walk (s : ByteArray) (hs9 : s.size ≤ 9223372036854775807) (which : Bool) (w : World) (hF : FoldTabs w) :
    Calls Tryd.prog 4 #[.string s, .bool which] w fun e w' => e = .returned (.bool true) ∧ Below w.heap.size w w' := by
  by_cases hs : 2147483647 < s.size
  · have h1 : (2147483647 : Int) < (s.size : Int) := by omega
    clear hF
    go_enter Tryd.func4, Tryd.ntmps4
    go_wp2
    go_ret
    exact ⟨rfl, Below.refl _ _⟩
  · have h1 : ¬ (2147483647 : Int) < (s.size : Int) := by omega
    obtain ⟨x, hx1, hx2, hx3, hx4⟩ := tagB_form which
    have HT := Lib.hid (fun W => Tag_calls which W)
    have HE := Lib.hid (fun W hW => EscT_calls s (tagB which) x hx1 hx2 hx3 (by omega) W hW)
    have HG := Lib.hid (fun W => Tagged_calls s (tagB which) x hx1 hx3 (by omega) W)
    obtain ⟨tg, htg⟩ : ∃ tg, tg = tagB which := ⟨_, rfl⟩
    rw [← htg] at HT HE HG
    obtain ⟨z, hz⟩ : ∃ z, z = (⟨(tagged tg.data.toList s.data.toList).toArray⟩ : ByteArray) := ⟨_, rfl⟩
    rw [← hz] at HE HG
    have hbe : (z.toList == z.toList) = true := by simp
    have HF := Lib.hid hF
    have HA := Lib.hid EscA
    clear hx1 hx2 hx3 hx4 htg hz hF
    go_enter Tryd.func4, Tryd.ntmps4
    go_wp2_with fail
    refine (HT.out _).mono ?_
    rintro e w1 ⟨rfl, rfl⟩
    go_wp2_with fail
    refine (HE.out _ HF.out).mono ?_
    rintro e w2 ⟨rfl, hb⟩
    have hbs := hb.size
    go_wp2_with fail
    refine (HT.out _).mono ?_
    rintro e w3 ⟨rfl, rfl⟩
    go_wp2_with fail
    refine (HG.out _).mono ?_
    rintro e w4 ⟨rfl, hb2⟩
    have hb2 := hb.trans (hb2.mono hbs)
    have hb2s := hb2.size
    have hF2 := Lib.hid (HF.out.below hb2)
    clear hb hbs
    go_wp2_with fail
    refine (HA.out _ hF2.out).mono ?_
    rintro e w5 ⟨rfl, hb3⟩
    go_wp2
    go_ret
    exact ⟨rfl, hb2.trans (hb3.mono hb2s)⟩

set_option maxRecDepth 1000000 in
set_option maxHeartbeats 4000000 in
theorem TagGone_walk (s : ByteArray) (hs9 : s.size ≤ 9223372036854775807) (which : Bool) (w : World) (hF : FoldTabs w) :
    Calls Tryd.prog 5 #[.string s, .bool which] w fun e w' => e = .returned (.bool true) ∧ Below w.heap.size w w' := by
  by_cases hs : 2147483647 < s.size
  · have h1 : (2147483647 : Int) < (s.size : Int) := by omega
    clear hF
    go_enter Tryd.func5, Tryd.ntmps5
    go_wp2
    go_ret
    exact ⟨rfl, Below.refl _ _⟩
  · have h1 : ¬ (2147483647 : Int) < (s.size : Int) := by omega
    obtain ⟨x, hx1, hx2, hx3, hx4⟩ := tagB_form which
    have HT := Lib.hid (fun W => Tag_calls which W)
    have HE := Lib.hid (fun W hW => EscT_calls s (tagB which) x hx1 hx2 hx3 (by omega) W hW)
    obtain ⟨z, hz⟩ : ∃ z, z = (⟨(tagged (tagB which).data.toList s.data.toList).toArray⟩ : ByteArray) := ⟨_, rfl⟩
    have hzl : z.data.toList = tagged (tagB which).data.toList s.data.toList := by rw [hz]
    have hne : (tagB which).data.toList ≠ [] := by rw [hx1]; simp
    have hlen := tagged_len (tagB which).data.toList s.data.toList
    rw [← hzl] at hlen
    simp only [Array.length_toList] at hlen
    have e1 : z.data.size = z.size := rfl
    have e2 : s.data.size = s.size := rfl
    have hge : (s.size : Int) ≤ (z.size : Int) := by omega
    have HH := Lib.hid (fun W => HasTag_no z (tagB which) x hx1 hx3 (by omega) (by rw [hzl]; exact clean_tagged _ hx4 hne _) W)
    have HE2 := Lib.hid (fun W hW => EscT_calls z (tagB which) x hx1 hx2 hx3 (by omega) W hW)
    rw [hzl, tagged_twice _ hx4 hne, ← hz] at HE2
    rw [← hz] at HE
    obtain ⟨tg, htg⟩ : ∃ tg, tg = tagB which := ⟨_, rfl⟩
    rw [← htg] at HT HE HE2 HH
    have hbe : (z.toList == z.toList) = true := by simp
    have HF := Lib.hid hF
    have HA := Lib.hid EscA
    clear hx1 hx2 hx3 hx4 htg hz hF hzl hne hlen e1 e2
    go_enter Tryd.func5, Tryd.ntmps5
    go_wp2_with fail
    refine (HT.out _).mono ?_
    rintro e w1 ⟨rfl, rfl⟩
    go_wp2_with fail
    refine (HE.out _ HF.out).mono ?_
    rintro e w2 ⟨rfl, hb⟩
    have hbs := hb.size
    go_wp2_with fail
    refine (HT.out _).mono ?_
    rintro e w3 ⟨rfl, rfl⟩
    go_wp2_with fail
    refine (HH.out _).mono ?_
    rintro e w4 ⟨rfl, hb2⟩
    have hb2 := hb.trans (hb2.mono hbs)
    have hb2s := hb2.size
    have hF2 := Lib.hid (HF.out.below hb2)
    clear hb hbs
    go_wp2_with fail
    refine (HT.out _).mono ?_
    rintro e w5 ⟨rfl, rfl⟩
    go_wp2_with fail
    refine (HE2.out _ hF2.out).mono ?_
    rintro e w6 ⟨rfl, hb3⟩
    have hb3 := hb2.trans (hb3.mono hb2s)
    have hb3s := hb3.size
    have hF3 := Lib.hid (HF.out.below hb3)
    clear hb2 hb2s hF2
    go_wp2_with fail
    refine (HA.out _ hF3.out).mono ?_
    rintro e w7 ⟨rfl, hb4⟩
    go_wp2
    go_ret
    exact ⟨rfl, hb3.trans (hb4.mono hb3s)⟩
end Go.Proofs.YtmepooboopncmaaDoor
