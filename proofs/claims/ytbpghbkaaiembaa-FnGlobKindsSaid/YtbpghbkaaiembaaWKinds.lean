/- The walk of 'laws.FnGlobKinds'. -/
import Derived.Test.YtbpghbkaaiembaaWBack
namespace Go.Proofs.Ytbpghbkaaiembaa
open Go.RowKit Stamp
set_option linter.unusedVariables false

theorem parts_at (D : List (List UInt8 × Nat)) (t : List UInt8) (i : Nat) (x : List UInt8 × Nat) (h : D[i]? = some x) : (partsOf D t)[i]? = some (x.1, kindOf x.1 x.2 (flat (D.drop (i + 1)) t)) := by
  induction D generalizing i with
  | nil => cases h
  | cons y D ih =>
    match i, h with
    | 0, h => simp at h; subst h; rfl
    | i + 1, h => exact ih i (by simpa using h)

set_option maxRecDepth 100000 in
set_option maxHeartbeats 2000000 in
theorem Kinds_walk (s : ByteArray) (hm : s.size ≤ 9223372036854775807) (w : World) : Calls Try.prog 3 #[.string s] w fun e w' => e = .returned (.bool true) ∧ Below w.heap.size w w' := by
  by_cases hs : 2147483647 < s.size
  · have h1 : (2147483647 : Int) < (s.size : Int) := by omega
    go_enter Try.func3, Try.ntmps3
    go_wp2
    go_ret
    exact ⟨rfl, Below.refl _ _⟩
  · have h1 : ¬ (2147483647 : Int) < (s.size : Int) := by omega
    have hs1 : s.size ≤ 2147483647 := by omega
    obtain ⟨D, t, hl, hD⟩ := parts_ex s.data.toList
    have HG := Lib.hid (fun w => Glob_calls s hs1 D t hl hD w)
    have HU := Lib.hid (fun w => Runs_calls s hs1 D t hl hD w)
    have hpl := (partsOf_size D t).2 (fun x hx => (hD.1 x hx).2)
    have hsl : s.data.toList.length = s.size := by simp
    rw [← hl, hsl] at hpl
    have hDl : (partsOf D t).length = D.length + 1 := by rw [partsOf_len]
    have HN := Lib.hid (⟨hl, hD⟩ : s.data.toList = flat D t ∧ okParts D t)
    have hrl := runsOf_len 0 D
    have hD31 : D.length ≤ 4294967296 := by omega
    have Hat := Lib.hid (parts_at D t)
    rw [hrl] at HU
    obtain ⟨all, hall⟩ : ∃ all, all = partsOf D t := ⟨_, rfl⟩
    rw [← hall] at HG Hat hDl
    have hne : ((all.length : Int) != ((D.length : Int) + 1)) = false := by simp; omega
    have hal : D.length + 1 ≤ all.length := by omega
    have hal2 : all.length ≤ D.length + 1 := by omega
    clear hl hD hsl hs hDl hrl hpl hall
    go_enter Try.func3, Try.ntmps3
    go_wp2_with fail
    refine (HG.out _).mono ?_
    rintro e w1 ⟨A, c, rfl, hc1, hc2, hh, hb⟩
    have hbs := hb.size
    go_wp2_with fail
    refine (HU.out _).mono ?_
    rintro e w3 ⟨A2, c2, rfl, hd1, hd2, hh2, hb2⟩
    have hb2s := hb2.size
    have hb3 := hb.trans (hb2.mono hbs)
    have hb3s := hb3.size
    have hh3 := Lib.hid ((hh.below hb2).more hb2s)
    clear hh hb hb2 HG HU hd1 hd2
    go_wp2
    go_loopw [22] (fun i wr => ∃ k : Nat, k ≤ D.length ∧ i = .int .i64 k ∧ Below w3.heap.size w3 wr) (fun i _ => D.length - (intOf i).toNat)
    case atStart => exact ⟨0, Nat.zero_le _, rfl, Below.refl _ _⟩
    case round =>
      obtain ⟨k, hk, rfl, hb5⟩ := hrel
      have hb5s := hb5.size
      by_cases hlt : k < D.length
      · have hlt' : (k : Int) < (D.length : Int) := by omega
        obtain ⟨⟨p, c⟩, hx⟩ : ∃ x, D[k]? = some x := ⟨_, List.getElem?_eq_getElem hlt⟩
        obtain ⟨pre, hri, hrx⟩ := starsRun HN.out.1 HN.out.2 hx
        obtain ⟨b, off, rfl, hbl, g1, g2⟩ := Holds.rn hh2 hrx
        obtain ⟨b', off', rfl, hbl', g3, g4⟩ := Holds.gp hh3.out (Hat.out k (p, c) hx)
        have hz := hri.size
        have hw4 := fun w => Wild_calls hri (by unfold maxLen; omega) w
        obtain ⟨a, ha⟩ : ∃ a, a = pre.length + p.length := ⟨_, rfl⟩
        simp only at g1 g2 g3 g4 hw4 hz
        rw [← ha] at g1 hw4 hz
        obtain ⟨kk, hkk⟩ : ∃ kk, kk = kindOf p c (flat (D.drop (k + 1)) t) := ⟨_, rfl⟩
        rw [← hkk] at hw4 g4
        have f1 : wr.cell? ⟨b, off + k * 2, none⟩ = some (.int .i64 (a : Int)) := (hb5.cell (p := ⟨b, off + k * 2, none⟩) hbl).trans g1
        have f2 : wr.cell? ⟨b, off + k * 2 + 1, none⟩ = some (.int .i64 (c : Int)) := (hb5.cell (p := ⟨b, off + (k * 2 + 1), none⟩) hbl).trans g2
        have f4 : wr.cell? ⟨b', off' + k * 2 + 1, none⟩ = some (.int .i64 (kk : Int)) := (hb5.cell (p := ⟨b', off' + (k * 2 + 1), none⟩) hbl').trans g4
        have HW4 := Lib.hid hw4
        have hac : a + c ≤ s.size := by omega
        have hkb := kindOf_bd p c (flat (D.drop (k + 1)) t)
        rw [← hkk] at hkb
        have i0 : (0 : Int) ≤ (k : Int) := by omega
        have i1 : (k : Int) < (all.length : Int) := by omega
        have hbl2 : b' < wr.heap.size := by omega
        have ht : ((kk : Int) != (kk : Int)) = false := by simp
        have hkn : (⟨b', off' + k * 2 + 1, none⟩ : Addr).block < wr.heap.size := hbl2
        have f5 : (wr.alloc (.cells #[.int .i64 (a : Int), .int .i64 (c : Int)] 27)).cell? ⟨b', off' + k * 2 + 1, none⟩ = some (.int .i64 (kk : Int)) := cell_old wr _ _ _ hkn f4
        clear hx hri hrx g1 g2 g3 g4 ha hz hw4 hkk
        go_wp2
        go_region_held3 (fun w' => w'.cell? ⟨wr.heap.size, 0, none⟩ = some (.int .i64 (a : Int)) ∧ w'.cell? ⟨wr.heap.size, 1, none⟩ = some (.int .i64 (c : Int)) ∧ w'.cell? ⟨b', off' + k * 2 + 1, none⟩ = some (.int .i64 (kk : Int))) (first | go_keep | (refine ⟨by simp, by simp, f5⟩) | (refine ⟨(hb6.cell (p := ⟨wr.heap.size, 0, none⟩) (by simp)).trans (by simp), (hb6.cell (p := ⟨wr.heap.size, 1, none⟩) (by simp)).trans (by simp), (hb6.cell (p := ⟨b', off' + k * 2 + 1, none⟩) (by simp; omega)).trans f5⟩))
          (first | (go_at_call 9; refine (HW4.out _).mono ?_; rintro e w6 ⟨rfl, hb6⟩))
        have hb7 : Below w3.heap.size w3 w6 := (((hb5.alloc hb5s (.cells #[.int .i64 (a : Int), .int .i64 (c : Int)] 27)).drew).trans (hb6.mono (by simp; omega)))
        go_wp2
        go_roundw
        case rel => exact ⟨k + 1, by omega, by go_num, hb7⟩
        case measure => simp [intOf]; omega
      · obtain rfl : k = D.length := by omega
        go_wp2
        go_ret
        exact ⟨rfl, hb3.trans (hb5.mono hb3s)⟩
end Go.Proofs.Ytbpghbkaaiembaa
