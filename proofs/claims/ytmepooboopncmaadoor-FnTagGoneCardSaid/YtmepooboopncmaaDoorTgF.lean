/- What the listed tables of package unicode say of the world in which the call begins; 'unicode.SimpleFold' where a tag's letters come to it. -/
import Derived.Test.YtmepooboopncmaaDoorTabs
import Derived.Test.YtmepooboopncmaaDoorMem
import Derived.Test.YtmepooboopncmaaDoorMoP
import Derived.Lib.LaidCase
import Derived.WalkKit
import Derived.WalkSmall
import Derived.WalkSpells
namespace Go.Proofs.YtmepooboopncmaaDoor
open Go.RowKit Stamp
set_option linter.unusedVariables false

def foldL : List Int := [0, 1, 2, 3, 4, 5, 6, 7, 8, 9, 10, 11, 12, 13, 14, 15, 16, 17, 18, 19, 20, 21, 22, 23, 24, 25, 26, 27, 28, 29, 30, 31, 32, 33, 34, 35, 36, 37, 38, 39, 40, 41, 42, 43, 44, 45, 46, 47, 48, 49, 50, 51, 52, 53, 54, 55, 56, 57, 58, 59, 60, 61, 62, 63, 64, 97, 98, 99, 100, 101, 102, 103, 104, 105, 106, 107, 108, 109, 110, 111, 112, 113, 114, 115, 116, 117, 118, 119, 120, 121, 122, 91, 92, 93, 94, 95, 96, 65, 66, 67, 68, 69, 70, 71, 72, 73, 74, 8490, 76, 77, 78, 79, 80, 81, 82, 383, 84, 85, 86, 87, 88, 89, 90, 123, 124, 125, 126, 127]
def orbL : List (Int × Int) := [(75, 107), (83, 115), (107, 8490), (115, 383), (181, 924), (197, 229), (223, 7838), (229, 8491), (304, 304), (305, 305), (383, 83), (452, 453), (453, 454), (454, 452), (455, 456), (456, 457), (457, 455), (458, 459), (459, 460), (460, 458), (497, 498), (498, 499), (499, 497), (837, 921), (912, 8147), (914, 946), (917, 949), (920, 952), (921, 953), (922, 954), (924, 956), (928, 960), (929, 961), (931, 962), (934, 966), (937, 969), (944, 8163), (946, 976), (949, 1013), (952, 977), (953, 8126), (954, 1008), (956, 181), (960, 982), (961, 1009), (962, 963), (963, 931), (966, 981), (969, 8486), (976, 914), (977, 1012), (981, 934), (982, 928), (1008, 922), (1009, 929), (1012, 920), (1013, 917), (1042, 1074), (1044, 1076), (1054, 1086), (1057, 1089), (1058, 1090), (1066, 1098), (1074, 7296), (1076, 7297), (1086, 7298), (1089, 7299), (1090, 7300), (1098, 7302), (1122, 1123), (1123, 7303), (7296, 1042), (7297, 1044), (7298, 1054), (7299, 1057), (7300, 7301), (7301, 1058), (7302, 1066), (7303, 1122), (7304, 42570), (7776, 7777), (7777, 7835), (7835, 7776), (7838, 223), (8126, 837), (8147, 912), (8163, 944), (8486, 937), (8490, 75), (8491, 197), (42570, 42571), (42571, 7304), (64261, 64262), (64262, 64261)]
set_option maxRecDepth 100000 in
theorem fold_eq : (Rows.laid_unicode_asciiFold : DataW Unit) = Lib.tabData .u16 foldL := by kernel_rfl
set_option maxRecDepth 100000 in
theorem orb_eq : (Rows.laid_unicode_caseOrbit : DataW Unit) = .slice (orbL.map fun x => .agg ([x.1, x.2].map fun z => .lit (.int .u16 z))) [] := by kernel_rfl
theorem orb_len : orbL.length = 94 := by kernel_rfl
theorem fold_len : foldL.length = 128 := by kernel_rfl
def FoldTabs (w : World) : Prop := (∀ r : Nat, r < 128 → w.cell? ⟨0, r, none⟩ = some (.int .u16 (foldL.getD r 0))) ∧
  ∃ R o, w.cell? ⟨1, 0, none⟩ = some (.slice (some ⟨R, o, none⟩) 94 94) ∧ ∀ i, i < 94 → w.cell? ⟨R, o + i * 2, none⟩ = some (.int .u16 (orbL.getD i (0, 0)).1) ∧ w.cell? ⟨R, o + i * 2 + 1, none⟩ = some (.int .u16 (orbL.getD i (0, 0)).2)
theorem FoldTabs.below {w w' : World} (h : FoldTabs w) (hb : Below w.heap.size w w') : FoldTabs w' := by
  obtain ⟨h1, R, o, h2, h3⟩ := h
  have k : ∀ {p : Addr} {v : Value}, w.cell? p = some v → w'.cell? p = some v := fun {p v} h => (hb.cell (lt_of_cell h)).trans h
  exact ⟨fun r hr => k (h1 r hr), R, o, k h2, fun i hi => ⟨k (h3 i hi).1, k (h3 i hi).2⟩⟩

theorem foldTabs_of_reads {w : World} (h0 : Lib.VarReads Tryd.prog w "unicode.asciiFold" (Lib.tabData .u16 foldL)) (h1 : Lib.VarReads Tryd.prog w "unicode.caseOrbit" (.slice (orbL.map fun x => .agg ([x.1, x.2].map fun z => .lit (.int .u16 z))) [])) : FoldTabs w := by
  have c57 : Tryd.prog.cellsOf 57 = 1 := by kernel_rfl
  have c58 : Tryd.prog.cellsOf 58 = 128 := by kernel_rfl
  have c59 : Tryd.prog.cellsOf 59 = 1 := by kernel_rfl
  have c61 : Tryd.prog.cellsOf 61 = 2 := by kernel_rfl
  refine ⟨fun r hr => ?_, ?_⟩
  · obtain ⟨g, t, cs, fuel, p, hg, hty, hvar, hd⟩ := h0
    obtain rfl := Option.some.inj ((show Tryd.prog.globalNamed "unicode.asciiFold" = some 0 by kernel_rfl).symm.trans hg)
    obtain rfl := Option.some.inj ((show (Tryd.prog.globals[0]?).map (·.type) = some 58 by kernel_rfl).symm.trans hty)
    have hcs := Lib.cells_of_tab Tryd.underlying58 Tryd.underlying57 c57 c58 hd
    have := World.var?_cell hg hvar r
    rw [this, ← Array.getElem?_toList, hcs]
    have hl : foldL.length = 128 := fold_len
    rw [List.getElem?_map, List.getD_eq_getElem?_getD, List.getElem?_eq_getElem (by omega)]; rfl
  · obtain ⟨g, t, cs, fuel, p, hg, hty, hvar, hd⟩ := h1
    obtain rfl := Option.some.inj ((show Tryd.prog.globalNamed "unicode.caseOrbit" = some 1 by kernel_rfl).symm.trans hg)
    obtain rfl := Option.some.inj ((show (Tryd.prog.globals[1]?).map (·.type) = some 59 by kernel_rfl).symm.trans hty)
    rcases DataW.trod_slice Tryd.underlying59 hd with ⟨_, hx'⟩ | ⟨a', len, cap, el, rs, m, _, hc0, hx', _, hlc, _, hel, helem, hsp, _⟩
    · cases hx'
    have hx' := congrArg Prod.fst hx'
    simp only [DataW.slice.injEq] at hx'
    obtain ⟨eE, eR⟩ := hx'
    have hlen : len = 94 := by
      have := congrArg List.length eE
      rw [List.length_map, List.length_map, orb_len] at this
      omega
    have hrs : rs = [] := List.map_eq_nil_iff.1 eR.symm
    have hcap : cap = 94 := by
      have := (hsp rfl).1
      rw [hrs] at this
      simp at this
      omega
    subst hlen; subst hcap
    have hrange : ∀ i, i < 94 → ∀ j, j < 2 → w.cell? ((a'.add (i * 2)).add j) = some (.int .u16 (if j = 0 then (orbL.getD i (0, 0)).1 else (orbL.getD i (0, 0)).2)) := by
      intro i hi j hj
      have h1 := helem i hi
      rw [c61] at h1
      obtain ⟨b, hb⟩ : ∃ b, el[i]? = some b := ⟨el[i]'(by omega), List.getElem?_eq_getElem (by omega)⟩
      rw [hb] at h1
      obtain ⟨ce, hce, hte⟩ := Option.bind_eq_some_iff.1 h1
      have hb1 : b.1 = .agg ([(orbL.getD i (0, 0)).1, (orbL.getD i (0, 0)).2].map fun z => .lit (.int .u16 z)) := by
        have h2 := congrArg (·[i]?) eE
        have hi2 : i < orbL.length := by rw [orb_len]; exact hi
        rw [List.getElem?_map, List.getElem?_map, hb, List.getElem?_eq_getElem hi2] at h2
        rw [List.getD_eq_getElem?_getD, List.getElem?_eq_getElem hi2]
        simpa using h2.symm
      have hcs := Lib.ints_of_struct (p := b.2) Tryd.underlying61 (fun q f hq => by
        match q, hq with
        | 0, hq => simp at hq; subst hq; exact ⟨Tryd.underlying57, rfl, c57⟩
        | 1, hq => simp at hq; subst hq; exact ⟨Tryd.underlying57, rfl, c57⟩
        | q + 2, hq => simp at hq) (by rw [c61]; rfl) (by rw [← hb1]; exact hte)
      obtain ⟨_, _, hcc⟩ := World.cells?_some hce
      rw [hcc j hj, hcs]
      match j, hj with
      | 0, _ => rfl
      | 1, _ => rfl
    obtain ⟨R, oR, sR⟩ := a'
    obtain rfl : sR = none := by
      have h00 := hrange 0 (by omega) 0 (by omega)
      have : (Addr.add (Addr.add ⟨R, oR, sR⟩ (0 * 2)) 0) = ⟨R, oR, sR⟩ := by simp [Addr.add]
      rw [this] at h00
      exact cell_spot h00
    refine ⟨R, oR, ?_, fun i hi => ?_⟩
    · have := World.var?_cell hg hvar 0
      rw [this, ← Array.getElem?_toList, hc0]; rfl
    · have k0 := hrange i hi 0 (by omega)
      have k1 := hrange i hi 1 (by omega)
      rw [Addr.add_lit, Addr.add_lit] at k0 k1
      exact ⟨by simpa using k0, by simpa using k1⟩

theorem fold_bd : ∀ r : Fin 128, 0 ≤ foldL.getD r.val 0 ∧ foldL.getD r.val 0 ≤ 8490 := by decide +kernel
set_option maxRecDepth 100000 in
set_option maxHeartbeats 2000000 in
theorem SF_ascii (r : Nat) (hr : r < 128) (w : World) (h : FoldTabs w) : Calls Tryd.prog 30 #[.int .i32 (r : Int)] w fun e w' => e = .returned (.int .i32 (foldL.getD r 0)) ∧ w' = w := by
  have hc := h.1 r hr
  obtain ⟨b1, b2⟩ := fold_bd ⟨r, hr⟩
  simp only [] at b1 b2
  obtain ⟨v, hv⟩ : ∃ v, v = foldL.getD r 0 := ⟨_, rfl⟩
  rw [← hv] at hc b1 b2 ⊢
  have h1 : (0 : Int) ≤ (r : Int) := by omega
  have h2 : (r : Int) < 128 := by omega
  clear hv h
  go_enter Tryd.func30, Tryd.ntmps30
  go_wp2
  go_ret
  exact ⟨rfl, rfl⟩
set_option maxRecDepth 100000 in
set_option maxHeartbeats 4000000 in
theorem SF_long (w : World) (h : FoldTabs w) : Calls Tryd.prog 30 #[.int .i32 383] w fun e w' => e = .returned (.int .i32 83) ∧ w' = w := by
  obtain ⟨_, R, o, hg, hc⟩ := h
  have c5 : w.cell? ⟨R, o + 10, none⟩ = some (.int .u16 197) := (hc 5 (by decide)).1
  have c8 : w.cell? ⟨R, o + 16, none⟩ = some (.int .u16 304) := (hc 8 (by decide)).1
  have c9 : w.cell? ⟨R, o + 18, none⟩ = some (.int .u16 305) := (hc 9 (by decide)).1
  have c10 : w.cell? ⟨R, o + 20, none⟩ = some (.int .u16 383) := (hc 10 (by decide)).1
  have c11 : w.cell? ⟨R, o + 22, none⟩ = some (.int .u16 452) := (hc 11 (by decide)).1
  have c23 : w.cell? ⟨R, o + 46, none⟩ = some (.int .u16 837) := (hc 23 (by decide)).1
  have c47 : w.cell? ⟨R, o + 94, none⟩ = some (.int .u16 966) := (hc 47 (by decide)).1
  have d10 : w.cell? ⟨R, o + 21, none⟩ = some (.int .u16 83) := (hc 10 (by decide)).2
  clear hc
  go_enter Tryd.func30, Tryd.ntmps30
  go_wp2
  go_loop [3, 4] (fun x y => (x = .int .i64 0 ∧ y = .int .i64 94) ∨ (x = .int .i64 0 ∧ y = .int .i64 47) ∨ (x = .int .i64 0 ∧ y = .int .i64 23) ∨ (x = .int .i64 0 ∧ y = .int .i64 11) ∨ (x = .int .i64 6 ∧ y = .int .i64 11) ∨ (x = .int .i64 9 ∧ y = .int .i64 11) ∨ (x = .int .i64 9 ∧ y = .int .i64 10) ∨ (x = .int .i64 10 ∧ y = .int .i64 10)) (fun x y => (intOf y - intOf x).toNat)
  case atStart => exact .inl ⟨rfl, rfl⟩
  case round =>
    rcases hrel with ⟨rfl, rfl⟩ | ⟨rfl, rfl⟩ | ⟨rfl, rfl⟩ | ⟨rfl, rfl⟩ | ⟨rfl, rfl⟩ | ⟨rfl, rfl⟩ | ⟨rfl, rfl⟩ | ⟨rfl, rfl⟩
    · go_wp2
      go_round
      case rel => exact .inr (.inl ⟨rfl, rfl⟩)
      case measure => decide
    · go_wp2
      go_round
      case rel => exact .inr (.inr (.inl ⟨rfl, rfl⟩))
      case measure => decide
    · go_wp2
      go_round
      case rel => exact .inr (.inr (.inr (.inl ⟨rfl, rfl⟩)))
      case measure => decide
    · go_wp2
      go_round
      case rel => exact .inr (.inr (.inr (.inr (.inl ⟨rfl, rfl⟩))))
      case measure => decide
    · go_wp2
      go_round
      case rel => exact .inr (.inr (.inr (.inr (.inr (.inl ⟨rfl, rfl⟩)))))
      case measure => decide
    · go_wp2
      go_round
      case rel => exact .inr (.inr (.inr (.inr (.inr (.inr (.inl ⟨rfl, rfl⟩))))))
      case measure => decide
    · go_wp2
      go_round
      case rel => exact .inr (.inr (.inr (.inr (.inr (.inr (.inr (⟨rfl, rfl⟩)))))))
      case measure => decide
    · go_wp2
      go_ret
      exact ⟨rfl, rfl⟩
end Go.Proofs.YtmepooboopncmaaDoor
