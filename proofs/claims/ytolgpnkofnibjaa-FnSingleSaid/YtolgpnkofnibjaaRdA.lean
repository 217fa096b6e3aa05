/- The contracts of 'spec.put', 'spec.units', 'spec.inside', 'spec.single', 'spec.hex', 'spec.four'. -/
import Derived.Test.YtolgpnkofnibjaaQuI
import Derived.Test.YtolgpnkofnibjaaUnits
import Derived.Test.YtolgpnkofnibjaaBare
import Derived.Lib.IndexBytes
import Derived.Laws.DeepStrings4
namespace Go.Proofs.Ytolgpnkofnibjaa
open Go.RowKit Stamp
set_option linter.unusedVariables false

theorem oneCell_b8 {l : List UInt8} : ∀ u ∈ bytesV l, u.oneCell' = true := by
  intro u hu
  obtain ⟨x, _, rfl⟩ := List.mem_map.1 hu
  rfl
theorem Holds.cellsOf (w : World) (cs : Array Value) (t : TypeId) {g : Nat} (hg : g = w.heap.size) : Holds (w.alloc (.cells cs t)) (g + 1) (some ⟨g, 0, none⟩) cs.toList := by
  subst hg
  exact fun _ => ⟨w.heap.size, 0, rfl, by omega, fun j u hu => cell_new w cs t w.heap.size (0 + j) u rfl (by rw [Nat.zero_add]; simpa using hu)⟩
theorem bv_nat {x : Nat} (h : x < 256) : Value.int .u8 ((UInt8.ofNat x).toNat : Int) = .int .u8 (x : Int) := by rw [toNat_ofNat_lt h]
def PutPost (p : Nat) (w : World) (e : Ending) (w' : World) : Prop :=
  ∃ A c, e = .returned (.slice A (enc p).length c) ∧ (enc p).length ≤ c ∧ c ≤ maxLen ∧ Holds w' w'.heap.size A (bytesV (enc p)) ∧ Below w.heap.size w w'


set_option maxRecDepth 100000 in
set_option maxHeartbeats 1000000 in
theorem put1 (p : Nat) (h1 : 0 ≤ p) (h2 : p ≤ 127) (w : World) : Calls Try.prog 32 #[.slice none 0 0, .int .i64 (p : Int)] w (PutPost p w) := by
  obtain ⟨i0, hi0, hz0, hz1, hz2⟩ := info_parts infoU8
  have q1 : (p : Int) < 128 := by omega
  have HE : Hid (enc p = [UInt8.ofNat p]) := Lib.hid (by unfold enc; rw [if_pos (by omega)])
  have HB := Lib.hid (show bytesV (enc p) = [Value.int .u8 (p : Int)] by rw [HE.out]; simp only [bytesV, List.map_cons, List.map_nil]; rw [bv_nat (x := p) (by omega)])
  go_enter Try.func32, Try.ntmps32
  go_wp2_with (at_builtin
               refine wpList_append_holds _ rfl (.tmp 8) (.tmp 11) _ rfl w.heap.size 5 i0 _ 1 1 Try.underlying47 hi0 hz0 hz1 hz2 rfl (by omega) (Value.slice none 0 0) 0 [] rfl (World.ownsRow_nil _ _ _ _) (w.heap.size + 1) _ 1 1 #[.int .u8 (p : Int)].toList rfl rfl (Holds.cellsOf _ _ _ rfl) (by intro u hu; simp only [List.mem_cons, List.not_mem_nil, or_false] at hu; subst hu; rfl) (by simp only [maxLen]; omega) (by omega) (by simp) ?_
               intro v1 w4 hown4 hg4 hat4)
  have hb4 := Below.grown ((Below.refl w.heap.size w).alloc (Nat.le_refl _) (.cells #[.int .u8 (p : Int)] 5)) hg4 (by simp) (fun k hk => by simp [Value.ownBlock] at hk)
  obtain ⟨A1, c1, rfl, hc1, hc2, hh⟩ := own_form hown4
  go_ret
  have hle : (enc p).length = 1 := by rw [HE.out]; rfl
  exact ⟨A1, c1, by rw [hle]; rfl, by rw [hle]; exact hc1, hc2, by rw [HB.out]; simpa using hh, hb4⟩

set_option maxRecDepth 100000 in
set_option maxHeartbeats 1000000 in
theorem put2 (p : Nat) (h1 : 128 ≤ p) (h2 : p ≤ 2047) (w : World) : Calls Try.prog 32 #[.slice none 0 0, .int .i64 (p : Int)] w (PutPost p w) := by
  obtain ⟨i0, hi0, hz0, hz1, hz2⟩ := info_parts infoU8
  have q1 : ¬ (p : Int) < 128 := by omega
  have q2 : (p : Int) < 2048 := by omega
  obtain ⟨x0, x1, hx0, hx1, bx0, bx1, HE⟩ : ∃ x0 x1 : Nat, (192 + (p : Int) / 64 : Int) = (x0 : Int) ∧ (128 + (p : Int) % 64 : Int) = (x1 : Int) ∧ x0 ≤ 255 ∧ x1 ≤ 255 ∧ Hid (enc p = [UInt8.ofNat x0, UInt8.ofNat x1]) := ⟨192 + p / 64, 128 + p % 64, by omega, by omega, by omega, by omega, Lib.hid (by unfold enc; rw [if_neg (by omega), if_pos (by omega)])⟩
  have HB := Lib.hid (show bytesV (enc p) = [Value.int .u8 (x0 : Int), Value.int .u8 (x1 : Int)] by rw [HE.out]; simp only [bytesV, List.map_cons, List.map_nil]; rw [bv_nat (x := x0) (by omega), bv_nat (x := x1) (by omega)])
  go_enter Try.func32, Try.ntmps32
  go_wp2_with (at_builtin
               refine wpList_append_holds _ rfl (.tmp 16) (.tmp 25) _ rfl w.heap.size 5 i0 _ 1 1 Try.underlying47 hi0 hz0 hz1 hz2 rfl (by omega) (Value.slice none 0 0) 0 [] rfl (World.ownsRow_nil _ _ _ _) (w.heap.size + 1) _ 2 2 #[.int .u8 (x0 : Int), .int .u8 (x1 : Int)].toList rfl rfl (Holds.cellsOf _ _ _ rfl) (by intro u hu; simp only [List.mem_cons, List.not_mem_nil, or_false] at hu; rcases hu with rfl | rfl <;> rfl) (by simp only [maxLen]; omega) (by omega) (by simp) ?_
               intro v1 w4 hown4 hg4 hat4)
  have hb4 := Below.grown ((Below.refl w.heap.size w).alloc (Nat.le_refl _) (.cells #[.int .u8 (x0 : Int), .int .u8 (x1 : Int)] 5)) hg4 (by simp) (fun k hk => by simp [Value.ownBlock] at hk)
  obtain ⟨A1, c1, rfl, hc1, hc2, hh⟩ := own_form hown4
  go_ret
  have hle : (enc p).length = 2 := by rw [HE.out]; rfl
  exact ⟨A1, c1, by rw [hle]; rfl, by rw [hle]; exact hc1, hc2, by rw [HB.out]; simpa using hh, hb4⟩

set_option maxRecDepth 100000 in
set_option maxHeartbeats 1000000 in
theorem put3 (p : Nat) (h1 : 2048 ≤ p) (h2 : p ≤ 65535) (w : World) : Calls Try.prog 32 #[.slice none 0 0, .int .i64 (p : Int)] w (PutPost p w) := by
  obtain ⟨i0, hi0, hz0, hz1, hz2⟩ := info_parts infoU8
  have q2 : ¬ (p : Int) < 2048 := by omega
  have q3 : decide ((p : Int) < 65536) = true := by simp; omega
  have q4 : (p : Int) ≤ 1114111 := by omega
  obtain ⟨x0, x1, x2, hx0, hx1, hx2, bx0, bx1, bx2, HE⟩ : ∃ x0 x1 x2 : Nat, (224 + (p : Int) / 4096 : Int) = (x0 : Int) ∧ (128 + (p : Int) / 64 % 64 : Int) = (x1 : Int) ∧ (128 + (p : Int) % 64 : Int) = (x2 : Int) ∧ x0 ≤ 255 ∧ x1 ≤ 255 ∧ x2 ≤ 255 ∧ Hid (enc p = [UInt8.ofNat x0, UInt8.ofNat x1, UInt8.ofNat x2]) := ⟨224 + p / 4096, 128 + p / 64 % 64, 128 + p % 64, by omega, by omega, by omega, by omega, by omega, by omega, Lib.hid (by unfold enc; rw [if_neg (by omega), if_neg (by omega), if_pos (by omega)])⟩
  have HB := Lib.hid (show bytesV (enc p) = [Value.int .u8 (x0 : Int), Value.int .u8 (x1 : Int), Value.int .u8 (x2 : Int)] by rw [HE.out]; simp only [bytesV, List.map_cons, List.map_nil]; rw [bv_nat (x := x0) (by omega), bv_nat (x := x1) (by omega), bv_nat (x := x2) (by omega)])
  have q1 : ¬ (p : Int) < 128 := by omega
  have q0 : (0 : Int) ≤ (p : Int) := by omega
  have q2' : ¬ (p : Int) < 2048 := by omega
  clear h1 h2
  generalize hP : (p : Int) = P at *
  clear hP
  go_enter Try.func32, Try.ntmps32
  go_wp2_with (at_builtin
               refine wpList_append_holds _ rfl (.tmp 30) (.tmp 44) _ rfl w.heap.size 5 i0 _ 1 1 Try.underlying47 hi0 hz0 hz1 hz2 rfl (by omega) (Value.slice none 0 0) 0 [] rfl (World.ownsRow_nil _ _ _ _) (w.heap.size + 1) _ 3 3 #[.int .u8 (x0 : Int), .int .u8 (x1 : Int), .int .u8 (x2 : Int)].toList rfl rfl (Holds.cellsOf _ _ _ rfl) (by intro u hu; simp only [List.mem_cons, List.not_mem_nil, or_false] at hu; rcases hu with rfl | rfl | rfl <;> rfl) (by simp only [maxLen]; omega) (by omega) (by simp) ?_
               intro v1 w4 hown4 hg4 hat4)
  have hb4 := Below.grown ((Below.refl w.heap.size w).alloc (Nat.le_refl _) (.cells #[.int .u8 (x0 : Int), .int .u8 (x1 : Int), .int .u8 (x2 : Int)] 5)) hg4 (by simp) (fun k hk => by simp [Value.ownBlock] at hk)
  obtain ⟨A1, c1, rfl, hc1, hc2, hh⟩ := own_form hown4
  go_ret
  have hle : (enc p).length = 3 := by rw [HE.out]; rfl
  exact ⟨A1, c1, by rw [hle]; rfl, by rw [hle]; exact hc1, hc2, by rw [HB.out]; simpa using hh, hb4⟩

set_option maxRecDepth 100000 in
set_option maxHeartbeats 1000000 in
theorem put4 (p : Nat) (h1 : 65536 ≤ p) (h2 : p ≤ 1114111) (w : World) : Calls Try.prog 32 #[.slice none 0 0, .int .i64 (p : Int)] w (PutPost p w) := by
  obtain ⟨i0, hi0, hz0, hz1, hz2⟩ := info_parts infoU8
  have q3 : decide ((p : Int) < 65536) = false := by simp; omega
  have q4 : (p : Int) ≤ 1114111 := by omega
  obtain ⟨x0, x1, x2, x3, hx0, hx1, hx2, hx3, bx0, bx1, bx2, bx3, HE⟩ : ∃ x0 x1 x2 x3 : Nat, (240 + (p : Int) / 262144 : Int) = (x0 : Int) ∧ (128 + (p : Int) / 4096 % 64 : Int) = (x1 : Int) ∧ (128 + (p : Int) / 64 % 64 : Int) = (x2 : Int) ∧ (128 + (p : Int) % 64 : Int) = (x3 : Int) ∧ x0 ≤ 255 ∧ x1 ≤ 255 ∧ x2 ≤ 255 ∧ x3 ≤ 255 ∧ Hid (enc p = [UInt8.ofNat x0, UInt8.ofNat x1, UInt8.ofNat x2, UInt8.ofNat x3]) := ⟨240 + p / 262144, 128 + p / 4096 % 64, 128 + p / 64 % 64, 128 + p % 64, by omega, by omega, by omega, by omega, by omega, by omega, by omega, by omega, Lib.hid (by unfold enc; rw [if_neg (by omega), if_neg (by omega), if_neg (by omega)])⟩
  have HB := Lib.hid (show bytesV (enc p) = [Value.int .u8 (x0 : Int), Value.int .u8 (x1 : Int), Value.int .u8 (x2 : Int), Value.int .u8 (x3 : Int)] by rw [HE.out]; simp only [bytesV, List.map_cons, List.map_nil]; rw [bv_nat (x := x0) (by omega), bv_nat (x := x1) (by omega), bv_nat (x := x2) (by omega), bv_nat (x := x3) (by omega)])
  have q1 : ¬ (p : Int) < 128 := by omega
  have q0 : (0 : Int) ≤ (p : Int) := by omega
  have q2' : ¬ (p : Int) < 2048 := by omega
  clear h1 h2
  generalize hP : (p : Int) = P at *
  clear hP
  go_enter Try.func32, Try.ntmps32
  go_wp2_with (at_builtin
               refine wpList_append_holds _ rfl (.tmp 46) (.tmp 65) _ rfl w.heap.size 5 i0 _ 1 1 Try.underlying47 hi0 hz0 hz1 hz2 rfl (by omega) (Value.slice none 0 0) 0 [] rfl (World.ownsRow_nil _ _ _ _) (w.heap.size + 1) _ 4 4 #[.int .u8 (x0 : Int), .int .u8 (x1 : Int), .int .u8 (x2 : Int), .int .u8 (x3 : Int)].toList rfl rfl (Holds.cellsOf _ _ _ rfl) (by intro u hu; simp only [List.mem_cons, List.not_mem_nil, or_false] at hu; rcases hu with rfl | rfl | rfl | rfl <;> rfl) (by simp only [maxLen]; omega) (by omega) (by simp) ?_
               intro v1 w4 hown4 hg4 hat4)
  have hb4 := Below.grown ((Below.refl w.heap.size w).alloc (Nat.le_refl _) (.cells #[.int .u8 (x0 : Int), .int .u8 (x1 : Int), .int .u8 (x2 : Int), .int .u8 (x3 : Int)] 5)) hg4 (by simp) (fun k hk => by simp [Value.ownBlock] at hk)
  obtain ⟨A1, c1, rfl, hc1, hc2, hh⟩ := own_form hown4
  go_ret
  have hle : (enc p).length = 4 := by rw [HE.out]; rfl
  exact ⟨A1, c1, by rw [hle]; rfl, by rw [hle]; exact hc1, hc2, by rw [HB.out]; simpa using hh, hb4⟩

theorem put_calls (p : Nat) (hp : p ≤ 1114111) (w : World) : Calls Try.prog 32 #[.slice none 0 0, .int .i64 (p : Int)] w (PutPost p w) := by
  by_cases a : p ≤ 127
  · exact put1 p (Nat.zero_le _) a w
  · by_cases b : p ≤ 2047
    · exact put2 p (by omega) b w
    · by_cases c : p ≤ 65535
      · exact put3 p (by omega) c w
      · exact put4 p (by omega) hp w

set_option maxHeartbeats 1000000 in
theorem units_calls (p : Nat) (hp : Scalar p) (w : World) : Calls Try.prog 27 #[.int .i64 (p : Int)] w (UnitsPost [p] w) := by
  have hd : (⟨(enc p).toArray⟩ : ByteArray).data.toList = encAll [p] := by simp [encAll]
  have hsz : (⟨(enc p).toArray⟩ : ByteArray).size ≤ 8589934592 := by
    have := (enc_len p).2
    simp [ByteArray.size]; omega
  have HU := Lib.hid (fun w => Units_calls ⟨(enc p).toArray⟩ [p] hd (by intro x hx; simp at hx; subst hx; exact hp) hsz w)
  have hp1 := hp.1
  clear hd hsz
  go_enter Try.func27, Try.ntmps27
  go_wp2_with fail
  refine (put_calls p hp1 w).mono ?_
  rintro e w1 ⟨A1, c, rfl, h1, h2, h3, h4⟩
  have hcv := run_bytes_text (P := Try.prog) w1 47 9 5 Try.underlying47 Try.underlying5 Try.underlying9 w1.heap.size A1 (enc p).length c (enc p) rfl h3
  have h4s := h4.size
  clear h3
  go_wp2_with fail
  refine (HU.out _).mono ?_
  rintro e w2 ⟨A2, c2, rfl, k1, k2, k3, k4⟩
  go_wp2
  go_ret
  exact ⟨A2, c2, rfl, k1, k2, k3, h4.trans (k4.mono h4s)⟩

set_option maxHeartbeats 1000000 in
theorem inside_calls (s m : ByteArray) (q : Nat) (h2 : 2 ≤ s.size) (hs : s.size ≤ 1099511627776) (h0 : (s[0].toNat : Int) = (q : Int)) (h1 : (s[s.size - 1].toNat : Int) = (q : Int)) (hm : m = s.extract 1 (s.size - 1)) (w : World) :
    Calls Try.prog 22 #[.string s, .int .u8 (q : Int)] w fun e w' => e = .returned (.tuple #[.string m, .bool true]) ∧ w' = w := by
  have q0 : ¬ (s.size : Int) < 2 := by omega
  have t0 : ((s[0].toNat : Int) != (q : Int)) = false := by rw [h0]; simp
  have t1 : ((s[s.size - 1].toNat : Int) != (q : Int)) = false := by rw [h1]; simp
  have hsl : ∀ W, (Instr.slice 9 (Value.string s) (some (Value.int IntKind.i64 1)) (some (Value.int IntKind.i64 ((s.size : Int) - 1))) none).run Try.prog W = .ok (.string m) W := fun W => by
    have := run_slice_string_if (P := Try.prog) W 9 s .i64 .i64 1 ((s.size : Int) - 1) Try.underlying9
    rw [if_pos ⟨by omega, by omega⟩, if_pos ⟨by omega, by omega⟩] at this
    have e : ((s.size : Int) - 1).toNat = s.size - 1 := by omega
    rw [this, hm, e]; rfl
  clear h0 h1 hm
  go_enter Try.func22, Try.ntmps22
  go_wp2
  go_ret2
  exact ⟨rfl, rfl⟩

def look : List UInt8 → List UInt8 → UInt8 → Option UInt8
  | f :: fs, t :: ts, c => if f = c then some t else look fs ts c
  | _, _, _ => none
theorem look_at {fs ts : List UInt8} {c : UInt8} (k : Nat) (hl : fs.length = ts.length) (h : ∀ j, j < k → fs[j]? ≠ some c) : look fs ts c = look (fs.drop k) (ts.drop k) c := by
  induction k generalizing fs ts with
  | zero => rfl
  | succ k ih =>
    match fs, ts, hl with
    | [], [], _ => rfl
    | f :: fs, t :: ts, hl =>
      have h0 := h 0 (by omega)
      have hf : f ≠ c := fun e => h0 (by rw [e]; rfl)
      rw [look, if_neg hf]
      exact ih (by simpa using hl) (fun j hj => by have := h (j + 1) (by omega); simpa using this)
def lookPost (r : Option UInt8) (e : Ending) : Prop := match r with
  | some u => e = .returned (.tuple #[.int .u16 (u.toNat : Int), .bool true])
  | none => e = .returned (.tuple #[.int .u16 0, .bool false])

set_option maxHeartbeats 1000000 in
theorem single_calls (c : UInt8) (f t : ByteArray) (hft : f.data.toList.length = t.data.toList.length) (hf : f.size ≤ 1000) (w : World) :
    Calls Try.prog 23 #[.int .u8 (c.toNat : Int), .string f, .string t] w fun e w' => lookPost (look f.data.toList t.data.toList c) e ∧ w' = w := by
  have hsz : f.size ≤ t.size := by have a : f.data.toList.length = f.size := by simp
                                   have b : t.data.toList.length = t.size := by simp
                                   omega
  have Hft := Lib.hid hft
  clear hft
  go_enter Try.func23, Try.ntmps23
  go_wp2
  go_loop [11] (fun i => ∃ k : Nat, k ≤ f.size ∧ i = .int .i64 k ∧ Hid (∀ j, j < k → f.data.toList[j]? ≠ some c)) (fun i => f.size - (intOf i).toNat)
  case atStart => exact ⟨0, Nat.zero_le _, rfl, Lib.hid (fun j h => by omega)⟩
  case round =>
    obtain ⟨k, hk, rfl, hh⟩ := hrel
    by_cases hlt : k < f.size
    · have hlt' : (k : Int) < (f.size : Int) := by omega
      have hlt2 : (k : Int) < (t.size : Int) := by omega
      have hltn : k < t.size := by omega
      have hx := Lib.data_getElem? f k hlt
      have hy := Lib.data_getElem? t k hltn
      by_cases hc : f[k] = c
      · have ht : ((f[k].toNat : Int) == (c.toNat : Int)) = true := by rw [hc]; simp
        have HP := Lib.hid (show look f.data.toList t.data.toList c = some t[k] by
          rw [look_at k Hft.out hh.out, drop_at hx, drop_at hy, look, if_pos hc])
        have hb := t[k].toNat_lt
        clear hc hx hy
        go_wp2
        go_ret2
        exact ⟨by rw [HP.out]; rfl, rfl⟩
      · have ht : ((f[k].toNat : Int) == (c.toNat : Int)) = false := by
          rw [beq_eq_false_iff_ne]; intro h; exact hc (UInt8.toNat_inj.1 (by omega))
        have HN := Lib.hid (show ∀ j, j < k + 1 → f.data.toList[j]? ≠ some c by
          intro j hj
          rcases Nat.lt_or_ge j k with h | h
          · exact hh.out j h
          · obtain rfl : j = k := by omega
            rw [hx]; intro e; injection e with e; exact hc e)
        clear hc hx hy
        go_wp2
        go_round
        case rel => exact ⟨k + 1, by omega, by go_num, HN⟩
        case measure => simp [intOf]; omega
    · have HP := Lib.hid (show look f.data.toList t.data.toList c = none by
        have h1 : f.data.toList.length ≤ k := by simp; show f.size ≤ k; omega
        rw [look_at k Hft.out hh.out, List.drop_eq_nil_of_le h1]; rfl)
      go_wp2
      go_ret2
      exact ⟨by rw [HP.out]; rfl, rfl⟩

def hv (c : UInt8) : Option Nat := if 48 ≤ c.toNat ∧ c.toNat ≤ 57 then some (c.toNat - 48) else if 97 ≤ c.toNat ∧ c.toNat ≤ 102 then some (c.toNat - 97 + 10) else if 65 ≤ c.toNat ∧ c.toNat ≤ 70 then some (c.toNat - 65 + 10) else none
def hexV : Nat → List UInt8 → Option Nat
  | n, [] => some n
  | n, c :: l => match hv c with
    | none => none
    | some d => if 1114111 < 16 * n + d then none else hexV (16 * n + d) l
def hexPost (l : List UInt8) (e : Ending) : Prop := match hexV 0 l with
  | some n => e = .returned (.tuple #[.int .i64 (n : Int), .bool (!l.isEmpty)])
  | none => e = .returned (.tuple #[.int .i64 0, .bool false])
theorem hexV_yes {n d : Nat} {c : UInt8} {l : List UInt8} (h : hv c = some d) (hb : 16 * n + d ≤ 1114111) : hexV n (c :: l) = hexV (16 * n + d) l := by simp only [hexV, h]; rw [if_neg (by omega)]
theorem hexV_great {n d : Nat} {c : UInt8} {l : List UInt8} (h : hv c = some d) (hb : ¬ 16 * n + d ≤ 1114111) : hexV n (c :: l) = none := by simp only [hexV, h]; rw [if_pos (by omega)]
theorem hexV_no {n : Nat} {c : UInt8} {l : List UInt8} (h : hv c = none) : hexV n (c :: l) = none := by simp only [hexV, h]
theorem hexPost_none {l : List UInt8} (h : hexV 0 l = none) : hexPost l (.returned (.tuple #[.int .i64 0, .bool false])) := by unfold hexPost; rw [h]
theorem hexPost_some {l : List UInt8} {n : Nat} (h : hexV 0 l = some n) (b : Bool) (hb : b = !l.isEmpty) : hexPost l (.returned (.tuple #[.int .i64 (n : Int), .bool b])) := by unfold hexPost; rw [h, hb]

set_option maxRecDepth 100000 in
set_option maxHeartbeats 4000000 in
theorem hex_calls (s : ByteArray) (hs : s.size ≤ 1099511627776) (w : World) : Calls Try.prog 31 #[.string s] w fun e w' => hexPost s.data.toList e ∧ w' = w := by
  go_enter Try.func31, Try.ntmps31
  go_wp2
  go_loop [4, 9] (fun v i => ∃ k n : Nat, k ≤ s.size ∧ i = .int .i64 k ∧ v = .int .i64 n ∧ n ≤ 1114111 ∧ Hid (hexV 0 s.data.toList = hexV n (s.data.toList.drop k))) (fun _ i => s.size - (intOf i).toNat)
  case atStart => exact ⟨0, 0, Nat.zero_le _, rfl, rfl, by omega, Lib.hid rfl⟩
  case round =>
    obtain ⟨k, n, hk, rfl, rfl, hn, hh⟩ := hrel
    by_cases hlt : k < s.size
    · have hlt' : (k : Int) < (s.size : Int) := by omega
      have hx := drop_at (Lib.data_getElem? s k hlt)
      have Hx := Lib.hid hx
      have hb := s[k].toNat_lt
      clear hx
      rcases (show s[k].toNat < 48 ∨ (48 ≤ s[k].toNat ∧ s[k].toNat ≤ 57) ∨ (58 ≤ s[k].toNat ∧ s[k].toNat ≤ 64) ∨ (65 ≤ s[k].toNat ∧ s[k].toNat ≤ 70) ∨ (71 ≤ s[k].toNat ∧ s[k].toNat ≤ 96) ∨ (97 ≤ s[k].toNat ∧ s[k].toNat ≤ 102) ∨ 103 ≤ s[k].toNat by omega) with hc | hc | hc | hc | hc | hc | hc
      · have hlo : (0 : Int) ≤ (s[k].toNat : Int) := by omega
        have hhi : (s[k].toNat : Int) ≤ 47 := by omega
        have HN := Lib.hid (show hexV 0 s.data.toList = none by rw [hh.out, Hx.out]; exact hexV_no (by unfold hv; rw [if_neg (by omega), if_neg (by omega), if_neg (by omega)]))
        clear hc
        go_wp2
        go_ret2
        exact ⟨hexPost_none HN.out, rfl⟩
      · have hlo : (48 : Int) ≤ (s[k].toNat : Int) := by omega
        have hhi : (s[k].toNat : Int) ≤ 57 := by omega
        have Hd := Lib.hid (show hv s[k] = some (s[k].toNat - 48) by unfold hv; rw [if_pos hc])
        obtain ⟨m, hm, Hm⟩ : ∃ m : Nat, (16 * (n : Int) + ((s[k].toNat : Int) - 48) : Int) = (m : Int) ∧ Hid (m = 16 * n + (s[k].toNat - 48)) := ⟨16 * n + (s[k].toNat - 48), by omega, Lib.hid rfl⟩
        clear hc
        by_cases hm2 : m ≤ 1114111
        · have hm3 : ¬ (1114111 : Int) < (m : Int) := by omega
          have HN := Lib.hid (show hexV 0 s.data.toList = hexV m (s.data.toList.drop (k + 1)) by rw [hh.out, Hx.out, hexV_yes Hd.out (by rw [← Hm.out]; exact hm2), ← Hm.out])
          go_wp2
          go_round
          case rel => exact ⟨k + 1, m, by omega, by go_num, by first | rfl | go_num, hm2, HN⟩
          case measure => simp [intOf]; omega
        · have hm3 : (1114111 : Int) < (m : Int) := by omega
          have HN := Lib.hid (show hexV 0 s.data.toList = none by rw [hh.out, Hx.out, hexV_great Hd.out (by rw [← Hm.out]; exact hm2)])
          go_wp2
          go_ret2
          exact ⟨hexPost_none HN.out, rfl⟩
      · have hlo : (58 : Int) ≤ (s[k].toNat : Int) := by omega
        have hhi : (s[k].toNat : Int) ≤ 64 := by omega
        have HN := Lib.hid (show hexV 0 s.data.toList = none by rw [hh.out, Hx.out]; exact hexV_no (by unfold hv; rw [if_neg (by omega), if_neg (by omega), if_neg (by omega)]))
        clear hc
        go_wp2
        go_ret2
        exact ⟨hexPost_none HN.out, rfl⟩
      · have hlo : (65 : Int) ≤ (s[k].toNat : Int) := by omega
        have hhi : (s[k].toNat : Int) ≤ 70 := by omega
        have Hd := Lib.hid (show hv s[k] = some (s[k].toNat - 65 + 10) by unfold hv; rw [if_neg (by omega), if_neg (by omega), if_pos hc])
        obtain ⟨m, hm, Hm⟩ : ∃ m : Nat, (16 * (n : Int) + ((s[k].toNat : Int) - 65) + 10 : Int) = (m : Int) ∧ Hid (m = 16 * n + (s[k].toNat - 65 + 10)) := ⟨16 * n + (s[k].toNat - 65 + 10), by omega, Lib.hid rfl⟩
        clear hc
        by_cases hm2 : m ≤ 1114111
        · have hm3 : ¬ (1114111 : Int) < (m : Int) := by omega
          have HN := Lib.hid (show hexV 0 s.data.toList = hexV m (s.data.toList.drop (k + 1)) by rw [hh.out, Hx.out, hexV_yes Hd.out (by rw [← Hm.out]; exact hm2), ← Hm.out])
          go_wp2
          go_round
          case rel => exact ⟨k + 1, m, by omega, by go_num, by first | rfl | go_num, hm2, HN⟩
          case measure => simp [intOf]; omega
        · have hm3 : (1114111 : Int) < (m : Int) := by omega
          have HN := Lib.hid (show hexV 0 s.data.toList = none by rw [hh.out, Hx.out, hexV_great Hd.out (by rw [← Hm.out]; exact hm2)])
          go_wp2
          go_ret2
          exact ⟨hexPost_none HN.out, rfl⟩
      · have hlo : (71 : Int) ≤ (s[k].toNat : Int) := by omega
        have hhi : (s[k].toNat : Int) ≤ 96 := by omega
        have HN := Lib.hid (show hexV 0 s.data.toList = none by rw [hh.out, Hx.out]; exact hexV_no (by unfold hv; rw [if_neg (by omega), if_neg (by omega), if_neg (by omega)]))
        clear hc
        go_wp2
        go_ret2
        exact ⟨hexPost_none HN.out, rfl⟩
      · have hlo : (97 : Int) ≤ (s[k].toNat : Int) := by omega
        have hhi : (s[k].toNat : Int) ≤ 102 := by omega
        have Hd := Lib.hid (show hv s[k] = some (s[k].toNat - 97 + 10) by unfold hv; rw [if_neg (by omega), if_pos hc])
        obtain ⟨m, hm, Hm⟩ : ∃ m : Nat, (16 * (n : Int) + ((s[k].toNat : Int) - 97) + 10 : Int) = (m : Int) ∧ Hid (m = 16 * n + (s[k].toNat - 97 + 10)) := ⟨16 * n + (s[k].toNat - 97 + 10), by omega, Lib.hid rfl⟩
        clear hc
        by_cases hm2 : m ≤ 1114111
        · have hm3 : ¬ (1114111 : Int) < (m : Int) := by omega
          have HN := Lib.hid (show hexV 0 s.data.toList = hexV m (s.data.toList.drop (k + 1)) by rw [hh.out, Hx.out, hexV_yes Hd.out (by rw [← Hm.out]; exact hm2), ← Hm.out])
          go_wp2
          go_round
          case rel => exact ⟨k + 1, m, by omega, by go_num, by first | rfl | go_num, hm2, HN⟩
          case measure => simp [intOf]; omega
        · have hm3 : (1114111 : Int) < (m : Int) := by omega
          have HN := Lib.hid (show hexV 0 s.data.toList = none by rw [hh.out, Hx.out, hexV_great Hd.out (by rw [← Hm.out]; exact hm2)])
          go_wp2
          go_ret2
          exact ⟨hexPost_none HN.out, rfl⟩
      · have hlo : (103 : Int) ≤ (s[k].toNat : Int) := by omega
        have hhi : (s[k].toNat : Int) ≤ 255 := by omega
        have HN := Lib.hid (show hexV 0 s.data.toList = none by rw [hh.out, Hx.out]; exact hexV_no (by unfold hv; rw [if_neg (by omega), if_neg (by omega), if_neg (by omega)]))
        clear hc
        go_wp2
        go_ret2
        exact ⟨hexPost_none HN.out, rfl⟩
    · have HN := Lib.hid (show hexV 0 s.data.toList = some n by rw [hh.out, List.drop_eq_nil_of_le (by simp; show s.size ≤ k; omega)]; rfl)
      cases he : s.toList.isEmpty with
      | true =>
        have HE := Lib.hid (show true = s.data.toList.isEmpty by rw [← Go.ByteArray.toList_eq, he])
        have he2 : s.toList = [] := by simpa using he
        clear he
        go_wp2
        go_ret2
        exact ⟨hexPost_some HN.out false (by rw [← HE.out]; rfl), rfl⟩
      | false =>
        have HE := Lib.hid (show false = s.data.toList.isEmpty by rw [← Go.ByteArray.toList_eq, he])
        go_wp2
        go_ret2
        exact ⟨hexPost_some HN.out true (by rw [← HE.out]; rfl), rfl⟩

set_option maxHeartbeats 1000000 in
theorem four_calls (s : ByteArray) (u : Nat) (h5 : 5 ≤ s.size) (hs : s.size ≤ 1099511627776) (h0 : (s[0].toNat : Int) = 117) (hu : u ≤ 65535) (hv1 : hexV 0 (s.extract 1 5).data.toList = some u) (w : World) :
    Calls Try.prog 24 #[.string s] w fun e w' => e = .returned (.tuple #[.int .u16 (u : Int), .int .i64 5, .bool true]) ∧ w' = w := by
  have q0 : ¬ (s.size : Int) < 5 := by omega
  have t0 : ((s[0].toNat : Int) != 117) = false := by rw [h0]; rfl
  have hsl : ∀ W, (Instr.slice 9 (Value.string s) (some (Value.int IntKind.i64 1)) (some (Value.int IntKind.i64 5)) none).run Try.prog W = .ok (.string (s.extract 1 5)) W := fun W => by
    have := run_slice_string_if (P := Try.prog) W 9 s .i64 .i64 1 5 Try.underlying9
    rw [if_pos ⟨by omega, by omega⟩, if_pos ⟨by omega, by omega⟩] at this
    exact this
  have hms : (s.extract 1 5).size = 4 := by rw [ByteArray.size_extract]; omega
  obtain ⟨m, hm⟩ : ∃ m, m = s.extract 1 5 := ⟨_, rfl⟩
  rw [← hm] at hsl hv1 hms
  have hme : (!m.data.toList.isEmpty) = true := by
    have e : m.data.toList.length = m.size := by simp
    cases h : m.data.toList with
    | nil => rw [h] at e; simp at e; omega
    | cons a l => rfl
  have hms2 : m.size ≤ 1099511627776 := by omega
  have HV := Lib.hid hv1
  have HE := Lib.hid hme
  clear h0 hv1 hms hm hme
  go_enter Try.func24, Try.ntmps24
  go_wp2_with fail
  refine (hex_calls m hms2 _).mono ?_
  rintro e w1 ⟨he, rfl⟩
  have he2 : e = .returned (.tuple #[.int .i64 (u : Int), .bool true]) := by
    unfold hexPost at he
    rw [HV.out] at he
    rw [he, HE.out]
  subst he2
  clear he
  go_wp2
  go_ret3
  exact ⟨rfl, rfl⟩
end Go.Proofs.Ytolgpnkofnibjaa
