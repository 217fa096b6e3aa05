/- The contract of 'spec.Decoded'. -/
import Derived.Test.YtjinfkhnijokmaaDoorPcA
import Derived.Test.YtjinfkhnijokmaaDoorApp
import Derived.Test.YtjinfkhnijokmaaDoorConv
namespace Go.Proofs.YtjinfkhnijokmaaDoor
open Go.RowKit Stamp
set_option linter.unusedVariables false

theorem infoU8 : (Tryd.prog.info? 5).map (fun i => (i.zero, i.size, i.bytes)) = some (some (.int .u8 0), 1, 1) := by kernel_rfl
theorem oneCell_b8 {l : List UInt8} : ∀ u ∈ bytesV l, u.oneCell' = true := by
  intro u hu
  obtain ⟨x, _, rfl⟩ := List.mem_map.1 hu
  rfl
theorem bytesV_snoc (l : List UInt8) (b : UInt8) : bytesV l ++ [.int .u8 (b.toNat : Int)] = bytesV (l ++ [b]) := by simp [bytesV]
theorem decS {l : List UInt8} {done : List UInt8} {k : Nat} (c : UInt8) (h : dec l = done ++ dec (l.drop k)) {d : UInt8} {m : Nat} (hd : dec (l.drop k) = d :: dec (l.drop m)) : dec l = (done ++ [d]) ++ dec (l.drop m) := by
  rw [h, hd]; simp
theorem two_at {s : ByteArray} {k : Nat} (h : k + 2 < s.size) : ∃ a b, s.data.toList.drop k = s[k] :: a :: b :: s.data.toList.drop (k + 3) ∧ (s.extract (k + 1) (k + 3)).data.toList = [a, b] := by
  refine ⟨s[k + 1], s[k + 2], ?_, ?_⟩
  · rw [drop_at (bytes_at s k (by omega)), drop_at (bytes_at s (k + 1) (by omega)), drop_at (bytes_at s (k + 2) (by omega))]
  · rw [ByteArray.data_extract, Array.toList_extract, List.extract_eq_take_drop, drop_at (bytes_at s (k + 1) (by omega)), drop_at (bytes_at s (k + 2) (by omega)), show k + 3 - (k + 1) = 2 by omega]
    rfl
theorem hx2_short {s : ByteArray} {k : Nat} (h : ¬ k + 2 < s.size) : hx2 (s.data.toList.drop (k + 1)) = false := by
  have e : (s.data.toList.drop (k + 1)).length = s.size - (k + 1) := by simp
  match hl : s.data.toList.drop (k + 1), e with
  | [], _ => rfl
  | [_], _ => rfl
  | _ :: _ :: _, e => simp at e; omega

set_option maxRecDepth 100000 in
set_option maxHeartbeats 4000000 in
theorem Decoded_calls (s : ByteArray) (hs : s.size ≤ 8589934592) (w : World) : Calls Tryd.prog 15 #[.string s] w fun e w' => e = .returned (.string ⟨(dec s.data.toList).toArray⟩) ∧ Below w.heap.size w w' := by
  obtain ⟨i0, hi0, hz0, hz1, hz2⟩ := info_parts infoU8
  go_enter Tryd.func15, Tryd.ntmps15
  go_wp2
  go_loopw [3, 4] (fun v i wr => ∃ (k : Nat) (done : List UInt8), k ≤ s.size ∧ i = .int .i64 k ∧ Hid (dec s.data.toList = done ++ dec (s.data.toList.drop k)) ∧ done.length ≤ k ∧ wr.ownsRow w.heap.size 5 1 v done.length (bytesV done) ∧ Below w.heap.size w wr) (fun _ i _ => s.size - (intOf i).toNat)
  case atStart => exact ⟨0, [], Nat.zero_le _, rfl, Lib.hid rfl, Nat.le_refl _, World.ownsRow_nil _ _ _ _, Below.refl _ _⟩
  case round =>
    obtain ⟨k, done, hk, rfl, hh, hdl, hown, hb⟩ := hrel
    have hbs := hb.size
    by_cases hlt : k < s.size
    · have hlt' : (k : Int) < (s.size : Int) := by omega
      have Hx := Lib.hid (drop_at (bytes_at s k hlt))
      by_cases h37 : s[k].toNat = 37
      · have t1 : ((s[k].toNat : Int) == 37) = true := by simp; omega
        by_cases h2 : k + 2 < s.size
        · have h2' : (k : Int) + 2 < (s.size : Int) := by omega
          obtain ⟨a, b, e1, e2⟩ := two_at h2
          have hsz : (s.extract (k + 1) (k + 3)).size = 2 := by rw [ByteArray.size_extract]; omega
          have H2 := Lib.hid e2
          have H1 := Lib.hid e1
          have h3 : (k : Int) + 3 ≤ (s.size : Int) := by omega
          have hsl : ∀ W, (Instr.slice 9 (Value.string s) (some (Value.int IntKind.i64 ((k : Int) + 1))) (some (Value.int IntKind.i64 ((k : Int) + 3))) none).run Tryd.prog W = .ok (.string (s.extract (k + 1) (k + 3))) W := fun W => by
            have := run_slice_string_if (P := Tryd.prog) W 9 s .i64 .i64 ((k : Int) + 1) ((k : Int) + 3) Tryd.underlying9
            rw [if_pos ⟨by omega, by omega⟩, if_pos ⟨by omega, by omega⟩] at this
            exact this
          obtain ⟨m, Hm⟩ : ∃ m, Hid (m = s.extract (k + 1) (k + 3)) := ⟨_, Lib.hid rfl⟩
          rw [← Hm.out] at hsl H2
          clear e1 e2 hsz
          cases hxx : (isHx a && isHx b) with
          | true =>
            have hx1 : isHx a = true := by simp at hxx; exact hxx.1
            have hx3 : isHx b = true := by simp at hxx; exact hxx.2
            have hva := (hv_some hx1).2
            have hvb := (hv_some hx3).2
            obtain ⟨z, Hz, hz⟩ : ∃ z : Nat, Hid (z = 16 * hvN a + hvN b) ∧ z ≤ 255 := ⟨_, Lib.hid rfl, by omega⟩
            have HN := Lib.hid (show dec s.data.toList = (done ++ [UInt8.ofNat z]) ++ dec (s.data.toList.drop (k + 3)) by
              refine decS s[k] hh.out ?_
              rw [H1.out, dec_yes h37 hx1 hx3, Hz.out])
            have HC : Hid (∀ W, Calls Tryd.prog 23 #[.string m] W fun e w' => e = .returned (.tuple #[.int .i64 (z : Int), .bool true]) ∧ w' = W) := Lib.hid fun W => by
              refine (hex_two m a b H2.out W).mono ?_
              rintro e w' ⟨rfl, rfl⟩
              rw [hxx, if_pos rfl, Hz.out]
              exact ⟨rfl, rfl⟩
            have hzz : ((UInt8.ofNat z).toNat : Int) = (z : Int) := by rw [toNat_ofNat_lt (by omega)]
            clear hva hvb hx1 hx3 hxx h37
            go_wp2_with fail
            refine (HC.out _).mono ?_
            rintro e wr ⟨rfl, rfl⟩
            go_wp2_with (at_builtin
                         refine wpList_append_holds _ rfl (.tmp 35) (.tmp 38) _ rfl w.heap.size 5 i0 _ 1 1 Tryd.underlying32 hi0 hz0 hz1 hz2 rfl (by omega) _ done.length (bytesV done) rfl (hown.alloc _) (wr.heap.size + 1) _ 1 1 [.int .u8 (z : Int)] rfl rfl (Holds.one _ _ _) (by simp [Value.oneCell']) (by simp only [maxLen]; omega) (by omega) (by simp; omega) ?_
                         intro v1 w4 hown4 hg4 hat4)
            have hb4 := Below.grown (hb.alloc hbs (.cells #[.int .u8 (z : Int)] 5)) hg4 (by simp; omega) (own_row_ge hown)
            have q := own_form hown4
            obtain ⟨A4, c4, rfl, _, _, _⟩ := q
            have hown5 : w4.ownsRow w.heap.size 5 1 (.slice A4 (done.length + 1) c4) (done ++ [UInt8.ofNat z]).length (bytesV (done ++ [UInt8.ofNat z])) := by
              rw [← bytesV_snoc, List.length_append]
              rw [hzz]; exact hown4
            clear hown4 hg4 hat4 hown hb
            go_wp2
            go_roundw
            case rel => exact ⟨k + 3, done ++ [UInt8.ofNat z], by omega, by go_num, HN, by rw [List.length_append]; simp; omega, hown5, hb4⟩
            case measure => simp [intOf]; omega
          | false =>
            have hn : s[k].toNat ≠ 37 ∨ hx2 (s.data.toList.drop (k + 1)) = false := by
              right
              have e3 : s.data.toList.drop (k + 1) = a :: b :: s.data.toList.drop (k + 3) := by
                have e4 := H1.out
                rw [Hx.out] at e4
                injection e4
              rw [e3]; exact hxx
            have HN := Lib.hid (show dec s.data.toList = (done ++ [s[k]]) ++ dec (s.data.toList.drop (k + 1)) by
              refine decS s[k] hh.out ?_
              rw [Hx.out, dec_no hn])
            have HC : Hid (∀ W, Calls Tryd.prog 23 #[.string m] W fun e w' => e = .returned (.tuple #[.int .i64 0, .bool false]) ∧ w' = W) := Lib.hid fun W => by
              refine (hex_two m a b H2.out W).mono ?_
              rintro e w' ⟨rfl, rfl⟩
              rw [hxx]
              exact ⟨rfl, rfl⟩
            clear hxx h37 hn
            go_wp2_with fail
            refine (HC.out _).mono ?_
            rintro e wr ⟨rfl, rfl⟩
            go_wp2_with (at_builtin
                         refine wpList_append_holds _ rfl (.tmp 42) (.tmp 46) _ rfl w.heap.size 5 i0 _ 1 1 Tryd.underlying32 hi0 hz0 hz1 hz2 rfl (by omega) _ done.length (bytesV done) rfl (hown.alloc _) (wr.heap.size + 1) _ 1 1 [.int .u8 (s[k].toNat : Int)] rfl rfl (Holds.one _ _ _) (by simp [Value.oneCell']) (by simp only [maxLen]; omega) (by omega) (by simp; omega) ?_
                         intro v1 w4 hown4 hg4 hat4)
            have hb4 := Below.grown (hb.alloc hbs (.cells #[.int .u8 (s[k].toNat : Int)] 5)) hg4 (by simp; omega) (own_row_ge hown)
            have q := own_form hown4
            obtain ⟨A4, c4, rfl, _, _, _⟩ := q
            have hown5 : w4.ownsRow w.heap.size 5 1 (.slice A4 (done.length + 1) c4) (done ++ [s[k]]).length (bytesV (done ++ [s[k]])) := by
              rw [← bytesV_snoc, List.length_append]
              exact hown4
            clear hown4 hg4 hat4 hown hb
            go_wp2
            go_roundw
            case rel => exact ⟨k + 1, done ++ [s[k]], by omega, by go_num, HN, by rw [List.length_append]; simp; omega, hown5, hb4⟩
            case measure => simp [intOf]; omega
        · have h2' : ¬ (k : Int) + 2 < (s.size : Int) := by omega
          have hn : s[k].toNat ≠ 37 ∨ hx2 (s.data.toList.drop (k + 1)) = false := .inr (hx2_short h2)
          have HN := Lib.hid (show dec s.data.toList = (done ++ [s[k]]) ++ dec (s.data.toList.drop (k + 1)) by
            refine decS s[k] hh.out ?_
            rw [Hx.out, dec_no hn])
          clear h37 hn
          go_wp2_with (at_builtin
                       refine wpList_append_holds _ rfl (.tmp 42) (.tmp 46) _ rfl w.heap.size 5 i0 _ 1 1 Tryd.underlying32 hi0 hz0 hz1 hz2 rfl (by omega) _ done.length (bytesV done) rfl (hown.alloc _) (wr.heap.size + 1) _ 1 1 [.int .u8 (s[k].toNat : Int)] rfl rfl (Holds.one _ _ _) (by simp [Value.oneCell']) (by simp only [maxLen]; omega) (by omega) (by simp; omega) ?_
                       intro v1 w4 hown4 hg4 hat4)
          have hb4 := Below.grown (hb.alloc hbs (.cells #[.int .u8 (s[k].toNat : Int)] 5)) hg4 (by simp; omega) (own_row_ge hown)
          have q := own_form hown4
          obtain ⟨A4, c4, rfl, _, _, _⟩ := q
          have hown5 : w4.ownsRow w.heap.size 5 1 (.slice A4 (done.length + 1) c4) (done ++ [s[k]]).length (bytesV (done ++ [s[k]])) := by
            rw [← bytesV_snoc, List.length_append]
            exact hown4
          clear hown4 hg4 hat4 hown hb
          go_wp2
          go_roundw
          case rel => exact ⟨k + 1, done ++ [s[k]], by omega, by go_num, HN, by rw [List.length_append]; simp; omega, hown5, hb4⟩
          case measure => simp [intOf]; omega
      · have t1 : ((s[k].toNat : Int) == 37) = false := by simp; omega
        have HN := Lib.hid (show dec s.data.toList = (done ++ [s[k]]) ++ dec (s.data.toList.drop (k + 1)) by
          refine decS s[k] hh.out ?_
          rw [Hx.out, dec_no (.inl h37)])
        clear h37
        go_wp2_with (at_builtin
                     refine wpList_append_holds _ rfl (.tmp 42) (.tmp 46) _ rfl w.heap.size 5 i0 _ 1 1 Tryd.underlying32 hi0 hz0 hz1 hz2 rfl (by omega) _ done.length (bytesV done) rfl (hown.alloc _) (wr.heap.size + 1) _ 1 1 [.int .u8 (s[k].toNat : Int)] rfl rfl (Holds.one _ _ _) (by simp [Value.oneCell']) (by simp only [maxLen]; omega) (by omega) (by simp; omega) ?_
                     intro v1 w4 hown4 hg4 hat4)
        have hb4 := Below.grown (hb.alloc hbs (.cells #[.int .u8 (s[k].toNat : Int)] 5)) hg4 (by simp; omega) (own_row_ge hown)
        have q := own_form hown4
        obtain ⟨A4, c4, rfl, _, _, _⟩ := q
        have hown5 : w4.ownsRow w.heap.size 5 1 (.slice A4 (done.length + 1) c4) (done ++ [s[k]]).length (bytesV (done ++ [s[k]])) := by
          rw [← bytesV_snoc, List.length_append]
          exact hown4
        clear hown4 hg4 hat4 hown hb
        go_wp2
        go_roundw
        case rel => exact ⟨k + 1, done ++ [s[k]], by omega, by go_num, HN, by rw [List.length_append]; simp; omega, hown5, hb4⟩
        case measure => simp [intOf]; omega
    · obtain rfl : k = s.size := by omega
      have HN := Lib.hid (show done = dec s.data.toList by rw [hh.out, List.drop_eq_nil_of_le (by simp)]; simp [dec])
      have q := own_form hown
      obtain ⟨A4, c4, rfl, _, _, hh4⟩ := q
      have hcv := run_bytes_text (P := Tryd.prog) wr 32 9 5 Tryd.underlying32 Tryd.underlying5 Tryd.underlying9 wr.heap.size A4 done.length c4 done rfl hh4
      clear hown hh4
      go_wp2
      go_ret
      exact ⟨by rw [HN.out]; rfl, hb⟩
end Go.Proofs.YtjinfkhnijokmaaDoor
