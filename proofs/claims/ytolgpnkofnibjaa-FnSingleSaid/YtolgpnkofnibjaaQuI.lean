/- The contracts of 'QuoteForJSON', 'QuoteSingle', 'impl.QuoteJSON', 'impl.QuoteSingle'. -/
import Derived.Test.YtolgpnkofnibjaaQuW
import Derived.Test.YtolgpnkofnibjaaQuL
import Derived.Test.YtolgpnkofnibjaaConv
namespace Go.Proofs.Ytolgpnkofnibjaa
open Go.RowKit Stamp
set_option linter.unusedVariables false

def bsN (l : List Nat) : ByteArray := ⟨(toU l).toArray⟩
theorem bsN_data (l : List Nat) : (bsN l).data.toList = toU l := by simp [bsN]
theorem bsN_size (l : List Nat) : (bsN l).size = l.length := by simp [bsN, ByteArray.size, toU_len]
theorem bytesV_toU {l : List Nat} (h : ∀ x ∈ l, x < 256) : bytesV (toU l) = l.map u8N := by
  unfold bytesV
  have := u8_cells (toU l)
  rw [nums_toU h] at this
  exact this

set_option maxHeartbeats 400000 in
theorem q28 (s : ByteArray) (ps : List Nat) (hl : s.data.toList = encAll ps) (hps : ∀ p ∈ ps, Scalar p) (hs : s.size ≤ 8589934592) (ascii : Bool) (w : World) :
    Calls Try.prog 28 #[.string s, .bool ascii] w (QuPost (Stamp.quoted ascii 34 ps) w) := by
  have HI := Lib.hid (fun w => iq s ps hl hps hs ascii 34 (by decide) w)
  clear hl hps hs
  go_enter Try.func28, Try.ntmps28
  go_wp2_with fail
  refine (HI.out _).mono ?_
  rintro e w1 ⟨A, c, rfl, h1, h2, h3, h4⟩
  go_wp2
  go_ret
  exact ⟨A, c, rfl, h1, h2, h3, h4⟩
set_option maxHeartbeats 400000 in
theorem q30 (s : ByteArray) (ps : List Nat) (hl : s.data.toList = encAll ps) (hps : ∀ p ∈ ps, Scalar p) (hs : s.size ≤ 8589934592) (ascii : Bool) (w : World) :
    Calls Try.prog 30 #[.string s, .bool ascii] w (QuPost (Stamp.quoted ascii 39 ps) w) := by
  have HI := Lib.hid (fun w => iq s ps hl hps hs ascii 39 (by decide) w)
  clear hl hps hs
  go_enter Try.func30, Try.ntmps30
  go_wp2_with fail
  refine (HI.out _).mono ?_
  rintro e w1 ⟨A, c, rfl, h1, h2, h3, h4⟩
  go_wp2
  go_ret
  exact ⟨A, c, rfl, h1, h2, h3, h4⟩

set_option maxHeartbeats 400000 in
theorem QJ (s : ByteArray) (ps : List Nat) (hl : s.data.toList = encAll ps) (hps : ∀ p ∈ ps, Scalar p) (hs : s.size ≤ 8589934592) (ascii : Bool) (w : World) :
    Calls Try.prog 12 #[.string s, .bool ascii] w fun e w' => e = .returned (.string (bsN (Stamp.quoted ascii 34 ps))) ∧ Below w.heap.size w w' := by
  have HI := Lib.hid (fun w => q28 s ps hl hps hs ascii w)
  have HB := Lib.hid (fun x hx => (quoted_bd (ascii := ascii) (q := 34) (by decide) hps x hx).1)
  clear hl hps hs
  go_enter Try.func12, Try.ntmps12
  go_wp2_with fail
  refine (HI.out _).mono ?_
  rintro e w1 ⟨A, c, rfl, h1, h2, h3, h4⟩
  have hcv := run_bytes_text (P := Try.prog) w1 47 9 5 Try.underlying47 Try.underlying5 Try.underlying9 w1.heap.size A (Stamp.quoted ascii 34 ps).length c (toU (Stamp.quoted ascii 34 ps)) (toU_len _) (by rw [bytesV_toU HB.out]; exact h3)
  clear h3
  go_wp2
  go_ret
  exact ⟨rfl, h4⟩
set_option maxHeartbeats 400000 in
theorem QS (s : ByteArray) (ps : List Nat) (hl : s.data.toList = encAll ps) (hps : ∀ p ∈ ps, Scalar p) (hs : s.size ≤ 8589934592) (ascii : Bool) (w : World) :
    Calls Try.prog 18 #[.string s, .bool ascii] w fun e w' => e = .returned (.string (bsN (Stamp.quoted ascii 39 ps))) ∧ Below w.heap.size w w' := by
  have HI := Lib.hid (fun w => q30 s ps hl hps hs ascii w)
  have HB := Lib.hid (fun x hx => (quoted_bd (ascii := ascii) (q := 39) (by decide) hps x hx).1)
  clear hl hps hs
  go_enter Try.func18, Try.ntmps18
  go_wp2_with fail
  refine (HI.out _).mono ?_
  rintro e w1 ⟨A, c, rfl, h1, h2, h3, h4⟩
  have hcv := run_bytes_text (P := Try.prog) w1 47 9 5 Try.underlying47 Try.underlying5 Try.underlying9 w1.heap.size A (Stamp.quoted ascii 39 ps).length c (toU (Stamp.quoted ascii 39 ps)) (toU_len _) (by rw [bytesV_toU HB.out]; exact h3)
  clear h3
  go_wp2
  go_ret
  exact ⟨rfl, h4⟩
end Go.Proofs.Ytolgpnkofnibjaa
