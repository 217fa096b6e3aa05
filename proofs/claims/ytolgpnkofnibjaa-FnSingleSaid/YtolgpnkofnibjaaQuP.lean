/- Plain laws: how a text is quoted. -/
import Derived.Test.YtolgpnkofnibjaaPv
namespace Stamp

/-- whether a code point stands as it is -/
def cpB (p : Nat) (ascii : Bool) : Bool :=
  if p ≤ 126 then decide (32 ≤ p) && decide (p ≠ 92) && decide (p ≠ 34) else !ascii && decide (p ≠ 65279) && (decide (p < 55296) || decide (57343 < p))

def hexD (d : Nat) : Nat := if d < 10 then 48 + d else 55 + d
def hex4 (p : Nat) : List Nat := [92, 117, hexD (p / 4096), hexD (p / 256 % 16), hexD (p / 16 % 16), hexD (p % 16)]

/-- what a code point is written as, as numbers of bytes -/
def esc (q p : Nat) : List Nat :=
  if p = 8 then [92, 98] else if p = 12 then [92, 102] else if p = 10 then [92, 110] else if p = 13 then [92, 114] else if p = 9 then [92, 116] else if p = 92 then [92, 92]
  else if p = 34 then (if q = 34 then [92, 34] else [34])
  else if p ≤ 65535 then hex4 p
  else hex4 (55296 + (p - 65536) / 1024) ++ hex4 (56320 + (p - 65536) % 1024)
def nums (l : List UInt8) : List Nat := l.map UInt8.toNat
def q1 (ascii : Bool) (q p : Nat) : List Nat := if cpB p ascii then nums (enc p) else esc q p
def qAll (ascii : Bool) (q : Nat) : List Nat → List Nat
  | [] => []
  | p :: r => q1 ascii q p ++ qAll ascii q r
def quoted (ascii : Bool) (q : Nat) (ps : List Nat) : List Nat := q :: (qAll ascii q ps ++ [q])

theorem qAll_append (ascii : Bool) (q : Nat) (a b : List Nat) : qAll ascii q (a ++ b) = qAll ascii q a ++ qAll ascii q b := by
  induction a with
  | nil => rfl
  | cons p r ih => simp [qAll, ih]
theorem qAll_one (ascii : Bool) (q p : Nat) : qAll ascii q [p] = q1 ascii q p := by simp [qAll]
theorem nums_append (a b : List UInt8) : nums (a ++ b) = nums a ++ nums b := by simp [nums]
theorem nums_len (a : List UInt8) : (nums a).length = a.length := by simp [nums]
theorem qAll_run (ascii : Bool) (q : Nat) (run : List Nat) (h : ∀ p ∈ run, cpB p ascii = true) : qAll ascii q run = nums (encAll run) := by
  induction run with
  | nil => rfl
  | cons p r ih =>
    simp only [qAll, encAll, nums_append, q1, h p (by simp), if_true]
    rw [ih (fun x hx => h x (by simp [hx]))]
theorem esc_len (q p : Nat) : 1 ≤ (esc q p).length ∧ (esc q p).length ≤ 12 := by
  unfold esc
  repeat' split
  all_goals simp [hex4]
theorem q1_len (ascii : Bool) (q p : Nat) : (q1 ascii q p).length ≤ 12 := by
  unfold q1
  split
  · rw [nums_len]; have := (enc_len p).2; omega
  · exact (esc_len q p).2
theorem qAll_len (ascii : Bool) (q : Nat) (ps : List Nat) : (qAll ascii q ps).length ≤ 12 * ps.length := by
  induction ps with
  | nil => simp [qAll]
  | cons p r ih => have := q1_len ascii q p; simp [qAll]; omega
theorem encAll_len (ps : List Nat) : ps.length ≤ (encAll ps).length := by
  induction ps with
  | nil => simp
  | cons p r ih => have := (enc_len p).1; simp [encAll]; omega
end Stamp
