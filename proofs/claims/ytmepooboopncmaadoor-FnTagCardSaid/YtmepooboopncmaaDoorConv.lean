/- A slice of bytes turned into a text. -/
import Derived.Laws.BytesString
import Derived.Laws.Rows
import Derived.Test.YtmepooboopncmaaDoorMem
namespace Stamp
open Go Go.RowKit

def bytesV (l : List UInt8) : List Value := l.map fun b => Value.int .u8 (b.toNat : Int)

theorem push_all (l : List UInt8) (acc : Array UInt8) :
    (l.map fun b => (b.toNat : Int)).foldl (fun r n => ByteArray.push r (UInt8.ofNat n.toNat)) ⟨acc⟩ = ⟨acc ++ l.toArray⟩ := by
  induction l generalizing acc with
  | nil => simp
  | cons b l ih =>
    simp only [List.map_cons, List.foldl_cons]
    have e : ByteArray.push ⟨acc⟩ (UInt8.ofNat ((b.toNat : Int)).toNat) = ⟨acc.push b⟩ := by
      simp [ByteArray.push]
    rw [e, ih]
    simp

theorem run_bytes_text {P : Program} (w : World) (src dst e : TypeId) (hs : P.underlying src = some (.slice e)) (he : P.underlying e = some (.int .u8)) (hd : P.underlying dst = some .string)
    (B : Nat) (A : Option Addr) (n c : Nat) (l : List UInt8) (hl : l.length = n) (hh : Holds w B A (bytesV l)) :
    (convert src dst (.slice A n c)).run P w = .ok (.string ⟨l.toArray⟩) w := by
  rw [run_convert_bytes_string w src dst e A n c hs he hd]
  rcases l with _ | ⟨b0, l⟩
  · simp only [List.length_nil] at hl
    subst hl
    cases A with
    | none => simp [Conv.bytesToString]; rfl
    | some a =>
      rw [run_bytesToString w a 0 c [] (by simpa using run_loadCells_list (P := P) w a [] (by simp))]
      rfl
  · obtain ⟨b, off, rfl, _, hc⟩ := hh (by simp [bytesV])
    have hload := run_loadCells_list (P := P) w ⟨b, off, none⟩ (bytesV (b0 :: l)) (fun j v hv => by rw [addr_flat]; exact hc j v hv)
    have e1 : bytesV (b0 :: l) = ((b0 :: l).map fun b => (b.toNat : Int)).map (Value.int .u8) := by simp [bytesV]
    have e2 : (bytesV (b0 :: l)).length = n := by simp only [bytesV, List.length_map]; exact hl
    rw [e2] at hload
    rw [run_bytesToString w ⟨b, off, none⟩ n c ((b0 :: l).map fun b => (b.toNat : Int)) (by rw [hload, e1])]
    have := push_all (b0 :: l) #[]
    rw [show (ByteArray.empty : ByteArray) = ⟨#[]⟩ from rfl, this]
    simp
end Stamp
