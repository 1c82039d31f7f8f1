/- PLAIN LAWS for 'calendar.LawS3623ABuilt': the string that the law builds: L digits, a unit, a tail. -/
import Derived.Test.YbulkbvzwTerm
import Derived.Lib.AppendStr
import Derived.Lib.SlBytesRow
import Derived.Room.AppendFits
namespace Go.Proofs.Ybulkbvzw.Cal
open Go.RowKit

/-- The i-th digit's byte. -/
def digB (Z : Nat → Int) (i : Nat) : UInt8 := UInt8.ofNat (48 + (Z i % 10).toNat)

/-- The number that the law gathers beside. -/
def accTo (Z : Nat → Int) : Nat → Int
  | 0 => 0
  | k + 1 => wrap64 (wrap64 (accTo Z k * 10) + Z k % 10)

/-- The string: L digits, the unit u, the tail. -/
def built (Z : Nat → Int) (L : Nat) (u : UInt8) (tail : ByteArray) : ByteArray := ⟨((List.range L).map (digB Z) ++ u :: tail.data.toList).toArray⟩

/-- The cells of the first k digits. -/
def cellsTo (Z : Nat → Int) (k : Nat) : List Value := (List.range k).map fun i => Value.int .u8 (48 + Z i % 10)

theorem digB_toNat (Z : Nat → Int) (i : Nat) : (digB Z i).toNat = 48 + (Z i % 10).toNat := by
  unfold digB
  have : (Z i % 10).toNat < 10 := by omega
  rw [UInt8.toNat_ofNat_of_lt' (by simp [UInt8.size]; omega)]
theorem digB_int (Z : Nat → Int) (i : Nat) : ((digB Z i).toNat : Int) = 48 + Z i % 10 := by
  rw [digB_toNat]; omega

theorem built_size (Z : Nat → Int) (L : Nat) (u : UInt8) (tail : ByteArray) : (built Z L u tail).size = L + 1 + tail.size := by
  show ((List.range L).map (digB Z) ++ u :: tail.data.toList).toArray.size = _
  rw [List.size_toArray, List.length_append, List.length_map, List.length_range, List.length_cons, Array.length_toList]
  show L + (tail.size + 1) = L + 1 + tail.size
  omega

theorem built_get? (Z : Nat → Int) (L : Nat) (u : UInt8) (tail : ByteArray) {i : Nat} (h : i < (built Z L u tail).size) : ((List.range L).map (digB Z) ++ u :: tail.data.toList)[i]? = some ((built Z L u tail)[i]'h) := by
  rw [ByteArray.getElem_eq_getElem_data]
  simp [built]

theorem built_low {Z : Nat → Int} {L : Nat} {u : UInt8} {tail : ByteArray} {i : Nat} (hi : i < L) (h : i < (built Z L u tail).size) : (built Z L u tail)[i]'h = digB Z i := by
  have := built_get? Z L u tail h
  rw [List.getElem?_append_left (by simpa using hi)] at this
  simp [hi] at this
  exact this.symm
theorem built_mid {Z : Nat → Int} {L : Nat} {u : UInt8} {tail : ByteArray} (h : L < (built Z L u tail).size) : (built Z L u tail)[L]'h = u := by
  have := built_get? Z L u tail h
  rw [List.getElem?_append_right (by simp)] at this
  simp at this
  exact this.symm

theorem built_lead {Z : Nat → Int} {L : Nat} {u : UInt8} {tail : ByteArray} (hu : 57 < u.toNat) : Lead (built Z L u tail) L := by
  have hs := built_size Z L u tail
  refine ⟨by omega, fun i hi => ⟨by omega, ?_, ?_⟩, fun ⟨h, _, h2⟩ => ?_⟩
  · rw [built_low hi, digB_toNat]; omega
  · rw [built_low hi, digB_toNat]; omega
  · rw [built_mid] at h2; omega

theorem built_byte {Z : Nat → Int} {L : Nat} {u : UInt8} {tail : ByteArray} : byteAt (built Z L u tail) L = (u.toNat : Int) := by
  have hs := built_size Z L u tail
  rw [byteAt_eq (by omega), built_mid]

theorem built_val {Z : Nat → Int} {L : Nat} {u : UInt8} {tail : ByteArray} : ∀ k, k ≤ L → valTo (built Z L u tail) k = accTo Z k
  | 0, _ => rfl
  | k + 1, h => by
    have hs := built_size Z L u tail
    rw [valTo, accTo, built_val k (by omega), byteAt_eq (by omega), built_low (by omega), digB_int]
    congr 2
    omega

theorem built_tail {Z : Nat → Int} {L : Nat} {u : UInt8} {tail : ByteArray} : (built Z L u tail).extract (L + 1) (built Z L u tail).size = tail := by
  apply Go.WideShapes.bytes_inj
  rw [Lib.extract_data, built_size]
  show List.take (L + 1 + tail.size - (L + 1)) (List.drop (L + 1) ((List.range L).map (digB Z) ++ u :: tail.data.toList).toArray.toList) = _
  have e : List.drop (L + 1) ((List.range L).map (digB Z) ++ u :: tail.data.toList) = tail.data.toList := by
    rw [List.drop_append]
    simp
  rw [List.toList_toArray, e]
  apply List.take_of_length_le
  rw [Array.length_toList]
  show tail.size ≤ _
  omega

theorem built_cells (Z : Nat → Int) (L : Nat) (u : UInt8) (tail : ByteArray) : (cellsTo Z L ++ [Value.int .u8 (u.toNat : Int)]) ++ Lib.strCells tail = Lib.strCells (built Z L u tail) := by
  show _ = (((List.range L).map (digB Z) ++ u :: tail.data.toList).toArray.toList).map _
  simp [cellsTo, Lib.strCells, digB_int, Function.comp_def]

theorem cellsTo_step (Z : Nat → Int) (k : Nat) : cellsTo Z k ++ [Value.int .u8 (48 + Z k % 10)] = cellsTo Z (k + 1) := by
  simp [cellsTo, List.range_succ]
end Go.Proofs.Ybulkbvzw.Cal
