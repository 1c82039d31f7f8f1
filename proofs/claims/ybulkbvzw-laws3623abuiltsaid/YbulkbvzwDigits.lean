/- '(calendar) digits' over a string of digits: the number that they write. -/
import Derived.Test.YbulkbvzwProg
import Derived.WalkKit
import Derived.WalkLawsBesides
import Derived.WalkSpells
import Derived.OpenShut
import Derived.Deep.LoopGhost
namespace Go.Proofs.Ybulkbvzw.Cal
open Go.RowKit

/-- The k-th byte of s is an ASCII digit. -/
def Dig (s : ByteArray) (k : Nat) : Prop := ∃ h : k < s.size, 48 ≤ (s[k]'h).toNat ∧ (s[k]'h).toNat ≤ 57

/-- The number of the k-th byte. -/
def byteAt (s : ByteArray) (k : Nat) : Int := if h : k < s.size then ((s[k]'h).toNat : Int) else 0
theorem byteAt_eq {s : ByteArray} {k : Nat} (h : k < s.size) : byteAt s k = ((s[k]'h).toNat : Int) := by simp [byteAt, h]

/-- The number that the first k digits write, in Go's int. -/
def valTo (s : ByteArray) : Nat → Int
  | 0 => 0
  | k + 1 => wrap64 (wrap64 (valTo s k * 10) + (byteAt s k - 48))

set_option maxHeartbeats 1000000 in
theorem digits_calls (s : ByteArray) (hs : s.size ≤ maxLen) (hd : ∀ k, k < s.size → Dig s k) (w : World) :
    Calls Yba.prog 7 #[.string s] w fun e w' => e = .returned (.tuple #[.int .i64 (valTo s s.size), .bool (!s.toList.isEmpty)]) ∧ w' = w := by
  have hsz : s.size ≤ 9223372036854775807 := by unfold maxLen at hs; omega
  have HD : Aside (∀ k, k < s.size → Dig s k) := hd
  clear hd hs
  go_enter Yba.func7, Yba.ntmps7
  go_wp2_with fail
  go_loopg [4, 8] s.size (fun g n i wr => ∃ k : Nat, g = s.size - k ∧ k ≤ s.size ∧ i = .int .i64 k ∧ n = .int .i64 (valTo s k) ∧ w = wr)
  case atStart => exact ⟨0, rfl, Nat.zero_le _, rfl, rfl, rfl⟩
  case round =>
    obtain ⟨k, hg, hk, rfl, rfl, rfl⟩ := hrel
    have HG : Aside (gk = s.size - k) := hg
    clear hg
    go_wp2_with fail
    · exfalso
      obtain ⟨_, _, _⟩ := HD.out k (by assumption)
      omega
    · have hlt : k < s.size := by assumption
      go_roundg (s.size - (k + 1))
      case measure => have := HG.out; omega
      case rel => exact ⟨k + 1, rfl, by omega, by simp, by rw [valTo, byteAt_eq hlt], rfl⟩
    · exfalso
      obtain ⟨_, _, _⟩ := HD.out k (by assumption)
      omega
    · have hkn : k = s.size := by omega
      subst hkn
      go_ret2
      exact ⟨rfl, rfl⟩
end Go.Proofs.Ybulkbvzw.Cal
