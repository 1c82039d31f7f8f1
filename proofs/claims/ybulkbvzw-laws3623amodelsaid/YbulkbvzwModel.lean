/- THE CONTRACTS of 'zzs3623amodel': refused, or read. -/
import Derived.Test.YbulkbvzwTerm
namespace Go.Proofs.Ybulkbvzw.Cal
open Go.RowKit

set_option maxHeartbeats 1000000 in
theorem model_refuse (s : ByteArray) (hs : s.size ≤ maxLen) (u m : Int) (K : Nat) (hK : Lead s K) (hbad : K = 0 ∨ m < K ∨ K = s.size ∨ byteAt s K ≠ u) (w : World) :
    Calls Yba.prog 6 #[.string s, .int .u8 u, .int .i64 m] w fun e w' => e = .returned (.tuple #[.int .i64 0, .string s, .bool false]) ∧ w' = w := by
  have hsz : s.size ≤ 9223372036854775807 := by unfold maxLen at hs; omega
  have HB : Aside (K = 0 ∨ m < K ∨ K = s.size ∨ byteAt s K ≠ u) := hbad
  clear hbad hs
  go_enter Yba.func6, Yba.ntmps6
  go_wp2_with fail
  go_loopg [9, 10] K (fun g i v wr => ∃ k : Nat, g = K - k ∧ k ≤ K ∧ i = .int .i64 k ∧ v = .int .i64 (valTo s k) ∧ w = wr)
  case atStart => exact ⟨0, rfl, Nat.zero_le _, rfl, rfl, rfl⟩
  case round =>
    obtain ⟨k, hg, hk, rfl, rfl, rfl⟩ := hrel
    have HG : Aside (gk = K - k) := hg
    clear hg
    have hks : k ≤ s.size := Nat.le_trans hk hK.le
    go_wp2_with fail
    all_goals first
      | (go_ret3; exact ⟨rfl, rfl⟩)
      | (have hlt : k < s.size := by assumption
         have hkK : k < K := by
           rcases Nat.lt_or_ge k K with h | h
           · exact h
           · exfalso
             obtain rfl : k = K := by omega
             exact hK.stop ⟨hlt, by omega, by omega⟩
         go_roundg (K - (k + 1))
         case measure => have := HG.out; omega
         case rel => exact ⟨k + 1, rfl, by omega, by simp, by rw [valTo, byteAt_eq hlt], rfl⟩)
      | (exfalso
         have hlt : k < s.size := by assumption
         have hkK : k = K := by
           rcases Nat.lt_or_ge k K with h | h
           · obtain ⟨_, _, _⟩ := hK.dig k h
             omega
           · omega
         subst hkK
         have hh : ((((s[k]'hlt).toNat : Int)) != u) = false := by assumption
         have hu : (((s[k]'hlt).toNat : Int)) = u := by simpa using hh
         rcases HB.out with h | h | h | h
         · omega
         · omega
         · omega
         · rw [byteAt_eq hlt] at h
           exact h hu)

set_option maxHeartbeats 1000000 in
theorem model_ok (s : ByteArray) (hs : s.size ≤ maxLen) (u m : Int) (K : Nat) (hK : Lead s K) (h0 : 0 < K) (h1 : (K : Int) ≤ m) (h2 : K < s.size) (h3 : byteAt s K = u) (w : World) :
    Calls Yba.prog 6 #[.string s, .int .u8 u, .int .i64 m] w fun e w' => e = .returned (.tuple #[.int .i64 (valTo s K), .string (s.extract (K + 1) s.size), .bool true]) ∧ ∃ n, w' = w.drewN n := by
  have hsz : s.size ≤ 9223372036854775807 := by unfold maxLen at hs; omega
  have HB : Aside (byteAt s K = u) := h3
  clear h3 hs
  go_enter Yba.func6, Yba.ntmps6
  go_wp2_with fail
  go_loopg [9, 10] K (fun g i v wr => ∃ k : Nat, g = K - k ∧ k ≤ K ∧ i = .int .i64 k ∧ v = .int .i64 (valTo s k) ∧ w = wr)
  case atStart => exact ⟨0, rfl, Nat.zero_le _, rfl, rfl, rfl⟩
  case round =>
    obtain ⟨k, hg, hk, rfl, rfl, rfl⟩ := hrel
    have HG : Aside (gk = K - k) := hg
    clear hg
    have hks : k < s.size := by omega
    go_wp2_with fail
    all_goals first
      | (have hlt : k < s.size := hks
         have hkK : k < K := by
           rcases Nat.lt_or_ge k K with h | h
           · exact h
           · exfalso
             obtain rfl : k = K := by omega
             exact hK.stop ⟨hlt, by omega, by omega⟩
         go_roundg (K - (k + 1))
         case measure => have := HG.out; omega
         case rel => exact ⟨k + 1, rfl, by omega, by simp, by rw [valTo, byteAt_eq hlt], rfl⟩)
      | (have hkK : k = K := by
           rcases Nat.lt_or_ge k K with h | h
           · obtain ⟨_, _, _⟩ := hK.dig k h
             omega
           · omega
         subst hkK
         have hu : (((s[k]'hks).toNat : Int)) = u := by rw [← byteAt_eq hks]; exact HB.out
         first
           | (exfalso; omega)
           | (exfalso
              have hh : ((((s[k]'hks).toNat : Int)) != u) = true := by assumption
              exact bne_iff_ne.1 hh hu)
           | (exfalso
              have hh : (((k : Int) == 0) = true ∨ m < (k : Int)) ∨ s.size ≤ k := by assumption
              rcases hh with (h | h) | h
              · have := beq_iff_eq.1 h; omega
              · omega
              · omega)
           | (clear hu HB
              go_quiet (fail)
              go_wp2
              go_ret3
              exact ⟨rfl, _, rfl⟩))
end Go.Proofs.Ybulkbvzw.Cal
