/- THE CONTRACTS of "termPart": refused, or read. -/
import Derived.Test.YbulkbvzwDigits
import Derived.Deep.QuietTactic
import Derived.BigQuiet
namespace Go.Proofs.Ybulkbvzw.Cal
open Go.RowKit

/-- The leading run of digits of s is K long. -/
structure Lead (s : ByteArray) (K : Nat) : Prop where
  le : K ≤ s.size
  dig : ∀ i, i < K → Dig s i
  stop : ¬ Dig s K

set_option maxHeartbeats 1000000 in
theorem term_refuse (s : ByteArray) (hs : s.size ≤ maxLen) (u m : Int) (K : Nat) (hK : Lead s K) (hbad : K = 0 ∨ m < K ∨ K = s.size ∨ byteAt s K ≠ u) (w : World) :
    Calls Yba.prog 5 #[.string s, .int .u8 u, .int .i64 m] w fun e w' => e = .returned (.tuple #[.int .i64 0, .string s, .bool false]) ∧ w' = w := by
  have hsz : s.size ≤ 9223372036854775807 := by unfold maxLen at hs; omega
  have HB : Aside (K = 0 ∨ m < K ∨ K = s.size ∨ byteAt s K ≠ u) := hbad
  clear hbad hs
  go_enter Yba.func5, Yba.ntmps5
  go_wp2_with fail
  go_loopg [9] K (fun g i wr => ∃ k : Nat, g = K - k ∧ k ≤ K ∧ i = .int .i64 k ∧ w = wr)
  case atStart => exact ⟨0, rfl, Nat.zero_le _, rfl, rfl⟩
  case round =>
    obtain ⟨k, hg, hk, rfl, rfl⟩ := hrel
    have HG : Aside (gk = K - k) := hg
    clear hg
    have hks : k ≤ s.size := Nat.le_trans hk hK.le
    go_wp2_with fail
    · have hlt : k < s.size := by assumption
      have hkK : k < K := by
        rcases Nat.lt_or_ge k K with h | h
        · exact h
        · exfalso
          obtain rfl : k = K := by omega
          exact hK.stop ⟨hlt, by omega, by omega⟩
      go_roundg (K - (k + 1))
      case measure => have := HG.out; omega
      case rel => exact ⟨k + 1, rfl, by omega, by simp, rfl⟩
    all_goals first | (go_ret3; exact ⟨rfl, rfl⟩) | skip
    all_goals
      exfalso
      have hlt : k < s.size := by assumption
      have hkK : k = K := by
        rcases Nat.lt_or_ge k K with h | h
        · obtain ⟨_, _, _⟩ := hK.dig k h
          omega
        · omega
      subst hkK
      have hh : ((((k : Int) == 0) = false ∧ (k : Int) ≤ m) ∧ ((k : Int) == (s.size : Int)) = false) ∧ ((((s[k]'hlt).toNat : Int)) != u) = false := by assumption
      have hu : (((s[k]'hlt).toNat : Int)) = u := by simpa using hh.2
      rcases HB.out with h | h | h | h
      · omega
      · omega
      · omega
      · rw [byteAt_eq hlt] at h
        exact h hu

theorem get_extract {s : ByteArray} {K i : Nat} (h : i < (s.extract 0 K).size) (h' : i < s.size) : (s.extract 0 K)[i]'h = s[i]'h' := by
  rw [ByteArray.getElem_extract]
  simp
theorem byteAt_extract {s : ByteArray} {K i : Nat} (hK : K ≤ s.size) (hi : i < K) : byteAt (s.extract 0 K) i = byteAt s i := by
  have h1 : i < (s.extract 0 K).size := by simp; omega
  rw [byteAt_eq h1, byteAt_eq (show i < s.size by omega), get_extract h1 (by omega)]
theorem valTo_extract {s : ByteArray} {K : Nat} (hK : K ≤ s.size) : ∀ i, i ≤ K → valTo (s.extract 0 K) i = valTo s i
  | 0, _ => rfl
  | i + 1, h => by rw [valTo, valTo, valTo_extract hK i (by omega), byteAt_extract hK (by omega)]
theorem dig_extract {s : ByteArray} {K i : Nat} (hK : K ≤ s.size) (hi : i < K) (h : Dig s i) : Dig (s.extract 0 K) i := by
  obtain ⟨h0, h1, h2⟩ := h
  have h3 : i < (s.extract 0 K).size := by simp; omega
  exact ⟨h3, by rw [get_extract h3 h0]; exact h1, by rw [get_extract h3 h0]; exact h2⟩

set_option maxHeartbeats 1000000 in
theorem term_ok (s : ByteArray) (hs : s.size ≤ maxLen) (u m : Int) (K : Nat) (hK : Lead s K) (h0 : 0 < K) (h1 : (K : Int) ≤ m) (h2 : K < s.size) (h3 : byteAt s K = u) (w : World) :
    Calls Yba.prog 5 #[.string s, .int .u8 u, .int .i64 m] w fun e w' => e = .returned (.tuple #[.int .i64 (valTo s K), .string (s.extract (K + 1) s.size), .bool true]) ∧ ∃ n, w' = w.drewN n := by
  have hsz : s.size ≤ 9223372036854775807 := by unfold maxLen at hs; omega
  have HB : Aside (byteAt s K = u) := h3
  have hdig := digits_calls (s.extract 0 K) (by simp; omega) (fun i hi => dig_extract hK.le (by simp at hi; omega) (hK.dig i (by simp at hi; omega)))
  have hsize : (s.extract 0 K).size = K := by simp; omega
  rw [hsize, valTo_extract hK.le K (Nat.le_refl _)] at hdig
  have HC := hdig
  clear h3 hs hsize hdig
  go_enter Yba.func5, Yba.ntmps5
  go_wp2_with fail
  go_loopg [9] K (fun g i wr => ∃ k : Nat, g = K - k ∧ k ≤ K ∧ i = .int .i64 k ∧ w = wr)
  case atStart => exact ⟨0, rfl, Nat.zero_le _, rfl, rfl⟩
  case round =>
    obtain ⟨k, hg, hk, rfl, rfl⟩ := hrel
    have HG : Aside (gk = K - k) := hg
    clear hg
    have hks : k < s.size := by omega
    go_wp2_with fail
    · have hkK : k < K := by
        rcases Nat.lt_or_ge k K with h | h
        · exact h
        · exfalso
          obtain rfl : k = K := by omega
          exact hK.stop ⟨hks, by omega, by omega⟩
      go_roundg (K - (k + 1))
      case measure => have := HG.out; omega
      case rel => exact ⟨k + 1, rfl, by omega, by simp, rfl⟩
    all_goals
      have hkK : k = K := by
        rcases Nat.lt_or_ge k K with h | h
        · obtain ⟨_, _, _⟩ := hK.dig k h
          omega
        · omega
      subst hkK
    all_goals have hu : (((s[k]'hks).toNat : Int)) = u := by rw [← byteAt_eq hks]; exact HB.out
    all_goals first
      | (exfalso; omega)
      | (exfalso
         have hh : (((((k : Int) == 0) = true ∨ m < (k : Int)) ∨ ((k : Int) == (s.size : Int)) = true) ∨ ((((s[k]'hks).toNat : Int)) != u) = true) := by assumption
         rcases hh with ((h | h) | h) | h
         · have := beq_iff_eq.1 h; omega
         · omega
         · have := beq_iff_eq.1 h; omega
         · exact bne_iff_ne.1 h hu)
      | (clear hu HB
         refine (HC _).mono ?_
         rintro e wx ⟨rfl, hwx⟩
         subst hwx
         go_wp2_with fail
         go_quiet (fail)
         go_wp2
         go_ret3
         exact ⟨rfl, _, rfl⟩)
end Go.Proofs.Ybulkbvzw.Cal
