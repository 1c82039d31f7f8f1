/- THE WALK of 'calendar.LawS3623AModel'. -/
import Derived.Test.YbulkbvzwModel
namespace Go.Proofs.Ybulkbvzw.Cal
open Go.RowKit

theorem lead_exists (s : ByteArray) : ∃ K, Lead s K := by
  obtain ⟨K, hK, hmin⟩ := exists_least (p := fun n => ¬ Dig s n) ⟨s.size, fun ⟨h, _⟩ => Nat.lt_irrefl _ h⟩
  refine ⟨K, hmin _ (fun ⟨h, _⟩ => Nat.lt_irrefl _ h), fun i hi => ?_, hK⟩
  refine Classical.byContradiction fun h => ?_
  have := hmin i h
  omega

set_option maxHeartbeats 1000000 in
theorem law_long (s : ByteArray) (u m : Int) (w : World) (hl : (1024 : Int) < (s.size : Int)) :
    Calls Yba.prog 3 #[.string s, .int .u8 u, .int .i64 m] w fun e w' => e = .returned (.bool true) ∧ Below w.heap.size w w' := by
  go_enter Yba.func3, Yba.ntmps3
  go_wp2
  go_ret
  exact ⟨rfl, Below.refl _ _⟩

set_option maxHeartbeats 1000000 in
theorem law_refuse (s : ByteArray) (hs : s.size ≤ maxLen) (u m : Int) (w : World) (hl : ¬ (1024 : Int) < (s.size : Int)) (K : Nat) (hK : Lead s K) (hbad : K = 0 ∨ m < K ∨ K = s.size ∨ byteAt s K ≠ u) :
    Calls Yba.prog 3 #[.string s, .int .u8 u, .int .i64 m] w fun e w' => e = .returned (.bool true) ∧ Below w.heap.size w w' := by
  have C1 := term_refuse s hs u m K hK hbad w
  have C2 := model_refuse s hs u m K hK hbad w
  clear hbad hs hK
  have hsame : (s.toList == s.toList) = true := by simp
  go_enter Yba.func3, Yba.ntmps3
  go_wp2_with fail
  refine C1.mono ?_
  rintro e wx ⟨rfl, hwx⟩
  rw [hwx]
  clear hwx
  go_wp2_with fail
  refine C2.mono ?_
  rintro e wx ⟨rfl, hwx⟩
  rw [hwx]
  clear hwx
  go_wp2_with fail
  go_ret
  exact ⟨rfl, Below.refl _ _⟩

set_option maxHeartbeats 1000000 in
theorem law_ok (s : ByteArray) (hs : s.size ≤ maxLen) (u m : Int) (w : World) (hl : ¬ (1024 : Int) < (s.size : Int)) (K : Nat) (hK : Lead s K) (h0 : 0 < K) (h1 : (K : Int) ≤ m) (h2 : K < s.size) (h3 : byteAt s K = u) :
    Calls Yba.prog 3 #[.string s, .int .u8 u, .int .i64 m] w fun e w' => e = .returned (.bool true) ∧ Below w.heap.size w w' := by
  have C1 := term_ok s hs u m K hK h0 h1 h2 h3 w
  have C2 := model_ok s hs u m K hK h0 h1 h2 h3
  clear h0 h1 h2 h3 hs hK
  generalize valTo s K = v at C1 C2
  generalize s.extract (K + 1) s.size = r at C1 C2
  have hsame : (r.toList == r.toList) = true := by simp
  go_enter Yba.func3, Yba.ntmps3
  go_wp2_with fail
  refine C1.mono ?_
  rintro e wx ⟨rfl, n1, rfl⟩
  go_wp2_with fail
  refine (C2 _).mono ?_
  rintro e wx ⟨rfl, n2, rfl⟩
  go_wp2_with fail
  go_ret
  exact ⟨rfl, ⟨rfl, rfl, rfl, Nat.le_refl _, fun _ _ => rfl⟩⟩

theorem model_law (s : ByteArray) (hs : s.size ≤ maxLen) (u m : Int) (w : World) :
    Calls Yba.prog 3 #[.string s, .int .u8 u, .int .i64 m] w fun e w' => e = .returned (.bool true) ∧ Below w.heap.size w w' := by
  by_cases hl : (1024 : Int) < (s.size : Int)
  · exact law_long s u m w hl
  obtain ⟨K, hK⟩ := lead_exists s
  by_cases hbad : K = 0 ∨ m < K ∨ K = s.size ∨ byteAt s K ≠ u
  · exact law_refuse s hs u m w hl K hK hbad
  · have h0 : ¬ K = 0 := fun h => hbad (.inl h)
    have h1 : ¬ m < K := fun h => hbad (.inr (.inl h))
    have h2 : ¬ K = s.size := fun h => hbad (.inr (.inr (.inl h)))
    have h3 : byteAt s K = u := Classical.byContradiction fun h => hbad (.inr (.inr (.inr h)))
    have := hK.le
    exact law_ok s hs u m w hl K hK (by omega) (by omega) (by omega) h3
end Go.Proofs.Ybulkbvzw.Cal
