import Derived.Test.YbulkbvwqClosed
import Derived.WalkKit
import Derived.WalkLawsBesides
import Derived.OpenShut
namespace Go.Proofs.Ybulkbvwq.State
open Go.RowKit Go.Conc

theorem mk0 (w : World) : (Instr.makeChan 26 (.int .i64 0)).run Yba.prog w = .ok (.chan (some w.heap.size)) (w.alloc (.chan 0 #[] false 0 0 false)) := by
  have h : (Yba.prog.info? 37).map (·.bytes) = some 0 := by kernel_rfl
  obtain ⟨i, hi, hb⟩ := Option.map_eq_some_iff.1 h
  simpa using run_makeChan (P := Yba.prog) (w := w) Yba.underlying26 hi .i64 0 (by omega) (by rw [hb]; omega)

theorem close_new (ats : Array TypeId) (ty : TypeId) (w : World) :
    (Builtin.close_ ats ty #[.chan (some w.heap.size)]).run Yba.prog (w.alloc (.chan 0 #[] false 0 0 false)) = .ok (.tuple #[]) (w.alloc (.chan 0 #[] true 0 0 false)) := by
  rw [run_close_open (P := Yba.prog) (w := w.alloc (.chan 0 #[] false 0 0 false)) ats ty (heap_alloc_new w _)]
  have h : (w.alloc (.chan 0 #[] false 0 0 false)).heap.setIfInBounds w.heap.size (.chan 0 #[] true 0 0 false) = (w.alloc (.chan 0 #[] true 0 0 false)).heap := by
    show (w.heap.push _).setIfInBounds w.heap.size _ = w.heap.push _
    apply Array.ext_getElem?
    intro i
    rw [Array.getElem?_setIfInBounds, Array.getElem?_push, Array.getElem?_push]
    by_cases hi : w.heap.size = i
    · simp [hi]
    · simp [hi, show ¬ i = w.heap.size from fun e => hi e.symm]
  rw [h]
  rfl

set_option maxHeartbeats 1000000 in
theorem walk0 (a0 : Int) (a1 : Int) (b0 : 0 ≤ a0) (b1 : a0 ≤ 255) (c0 : 0 ≤ a1) (c1 : a1 ≤ 255) (h0 : (a0 % 3 == 0) = true) (w : World) :
    Calls Yba.prog 3 #[.int .u8 a0, .int .u8 a1] w fun e w' => e = .returned (.bool true) ∧ Below w.heap.size w w' := by
  go_enter Yba.func3, Yba.ntmps3
  go_wp2_with fail
  have hcell : (w.alloc (.cells #[.nilIface, .pointer none, .chan none, .pointer none, .pointer none] 30)).cell? ⟨w.heap.size, 2, none⟩ = some (.chan none) := by simp
  go_loop [9] (fun i => ∃ k : Nat, (k : Int) ≤ a1 % 8 + 1 ∧ i = .int .i64 k) (fun i => 9 - (intOf i).toNat)
  case atStart => exact ⟨0, by omega, rfl⟩
  case round =>
    obtain ⟨k, hk, rfl⟩ := hrel
    go_wp2_with fail
    · refine (closed_nil hcell).mono ?_
      rintro e w' ⟨rfl, rfl⟩
      go_wp2_with fail
      exact ⟨⟨k + 1, by omega, by simp⟩, by simp [intOf]; omega⟩
    · go_ret
      exact ⟨rfl, (Below.refl _ w).alloc (Nat.le_refl _) _⟩

set_option maxHeartbeats 1000000 in
theorem walk1 (a0 : Int) (a1 : Int) (b0 : 0 ≤ a0) (b1 : a0 ≤ 255) (c0 : 0 ≤ a1) (c1 : a1 ≤ 255) (h0 : (a0 % 3 == 0) = false) (h1 : (a0 % 3 == 1) = true) (w : World) :
    Calls Yba.prog 3 #[.int .u8 a0, .int .u8 a1] w fun e w' => e = .returned (.bool true) ∧ Below w.heap.size w w' := by
  have hmk := mk0
  go_enter Yba.func3, Yba.ntmps3
  go_wp2_with fail
  clear hmk
  have hcell : ((w.alloc (.cells #[.nilIface, .pointer none, .chan (some (w.heap.size + 1)), .pointer none, .pointer none] 30)).alloc (.chan 0 #[] false 0 0 false)).cell? ⟨w.heap.size, 2, none⟩ = some (.chan (some (w.heap.size + 1))) := by simp
  have hch : ((w.alloc (.cells #[.nilIface, .pointer none, .chan (some (w.heap.size + 1)), .pointer none, .pointer none] 30)).alloc (.chan 0 #[] false 0 0 false)).heap[w.heap.size + 1]? = some (.chan 0 #[] false 0 0 false) := by
    simpa only [World.size_alloc] using heap_alloc_new (w.alloc (.cells #[.nilIface, .pointer none, .chan (some (w.heap.size + 1)), .pointer none, .pointer none] 30)) (.chan 0 #[] false 0 0 false)
  go_loop [9] (fun i => ∃ k : Nat, (k : Int) ≤ a1 % 8 + 1 ∧ i = .int .i64 k) (fun i => 9 - (intOf i).toNat)
  case atStart => exact ⟨0, by omega, rfl⟩
  case round =>
    obtain ⟨k, hk, rfl⟩ := hrel
    go_wp2_with fail
    · refine (closed_open hcell hch).mono ?_
      rintro e w' ⟨rfl, rfl⟩
      go_wp2_with fail
      exact ⟨⟨k + 1, by omega, by simp⟩, by simp [intOf]; omega⟩
    · go_ret
      exact ⟨rfl, ((Below.refl _ w).alloc (Nat.le_refl _) _).alloc (by simp) _⟩

set_option maxHeartbeats 1000000 in
theorem walk2 (a0 : Int) (a1 : Int) (b0 : 0 ≤ a0) (b1 : a0 ≤ 255) (c0 : 0 ≤ a1) (c1 : a1 ≤ 255) (h0 : (a0 % 3 == 0) = false) (h1 : (a0 % 3 == 1) = false) (w : World) :
    Calls Yba.prog 3 #[.int .u8 a0, .int .u8 a1] w fun e w' => e = .returned (.bool true) ∧ Below w.heap.size w w' := by
  have hmk := mk0
  have hcl : ∀ ats ty, (Builtin.close_ ats ty #[.chan (some (w.heap.size + 1))]).run Yba.prog ((w.alloc (.cells #[.nilIface, .pointer none, .chan none, .pointer none, .pointer none] 30)).alloc (.chan 0 #[] false 0 0 false))
      = .ok (.tuple #[]) ((w.alloc (.cells #[.nilIface, .pointer none, .chan none, .pointer none, .pointer none] 30)).alloc (.chan 0 #[] true 0 0 false)) := fun ats ty => by
    simpa only [World.size_alloc] using close_new ats ty (w.alloc (.cells #[.nilIface, .pointer none, .chan none, .pointer none, .pointer none] 30))
  go_enter Yba.func3, Yba.ntmps3
  go_wp2_with fail
  clear hmk hcl
  have hcell : ((w.alloc (.cells #[.nilIface, .pointer none, .chan (some (w.heap.size + 1)), .pointer none, .pointer none] 30)).alloc (.chan 0 #[] true 0 0 false)).cell? ⟨w.heap.size, 2, none⟩ = some (.chan (some (w.heap.size + 1))) := by simp
  have hch : ((w.alloc (.cells #[.nilIface, .pointer none, .chan (some (w.heap.size + 1)), .pointer none, .pointer none] 30)).alloc (.chan 0 #[] true 0 0 false)).heap[w.heap.size + 1]? = some (.chan 0 #[] true 0 0 false) := by
    simpa only [World.size_alloc] using heap_alloc_new (w.alloc (.cells #[.nilIface, .pointer none, .chan (some (w.heap.size + 1)), .pointer none, .pointer none] 30)) (.chan 0 #[] true 0 0 false)
  go_loop [9] (fun i => ∃ k : Nat, (k : Int) ≤ a1 % 8 + 1 ∧ i = .int .i64 k) (fun i => 9 - (intOf i).toNat)
  case atStart => exact ⟨0, by omega, rfl⟩
  case round =>
    obtain ⟨k, hk, rfl⟩ := hrel
    go_wp2_with fail
    · refine (closed_shut hcell hch).mono ?_
      rintro e w' ⟨rfl, rfl⟩
      go_wp2_with fail
      exact ⟨⟨k + 1, by omega, by simp⟩, by simp [intOf]; omega⟩
    · go_ret
      exact ⟨rfl, ((Below.refl _ w).alloc (Nat.le_refl _) _).alloc (by simp) _⟩

theorem walk (a0 : Int) (a1 : Int) (w0 : (Lit.int .u8 a0).wf = true) (w1 : (Lit.int .u8 a1).wf = true) (w : World) :
    Calls Yba.prog 3 #[.int .u8 a0, .int .u8 a1] w fun e w' => e = .returned (.bool true) ∧ Below w.heap.size w w' := by
  obtain ⟨b0, b1⟩ := bounds_u8 w0
  obtain ⟨c0, c1⟩ := bounds_u8 w1
  by_cases h0 : a0 % 3 = 0
  · exact walk0 a0 a1 b0 b1 c0 c1 (beq_iff_eq.2 h0) w
  · by_cases h1 : a0 % 3 = 1
    · exact walk1 a0 a1 b0 b1 c0 c1 (beq_eq_false_iff_ne.2 h0) (beq_iff_eq.2 h1) w
    · exact walk2 a0 a1 b0 b1 c0 c1 (beq_eq_false_iff_ne.2 h0) (beq_eq_false_iff_ne.2 h1) w
end Go.Proofs.Ybulkbvwq.State
