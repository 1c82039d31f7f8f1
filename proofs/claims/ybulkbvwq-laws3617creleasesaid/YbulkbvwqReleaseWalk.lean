/- THE CALLEES OF 'node.LawS3617CRelease', each over the very worlds that the law comes to: container/list's New, '(*boundedConn).wait' (with PushBack, lazyInit, insertValue, insert walked in place), '(*List).remove', 'Remove', '(*boundedConn).stopWaiting', '(*boundedListener).release' (held; waiting). The regions that draw their order are walked over every order. -/
import Derived.Test.YbulkbvwqClosed
import Derived.WalkKit
import Derived.WalkLawsBesides
import Derived.OpenShut
import Derived.LaidEqlPtr
import Derived.RegionTactic
import Derived.BigRegion
import Derived.Deep.RegionWith
import Derived.Deep.QuietTactic
import Derived.BigQuiet
namespace Go.Proofs.Ybulkbvwq.Release
open Go.RowKit Go.Conc

theorem mk0 (w : World) : (Instr.makeChan 26 (.int .i64 0)).run Yba.prog w = .ok (.chan (some w.heap.size)) (w.alloc (.chan 0 #[] false 0 0 false)) := by
  have h : (Yba.prog.info? 37).map (·.bytes) = some 0 := by kernel_rfl
  obtain ⟨i, hi, hb⟩ := Option.map_eq_some_iff.1 h
  simpa using run_makeChan (P := Yba.prog) (w := w) Yba.underlying26 hi .i64 0 (by omega) (by rw [hb]; omega)

set_option maxHeartbeats 1000000 in
theorem new_calls (w : World) : Calls Yba.prog 6 #[] w fun e w' => e = .returned (.pointer (some ⟨w.heap.size, 0, none⟩)) ∧
    w' = w.alloc (.cells #[.pointer (some ⟨w.heap.size, 0, none⟩), .pointer (some ⟨w.heap.size, 0, none⟩), .pointer none, .nilIface, .int .i64 0] 59) := by
  go_enter Yba.func6, Yba.ntmps6
  go_wp2
  go_ret
  exact ⟨rfl, rfl⟩

theorem at1 (X : World) (o p : Obj) : ((X.alloc o).alloc p).heap[X.heap.size]? = some o := by
  rw [Below.heap_alloc _ _ _ (by simp)]
  exact heap_alloc_new X o
theorem at2 (X : World) (o p q : Obj) : (((X.alloc o).alloc p).alloc q).heap[X.heap.size]? = some o := by
  rw [Below.heap_alloc _ _ _ (by simp; omega)]
  exact at1 X o p

theorem push_set (h : Array Obj) (a b : Obj) : (h.push a).setIfInBounds h.size b = h.push b := by
  apply Array.ext_getElem?
  intro i
  rw [Array.getElem?_setIfInBounds, Array.getElem?_push, Array.getElem?_push]
  by_cases hi : h.size = i
  · simp [hi]
  · simp [hi, show ¬ i = h.size from fun e => hi e.symm]
theorem push_set_lt (h : Array Obj) (p b : Obj) (k : Nat) (hk : k < h.size) : (h.push p).setIfInBounds k b = (h.setIfInBounds k b).push p := by
  apply Array.ext_getElem?
  intro i
  simp only [Array.getElem?_setIfInBounds, Array.getElem?_push, Array.size_setIfInBounds, Array.size_push]
  by_cases hi : k = i
  · subst hi
    simp [show ¬ k = h.size from by omega, show k < h.size + 1 from by omega, hk]
  · simp [hi]

/-- 'close' of an open channel that lies one block below the last. -/
theorem close1 (ats : Array TypeId) (ty : TypeId) (X : World) (p : Obj) :
    (Builtin.close_ ats ty #[.chan (some X.heap.size)]).run Yba.prog ((X.alloc (.chan 0 #[] false 0 0 false)).alloc p) = .ok (.tuple #[]) ((X.alloc (.chan 0 #[] true 0 0 false)).alloc p) := by
  rw [run_close_open (P := Yba.prog) (w := (X.alloc (.chan 0 #[] false 0 0 false)).alloc p) ats ty (at1 X _ _)]
  have h : ((X.alloc (.chan 0 #[] false 0 0 false)).alloc p).heap.setIfInBounds X.heap.size (.chan 0 #[] true 0 0 false) = ((X.alloc (.chan 0 #[] true 0 0 false)).alloc p).heap := by
    show ((X.heap.push _).push p).setIfInBounds X.heap.size _ = (X.heap.push _).push p
    rw [push_set_lt _ _ _ _ (by simp), push_set]
  rw [h]
  rfl

set_option maxHeartbeats 1000000 in
/-- 'release' of a connection that is held. -/
theorem release_held (a0 : Int) (w : World) :
    Calls Yba.prog 8 #[.pointer (some ⟨w.heap.size + 1, 0, none⟩), .pointer (some ⟨w.heap.size + 1 + 1 + 1, 0, none⟩)] ((((w.alloc (.cells #[.pointer (some ⟨w.heap.size, 0, none⟩), .pointer (some ⟨w.heap.size, 0, none⟩), .pointer none, .nilIface, .int .i64 0] 59)).alloc (.cells #[.nilIface, .string { data := #[] }, .pointer none, .int .i32 0, .int .u32 0, .int .i64 0, .int .u64 0, .int .i64 0, .pointer none, .int .i32 0, .int .u32 0, .int .i64 0, .int .u64 0, .int .i64 0, .pointer none, .int .i32 0, .int .u32 0, .int .i64 a0, .int .i64 0, .pointer (some ⟨w.heap.size, 0, none⟩), .pointer none, .int .i64 0, .int .i64 0] 51)).alloc (.chan 0 #[] false 0 0 false)).alloc (.cells #[.nilIface, .pointer (some ⟨w.heap.size + 1, 0, none⟩), .chan (some (w.heap.size + 1 + 1)), .pointer none, .pointer none] 30)) fun e w' => e = .returned (.tuple #[]) ∧
      w' = ((((w.alloc (.cells #[.pointer (some ⟨w.heap.size, 0, none⟩), .pointer (some ⟨w.heap.size, 0, none⟩), .pointer none, .nilIface, .int .i64 0] 59)).alloc (.cells #[.nilIface, .string { data := #[] }, .pointer none, .int .i32 0, .int .u32 0, .int .i64 0, .int .u64 0, .int .i64 0, .pointer none, .int .i32 0, .int .u32 0, .int .i64 0, .int .u64 0, .int .i64 0, .pointer none, .int .i32 0, .int .u32 0, .int .i64 (wrap64 (a0 - 1)), .int .i64 0, .pointer (some ⟨w.heap.size, 0, none⟩), .pointer none, .int .i64 0, .int .i64 0] 51)).alloc (.chan 0 #[] true 0 0 false)).alloc (.cells #[.nilIface, .pointer (some ⟨w.heap.size + 1, 0, none⟩), .chan (some (w.heap.size + 1 + 1)), .pointer none, .pointer none] 30)) := by
  have hcell : ((((w.alloc (.cells #[.pointer (some ⟨w.heap.size, 0, none⟩), .pointer (some ⟨w.heap.size, 0, none⟩), .pointer none, .nilIface, .int .i64 0] 59)).alloc (.cells #[.nilIface, .string { data := #[] }, .pointer none, .int .i32 0, .int .u32 0, .int .i64 0, .int .u64 0, .int .i64 0, .pointer none, .int .i32 0, .int .u32 0, .int .i64 0, .int .u64 0, .int .i64 0, .pointer none, .int .i32 0, .int .u32 0, .int .i64 a0, .int .i64 0, .pointer (some ⟨w.heap.size, 0, none⟩), .pointer none, .int .i64 0, .int .i64 0] 51)).alloc (.chan 0 #[] false 0 0 false)).alloc (.cells #[.nilIface, .pointer (some ⟨w.heap.size + 1, 0, none⟩), .chan (some (w.heap.size + 1 + 1)), .pointer none, .pointer none] 30)).cell? ⟨w.heap.size + 1 + 1 + 1, 2, none⟩ = some (.chan (some (w.heap.size + 1 + 1))) := by go_simp
  have hch : ((((w.alloc (.cells #[.pointer (some ⟨w.heap.size, 0, none⟩), .pointer (some ⟨w.heap.size, 0, none⟩), .pointer none, .nilIface, .int .i64 0] 59)).alloc (.cells #[.nilIface, .string { data := #[] }, .pointer none, .int .i32 0, .int .u32 0, .int .i64 0, .int .u64 0, .int .i64 0, .pointer none, .int .i32 0, .int .u32 0, .int .i64 0, .int .u64 0, .int .i64 0, .pointer none, .int .i32 0, .int .u32 0, .int .i64 a0, .int .i64 0, .pointer (some ⟨w.heap.size, 0, none⟩), .pointer none, .int .i64 0, .int .i64 0] 51)).alloc (.chan 0 #[] false 0 0 false)).alloc (.cells #[.nilIface, .pointer (some ⟨w.heap.size + 1, 0, none⟩), .chan (some (w.heap.size + 1 + 1)), .pointer none, .pointer none] 30)).heap[w.heap.size + 1 + 1]? = some (.chan 0 #[] false 0 0 false) := by
    simpa only [World.size_alloc] using at1 ((w.alloc (.cells #[.pointer (some ⟨w.heap.size, 0, none⟩), .pointer (some ⟨w.heap.size, 0, none⟩), .pointer none, .nilIface, .int .i64 0] 59)).alloc (.cells #[.nilIface, .string { data := #[] }, .pointer none, .int .i32 0, .int .u32 0, .int .i64 0, .int .u64 0, .int .i64 0, .pointer none, .int .i32 0, .int .u32 0, .int .i64 0, .int .u64 0, .int .i64 0, .pointer none, .int .i32 0, .int .u32 0, .int .i64 a0, .int .i64 0, .pointer (some ⟨w.heap.size, 0, none⟩), .pointer none, .int .i64 0, .int .i64 0] 51)) (.chan 0 #[] false 0 0 false) (.cells #[.nilIface, .pointer (some ⟨w.heap.size + 1, 0, none⟩), .chan (some (w.heap.size + 1 + 1)), .pointer none, .pointer none] 30)
  have hcl : ∀ ats ty, (Builtin.close_ ats ty #[.chan (some (w.heap.size + 1 + 1))]).run Yba.prog ((((w.alloc (.cells #[.pointer (some ⟨w.heap.size, 0, none⟩), .pointer (some ⟨w.heap.size, 0, none⟩), .pointer none, .nilIface, .int .i64 0] 59)).alloc (.cells #[.nilIface, .string { data := #[] }, .pointer none, .int .i32 0, .int .u32 0, .int .i64 0, .int .u64 0, .int .i64 0, .pointer none, .int .i32 0, .int .u32 0, .int .i64 0, .int .u64 0, .int .i64 0, .pointer none, .int .i32 0, .int .u32 0, .int .i64 (wrap64 (a0 - 1)), .int .i64 0, .pointer (some ⟨w.heap.size, 0, none⟩), .pointer none, .int .i64 0, .int .i64 0] 51)).alloc (.chan 0 #[] false 0 0 false)).alloc (.cells #[.nilIface, .pointer (some ⟨w.heap.size + 1, 0, none⟩), .chan (some (w.heap.size + 1 + 1)), .pointer none, .pointer none] 30)) = .ok (.tuple #[]) ((((w.alloc (.cells #[.pointer (some ⟨w.heap.size, 0, none⟩), .pointer (some ⟨w.heap.size, 0, none⟩), .pointer none, .nilIface, .int .i64 0] 59)).alloc (.cells #[.nilIface, .string { data := #[] }, .pointer none, .int .i32 0, .int .u32 0, .int .i64 0, .int .u64 0, .int .i64 0, .pointer none, .int .i32 0, .int .u32 0, .int .i64 0, .int .u64 0, .int .i64 0, .pointer none, .int .i32 0, .int .u32 0, .int .i64 (wrap64 (a0 - 1)), .int .i64 0, .pointer (some ⟨w.heap.size, 0, none⟩), .pointer none, .int .i64 0, .int .i64 0] 51)).alloc (.chan 0 #[] true 0 0 false)).alloc (.cells #[.nilIface, .pointer (some ⟨w.heap.size + 1, 0, none⟩), .chan (some (w.heap.size + 1 + 1)), .pointer none, .pointer none] 30)) := fun ats ty => by
    simpa only [World.size_alloc] using close1 ats ty ((w.alloc (.cells #[.pointer (some ⟨w.heap.size, 0, none⟩), .pointer (some ⟨w.heap.size, 0, none⟩), .pointer none, .nilIface, .int .i64 0] 59)).alloc (.cells #[.nilIface, .string { data := #[] }, .pointer none, .int .i32 0, .int .u32 0, .int .i64 0, .int .u64 0, .int .i64 0, .pointer none, .int .i32 0, .int .u32 0, .int .i64 0, .int .u64 0, .int .i64 0, .pointer none, .int .i32 0, .int .u32 0, .int .i64 (wrap64 (a0 - 1)), .int .i64 0, .pointer (some ⟨w.heap.size, 0, none⟩), .pointer none, .int .i64 0, .int .i64 0] 51)) (.cells #[.nilIface, .pointer (some ⟨w.heap.size + 1, 0, none⟩), .chan (some (w.heap.size + 1 + 1)), .pointer none, .pointer none] 30)
  go_enter Yba.func8, Yba.ntmps8
  go_wp2_with fail
  refine (closed_open hcell hch).mono ?_
  rintro e w' ⟨rfl, rfl⟩
  clear hcell hch
  go_wp2_with fail
  go_end0
  exact ⟨rfl, rfl⟩

set_option maxHeartbeats 4000000 in
/-- 'wait': the connection is put at the back of the empty list. -/
theorem wait_calls (a0 : Int) (w : World) :
    Calls Yba.prog 7 #[.pointer (some ⟨w.heap.size + 1 + 1 + 1, 0, none⟩), .pointer (some ⟨w.heap.size, 0, none⟩)] ((((w.alloc (.cells #[.pointer (some ⟨w.heap.size, 0, none⟩), .pointer (some ⟨w.heap.size, 0, none⟩), .pointer none, .nilIface, .int .i64 0] 59)).alloc (.cells #[.nilIface, .string { data := #[] }, .pointer none, .int .i32 0, .int .u32 0, .int .i64 0, .int .u64 0, .int .i64 0, .pointer none, .int .i32 0, .int .u32 0, .int .i64 0, .int .u64 0, .int .i64 0, .pointer none, .int .i32 0, .int .u32 0, .int .i64 a0, .int .i64 0, .pointer (some ⟨w.heap.size, 0, none⟩), .pointer none, .int .i64 0, .int .i64 0] 51)).alloc (.chan 0 #[] false 0 0 false)).alloc (.cells #[.nilIface, .pointer (some ⟨w.heap.size + 1, 0, none⟩), .chan (some (w.heap.size + 1 + 1)), .pointer none, .pointer none] 30)) fun e w' => e = .returned (.tuple #[]) ∧
      w' = (((((w.alloc (.cells #[.pointer (some ⟨w.heap.size + 1 + 1 + 1 + 1, 0, none⟩), .pointer (some ⟨w.heap.size + 1 + 1 + 1 + 1, 0, none⟩), .pointer none, .nilIface, .int .i64 1] 59)).alloc (.cells #[.nilIface, .string { data := #[] }, .pointer none, .int .i32 0, .int .u32 0, .int .i64 0, .int .u64 0, .int .i64 0, .pointer none, .int .i32 0, .int .u32 0, .int .i64 0, .int .u64 0, .int .i64 0, .pointer none, .int .i32 0, .int .u32 0, .int .i64 a0, .int .i64 0, .pointer (some ⟨w.heap.size, 0, none⟩), .pointer none, .int .i64 0, .int .i64 0] 51)).alloc (.chan 0 #[] false 0 0 false)).alloc (.cells #[.nilIface, .pointer (some ⟨w.heap.size + 1, 0, none⟩), .chan (some (w.heap.size + 1 + 1)), .pointer (some ⟨w.heap.size, 0, none⟩), .pointer (some ⟨w.heap.size + 1 + 1 + 1 + 1, 0, none⟩)] 30)).alloc (.cells #[.pointer (some ⟨w.heap.size, 0, none⟩), .pointer (some ⟨w.heap.size, 0, none⟩), .pointer (some ⟨w.heap.size, 0, none⟩), .iface 22 (.pointer (some ⟨w.heap.size + 1 + 1 + 1, 0, none⟩))] 57)) := by
  go_enter Yba.func7, Yba.ntmps7
  go_wp2
  go_end0
  go_wp2
  go_end0
  exact ⟨rfl, rfl⟩

set_option maxHeartbeats 4000000 in
/-- 'remove': the one element is taken out of the list. -/
theorem remove_calls (a0 : Int) (w : World) :
    Calls Yba.prog 17 #[.pointer (some ⟨w.heap.size, 0, none⟩), .pointer (some ⟨w.heap.size + 1 + 1 + 1 + 1, 0, none⟩)] (((((w.alloc (.cells #[.pointer (some ⟨w.heap.size + 1 + 1 + 1 + 1, 0, none⟩), .pointer (some ⟨w.heap.size + 1 + 1 + 1 + 1, 0, none⟩), .pointer none, .nilIface, .int .i64 1] 59)).alloc (.cells #[.nilIface, .string { data := #[] }, .pointer none, .int .i32 0, .int .u32 0, .int .i64 0, .int .u64 0, .int .i64 0, .pointer none, .int .i32 0, .int .u32 0, .int .i64 0, .int .u64 0, .int .i64 0, .pointer none, .int .i32 0, .int .u32 0, .int .i64 a0, .int .i64 0, .pointer (some ⟨w.heap.size, 0, none⟩), .pointer none, .int .i64 0, .int .i64 0] 51)).alloc (.chan 0 #[] false 0 0 false)).alloc (.cells #[.nilIface, .pointer (some ⟨w.heap.size + 1, 0, none⟩), .chan (some (w.heap.size + 1 + 1)), .pointer (some ⟨w.heap.size, 0, none⟩), .pointer (some ⟨w.heap.size + 1 + 1 + 1 + 1, 0, none⟩)] 30)).alloc (.cells #[.pointer (some ⟨w.heap.size, 0, none⟩), .pointer (some ⟨w.heap.size, 0, none⟩), .pointer (some ⟨w.heap.size, 0, none⟩), .iface 22 (.pointer (some ⟨w.heap.size + 1 + 1 + 1, 0, none⟩))] 57)).drew fun e w' => e = .returned (.tuple #[]) ∧
      w' = (((((w.alloc (.cells #[.pointer (some ⟨w.heap.size, 0, none⟩), .pointer (some ⟨w.heap.size, 0, none⟩), .pointer none, .nilIface, .int .i64 0] 59)).alloc (.cells #[.nilIface, .string { data := #[] }, .pointer none, .int .i32 0, .int .u32 0, .int .i64 0, .int .u64 0, .int .i64 0, .pointer none, .int .i32 0, .int .u32 0, .int .i64 0, .int .u64 0, .int .i64 0, .pointer none, .int .i32 0, .int .u32 0, .int .i64 a0, .int .i64 0, .pointer (some ⟨w.heap.size, 0, none⟩), .pointer none, .int .i64 0, .int .i64 0] 51)).alloc (.chan 0 #[] false 0 0 false)).alloc (.cells #[.nilIface, .pointer (some ⟨w.heap.size + 1, 0, none⟩), .chan (some (w.heap.size + 1 + 1)), .pointer (some ⟨w.heap.size, 0, none⟩), .pointer (some ⟨w.heap.size + 1 + 1 + 1 + 1, 0, none⟩)] 30)).alloc (.cells #[.pointer none, .pointer none, .pointer none, .iface 22 (.pointer (some ⟨w.heap.size + 1 + 1 + 1, 0, none⟩))] 57)).drew.drew.drew := by
  go_enter Yba.func17, Yba.ntmps17
  go_wp2
  go_region
  go_wp2
  go_region
  go_wp2
  go_end0
  exact ⟨rfl, rfl⟩

theorem size59 : (Yba.prog.info? 59).map (·.size) = some 5 := by kernel_rfl

set_option maxHeartbeats 4000000 in
/-- 'Remove': the one element is taken out of the list. -/
theorem Remove_calls (a0 : Int) (w : World) :
    Calls Yba.prog 15 #[.pointer (some ⟨w.heap.size, 0, none⟩), .pointer (some ⟨w.heap.size + 1 + 1 + 1 + 1, 0, none⟩)] (((((w.alloc (.cells #[.pointer (some ⟨w.heap.size + 1 + 1 + 1 + 1, 0, none⟩), .pointer (some ⟨w.heap.size + 1 + 1 + 1 + 1, 0, none⟩), .pointer none, .nilIface, .int .i64 1] 59)).alloc (.cells #[.nilIface, .string { data := #[] }, .pointer none, .int .i32 0, .int .u32 0, .int .i64 0, .int .u64 0, .int .i64 0, .pointer none, .int .i32 0, .int .u32 0, .int .i64 0, .int .u64 0, .int .i64 0, .pointer none, .int .i32 0, .int .u32 0, .int .i64 a0, .int .i64 0, .pointer (some ⟨w.heap.size, 0, none⟩), .pointer none, .int .i64 0, .int .i64 0] 51)).alloc (.chan 0 #[] false 0 0 false)).alloc (.cells #[.nilIface, .pointer (some ⟨w.heap.size + 1, 0, none⟩), .chan (some (w.heap.size + 1 + 1)), .pointer (some ⟨w.heap.size, 0, none⟩), .pointer (some ⟨w.heap.size + 1 + 1 + 1 + 1, 0, none⟩)] 30)).alloc (.cells #[.pointer (some ⟨w.heap.size, 0, none⟩), .pointer (some ⟨w.heap.size, 0, none⟩), .pointer (some ⟨w.heap.size, 0, none⟩), .iface 22 (.pointer (some ⟨w.heap.size + 1 + 1 + 1, 0, none⟩))] 57)).drew fun e w' => e = .returned (.iface 22 (.pointer (some ⟨w.heap.size + 1 + 1 + 1, 0, none⟩))) ∧
      w' = (((((w.alloc (.cells #[.pointer (some ⟨w.heap.size, 0, none⟩), .pointer (some ⟨w.heap.size, 0, none⟩), .pointer none, .nilIface, .int .i64 0] 59)).alloc (.cells #[.nilIface, .string { data := #[] }, .pointer none, .int .i32 0, .int .u32 0, .int .i64 0, .int .u64 0, .int .i64 0, .pointer none, .int .i32 0, .int .u32 0, .int .i64 0, .int .u64 0, .int .i64 0, .pointer none, .int .i32 0, .int .u32 0, .int .i64 a0, .int .i64 0, .pointer (some ⟨w.heap.size, 0, none⟩), .pointer none, .int .i64 0, .int .i64 0] 51)).alloc (.chan 0 #[] false 0 0 false)).alloc (.cells #[.nilIface, .pointer (some ⟨w.heap.size + 1, 0, none⟩), .chan (some (w.heap.size + 1 + 1)), .pointer (some ⟨w.heap.size, 0, none⟩), .pointer (some ⟨w.heap.size + 1 + 1 + 1 + 1, 0, none⟩)] 30)).alloc (.cells #[.pointer none, .pointer none, .pointer none, .iface 22 (.pointer (some ⟨w.heap.size + 1 + 1 + 1, 0, none⟩))] 57)).drew.drew.drew := by
  obtain ⟨j, hj, _⟩ := Option.map_eq_some_iff.1 size59
  have hp := fun (x : Addr) (wx : World) => run_eql_ptr_same (P := Yba.prog) wx x Yba.underlying27 hj
  clear hj
  go_enter Yba.func15, Yba.ntmps15
  go_wp2_with fail
  refine (remove_calls a0 w).mono ?_
  rintro e w' ⟨rfl, rfl⟩
  go_wp2_with fail
  go_ret
  exact ⟨rfl, rfl⟩

set_option maxHeartbeats 4000000 in
/-- 'stopWaiting'. -/
theorem stop_calls (a0 : Int) (w : World) :
    Calls Yba.prog 12 #[.pointer (some ⟨w.heap.size + 1 + 1 + 1, 0, none⟩)] (((((w.alloc (.cells #[.pointer (some ⟨w.heap.size + 1 + 1 + 1 + 1, 0, none⟩), .pointer (some ⟨w.heap.size + 1 + 1 + 1 + 1, 0, none⟩), .pointer none, .nilIface, .int .i64 1] 59)).alloc (.cells #[.nilIface, .string { data := #[] }, .pointer none, .int .i32 0, .int .u32 0, .int .i64 0, .int .u64 0, .int .i64 0, .pointer none, .int .i32 0, .int .u32 0, .int .i64 0, .int .u64 0, .int .i64 0, .pointer none, .int .i32 0, .int .u32 0, .int .i64 a0, .int .i64 0, .pointer (some ⟨w.heap.size, 0, none⟩), .pointer none, .int .i64 0, .int .i64 0] 51)).alloc (.chan 0 #[] false 0 0 false)).alloc (.cells #[.nilIface, .pointer (some ⟨w.heap.size + 1, 0, none⟩), .chan (some (w.heap.size + 1 + 1)), .pointer (some ⟨w.heap.size, 0, none⟩), .pointer (some ⟨w.heap.size + 1 + 1 + 1 + 1, 0, none⟩)] 30)).alloc (.cells #[.pointer (some ⟨w.heap.size, 0, none⟩), .pointer (some ⟨w.heap.size, 0, none⟩), .pointer (some ⟨w.heap.size, 0, none⟩), .iface 22 (.pointer (some ⟨w.heap.size + 1 + 1 + 1, 0, none⟩))] 57)) fun e w' => e = .returned (.tuple #[]) ∧
      w' = (((((w.alloc (.cells #[.pointer (some ⟨w.heap.size, 0, none⟩), .pointer (some ⟨w.heap.size, 0, none⟩), .pointer none, .nilIface, .int .i64 0] 59)).alloc (.cells #[.nilIface, .string { data := #[] }, .pointer none, .int .i32 0, .int .u32 0, .int .i64 0, .int .u64 0, .int .i64 0, .pointer none, .int .i32 0, .int .u32 0, .int .i64 0, .int .u64 0, .int .i64 0, .pointer none, .int .i32 0, .int .u32 0, .int .i64 a0, .int .i64 0, .pointer (some ⟨w.heap.size, 0, none⟩), .pointer none, .int .i64 0, .int .i64 0] 51)).alloc (.chan 0 #[] false 0 0 false)).alloc (.cells #[.nilIface, .pointer (some ⟨w.heap.size + 1, 0, none⟩), .chan (some (w.heap.size + 1 + 1)), .pointer none, .pointer none] 30)).alloc (.cells #[.pointer none, .pointer none, .pointer none, .iface 22 (.pointer (some ⟨w.heap.size + 1 + 1 + 1, 0, none⟩))] 57)).drew.drew.drew := by
  go_enter Yba.func12, Yba.ntmps12
  go_wp2
  go_region_with (go_at_call 15; refine (Remove_calls a0 w).mono ?_; rintro e w' ⟨rfl, rfl⟩)
  all_goals (go_wp2; go_end0; exact ⟨rfl, rfl⟩)

/-- 'close' of an open channel that lies two blocks below the last, behind three draws. -/
theorem close2 (ats : Array TypeId) (ty : TypeId) (X : World) (p q : Obj) :
    (Builtin.close_ ats ty #[.chan (some X.heap.size)]).run Yba.prog ((((X.alloc (.chan 0 #[] false 0 0 false)).alloc p).alloc q).drew.drew.drew) = .ok (.tuple #[]) ((((X.alloc (.chan 0 #[] true 0 0 false)).alloc p).alloc q).drew.drew.drew) := by
  rw [run_close_open (P := Yba.prog) (w := (((X.alloc (.chan 0 #[] false 0 0 false)).alloc p).alloc q).drew.drew.drew) ats ty (at2 X _ _ _)]
  have h : (((X.alloc (.chan 0 #[] false 0 0 false)).alloc p).alloc q).drew.drew.drew.heap.setIfInBounds X.heap.size (.chan 0 #[] true 0 0 false) = (((X.alloc (.chan 0 #[] true 0 0 false)).alloc p).alloc q).drew.drew.drew.heap := by
    show (((X.heap.push _).push p).push q).setIfInBounds X.heap.size _ = ((X.heap.push _).push p).push q
    rw [push_set_lt _ _ _ _ (by simp; omega), push_set_lt _ _ _ _ (by simp), push_set]
  rw [h]
  rfl

set_option maxHeartbeats 4000000 in
/-- 'release' of a connection that waits. -/
theorem release_waiting (a0 : Int) (w : World) :
    Calls Yba.prog 8 #[.pointer (some ⟨w.heap.size + 1, 0, none⟩), .pointer (some ⟨w.heap.size + 1 + 1 + 1, 0, none⟩)] (((((w.alloc (.cells #[.pointer (some ⟨w.heap.size + 1 + 1 + 1 + 1, 0, none⟩), .pointer (some ⟨w.heap.size + 1 + 1 + 1 + 1, 0, none⟩), .pointer none, .nilIface, .int .i64 1] 59)).alloc (.cells #[.nilIface, .string { data := #[] }, .pointer none, .int .i32 0, .int .u32 0, .int .i64 0, .int .u64 0, .int .i64 0, .pointer none, .int .i32 0, .int .u32 0, .int .i64 0, .int .u64 0, .int .i64 0, .pointer none, .int .i32 0, .int .u32 0, .int .i64 a0, .int .i64 0, .pointer (some ⟨w.heap.size, 0, none⟩), .pointer none, .int .i64 0, .int .i64 0] 51)).alloc (.chan 0 #[] false 0 0 false)).alloc (.cells #[.nilIface, .pointer (some ⟨w.heap.size + 1, 0, none⟩), .chan (some (w.heap.size + 1 + 1)), .pointer (some ⟨w.heap.size, 0, none⟩), .pointer (some ⟨w.heap.size + 1 + 1 + 1 + 1, 0, none⟩)] 30)).alloc (.cells #[.pointer (some ⟨w.heap.size, 0, none⟩), .pointer (some ⟨w.heap.size, 0, none⟩), .pointer (some ⟨w.heap.size, 0, none⟩), .iface 22 (.pointer (some ⟨w.heap.size + 1 + 1 + 1, 0, none⟩))] 57)) fun e w' => e = .returned (.tuple #[]) ∧
      w' = (((((w.alloc (.cells #[.pointer (some ⟨w.heap.size, 0, none⟩), .pointer (some ⟨w.heap.size, 0, none⟩), .pointer none, .nilIface, .int .i64 0] 59)).alloc (.cells #[.nilIface, .string { data := #[] }, .pointer none, .int .i32 0, .int .u32 0, .int .i64 0, .int .u64 0, .int .i64 0, .pointer none, .int .i32 0, .int .u32 0, .int .i64 0, .int .u64 0, .int .i64 0, .pointer none, .int .i32 0, .int .u32 0, .int .i64 a0, .int .i64 0, .pointer (some ⟨w.heap.size, 0, none⟩), .pointer none, .int .i64 0, .int .i64 0] 51)).alloc (.chan 0 #[] true 0 0 false)).alloc (.cells #[.nilIface, .pointer (some ⟨w.heap.size + 1, 0, none⟩), .chan (some (w.heap.size + 1 + 1)), .pointer none, .pointer none] 30)).alloc (.cells #[.pointer none, .pointer none, .pointer none, .iface 22 (.pointer (some ⟨w.heap.size + 1 + 1 + 1, 0, none⟩))] 57)).drew.drew.drew := by
  have hcell : (((((w.alloc (.cells #[.pointer (some ⟨w.heap.size + 1 + 1 + 1 + 1, 0, none⟩), .pointer (some ⟨w.heap.size + 1 + 1 + 1 + 1, 0, none⟩), .pointer none, .nilIface, .int .i64 1] 59)).alloc (.cells #[.nilIface, .string { data := #[] }, .pointer none, .int .i32 0, .int .u32 0, .int .i64 0, .int .u64 0, .int .i64 0, .pointer none, .int .i32 0, .int .u32 0, .int .i64 0, .int .u64 0, .int .i64 0, .pointer none, .int .i32 0, .int .u32 0, .int .i64 a0, .int .i64 0, .pointer (some ⟨w.heap.size, 0, none⟩), .pointer none, .int .i64 0, .int .i64 0] 51)).alloc (.chan 0 #[] false 0 0 false)).alloc (.cells #[.nilIface, .pointer (some ⟨w.heap.size + 1, 0, none⟩), .chan (some (w.heap.size + 1 + 1)), .pointer (some ⟨w.heap.size, 0, none⟩), .pointer (some ⟨w.heap.size + 1 + 1 + 1 + 1, 0, none⟩)] 30)).alloc (.cells #[.pointer (some ⟨w.heap.size, 0, none⟩), .pointer (some ⟨w.heap.size, 0, none⟩), .pointer (some ⟨w.heap.size, 0, none⟩), .iface 22 (.pointer (some ⟨w.heap.size + 1 + 1 + 1, 0, none⟩))] 57)).cell? ⟨w.heap.size + 1 + 1 + 1, 2, none⟩ = some (.chan (some (w.heap.size + 1 + 1))) := by go_simp
  have hch : (((((w.alloc (.cells #[.pointer (some ⟨w.heap.size + 1 + 1 + 1 + 1, 0, none⟩), .pointer (some ⟨w.heap.size + 1 + 1 + 1 + 1, 0, none⟩), .pointer none, .nilIface, .int .i64 1] 59)).alloc (.cells #[.nilIface, .string { data := #[] }, .pointer none, .int .i32 0, .int .u32 0, .int .i64 0, .int .u64 0, .int .i64 0, .pointer none, .int .i32 0, .int .u32 0, .int .i64 0, .int .u64 0, .int .i64 0, .pointer none, .int .i32 0, .int .u32 0, .int .i64 a0, .int .i64 0, .pointer (some ⟨w.heap.size, 0, none⟩), .pointer none, .int .i64 0, .int .i64 0] 51)).alloc (.chan 0 #[] false 0 0 false)).alloc (.cells #[.nilIface, .pointer (some ⟨w.heap.size + 1, 0, none⟩), .chan (some (w.heap.size + 1 + 1)), .pointer (some ⟨w.heap.size, 0, none⟩), .pointer (some ⟨w.heap.size + 1 + 1 + 1 + 1, 0, none⟩)] 30)).alloc (.cells #[.pointer (some ⟨w.heap.size, 0, none⟩), .pointer (some ⟨w.heap.size, 0, none⟩), .pointer (some ⟨w.heap.size, 0, none⟩), .iface 22 (.pointer (some ⟨w.heap.size + 1 + 1 + 1, 0, none⟩))] 57)).heap[w.heap.size + 1 + 1]? = some (.chan 0 #[] false 0 0 false) := by
    simpa only [World.size_alloc] using at2 ((w.alloc (.cells #[.pointer (some ⟨w.heap.size + 1 + 1 + 1 + 1, 0, none⟩), .pointer (some ⟨w.heap.size + 1 + 1 + 1 + 1, 0, none⟩), .pointer none, .nilIface, .int .i64 1] 59)).alloc (.cells #[.nilIface, .string { data := #[] }, .pointer none, .int .i32 0, .int .u32 0, .int .i64 0, .int .u64 0, .int .i64 0, .pointer none, .int .i32 0, .int .u32 0, .int .i64 0, .int .u64 0, .int .i64 0, .pointer none, .int .i32 0, .int .u32 0, .int .i64 a0, .int .i64 0, .pointer (some ⟨w.heap.size, 0, none⟩), .pointer none, .int .i64 0, .int .i64 0] 51)) (.chan 0 #[] false 0 0 false) (.cells #[.nilIface, .pointer (some ⟨w.heap.size + 1, 0, none⟩), .chan (some (w.heap.size + 1 + 1)), .pointer (some ⟨w.heap.size, 0, none⟩), .pointer (some ⟨w.heap.size + 1 + 1 + 1 + 1, 0, none⟩)] 30) (.cells #[.pointer (some ⟨w.heap.size, 0, none⟩), .pointer (some ⟨w.heap.size, 0, none⟩), .pointer (some ⟨w.heap.size, 0, none⟩), .iface 22 (.pointer (some ⟨w.heap.size + 1 + 1 + 1, 0, none⟩))] 57)
  have hcl : ∀ ats ty, (Builtin.close_ ats ty #[.chan (some (w.heap.size + 1 + 1))]).run Yba.prog (((((w.alloc (.cells #[.pointer (some ⟨w.heap.size, 0, none⟩), .pointer (some ⟨w.heap.size, 0, none⟩), .pointer none, .nilIface, .int .i64 0] 59)).alloc (.cells #[.nilIface, .string { data := #[] }, .pointer none, .int .i32 0, .int .u32 0, .int .i64 0, .int .u64 0, .int .i64 0, .pointer none, .int .i32 0, .int .u32 0, .int .i64 0, .int .u64 0, .int .i64 0, .pointer none, .int .i32 0, .int .u32 0, .int .i64 a0, .int .i64 0, .pointer (some ⟨w.heap.size, 0, none⟩), .pointer none, .int .i64 0, .int .i64 0] 51)).alloc (.chan 0 #[] false 0 0 false)).alloc (.cells #[.nilIface, .pointer (some ⟨w.heap.size + 1, 0, none⟩), .chan (some (w.heap.size + 1 + 1)), .pointer none, .pointer none] 30)).alloc (.cells #[.pointer none, .pointer none, .pointer none, .iface 22 (.pointer (some ⟨w.heap.size + 1 + 1 + 1, 0, none⟩))] 57)).drew.drew.drew = .ok (.tuple #[]) (((((w.alloc (.cells #[.pointer (some ⟨w.heap.size, 0, none⟩), .pointer (some ⟨w.heap.size, 0, none⟩), .pointer none, .nilIface, .int .i64 0] 59)).alloc (.cells #[.nilIface, .string { data := #[] }, .pointer none, .int .i32 0, .int .u32 0, .int .i64 0, .int .u64 0, .int .i64 0, .pointer none, .int .i32 0, .int .u32 0, .int .i64 0, .int .u64 0, .int .i64 0, .pointer none, .int .i32 0, .int .u32 0, .int .i64 a0, .int .i64 0, .pointer (some ⟨w.heap.size, 0, none⟩), .pointer none, .int .i64 0, .int .i64 0] 51)).alloc (.chan 0 #[] true 0 0 false)).alloc (.cells #[.nilIface, .pointer (some ⟨w.heap.size + 1, 0, none⟩), .chan (some (w.heap.size + 1 + 1)), .pointer none, .pointer none] 30)).alloc (.cells #[.pointer none, .pointer none, .pointer none, .iface 22 (.pointer (some ⟨w.heap.size + 1 + 1 + 1, 0, none⟩))] 57)).drew.drew.drew := fun ats ty => by
    simpa only [World.size_alloc] using close2 ats ty ((w.alloc (.cells #[.pointer (some ⟨w.heap.size, 0, none⟩), .pointer (some ⟨w.heap.size, 0, none⟩), .pointer none, .nilIface, .int .i64 0] 59)).alloc (.cells #[.nilIface, .string { data := #[] }, .pointer none, .int .i32 0, .int .u32 0, .int .i64 0, .int .u64 0, .int .i64 0, .pointer none, .int .i32 0, .int .u32 0, .int .i64 0, .int .u64 0, .int .i64 0, .pointer none, .int .i32 0, .int .u32 0, .int .i64 a0, .int .i64 0, .pointer (some ⟨w.heap.size, 0, none⟩), .pointer none, .int .i64 0, .int .i64 0] 51)) (.cells #[.nilIface, .pointer (some ⟨w.heap.size + 1, 0, none⟩), .chan (some (w.heap.size + 1 + 1)), .pointer none, .pointer none] 30) (.cells #[.pointer none, .pointer none, .pointer none, .iface 22 (.pointer (some ⟨w.heap.size + 1 + 1 + 1, 0, none⟩))] 57)
  go_enter Yba.func8, Yba.ntmps8
  go_wp2_with fail
  refine (closed_open hcell hch).mono ?_
  rintro e w' ⟨rfl, rfl⟩
  clear hcell hch
  go_wp2_with fail
  refine (stop_calls a0 w).mono ?_
  rintro e w' ⟨rfl, rfl⟩
  go_wp2_with fail
  go_end0
  exact ⟨rfl, rfl⟩
end Go.Proofs.Ybulkbvwq.Release
