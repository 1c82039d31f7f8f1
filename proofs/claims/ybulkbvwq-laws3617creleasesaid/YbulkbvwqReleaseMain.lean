/- THE WALK of 'node.LawS3617CRelease', four ways: waiting or not, released once or twice. -/
import Derived.Test.YbulkbvwqReleaseWalk
namespace Go.Proofs.Ybulkbvwq.Release
open Go.RowKit Go.Conc

set_option maxHeartbeats 1000000 in
/-- 'release' of a connection that has been released: nothing happens. -/
theorem release_again {b : Nat} {w : World} (l : Value) (hc : Calls Yba.prog 5 #[.pointer (some ⟨b, 0, none⟩)] w fun e w' => e = .returned (.bool true) ∧ w' = w) :
    Calls Yba.prog 8 #[l, .pointer (some ⟨b, 0, none⟩)] w fun e w' => e = .returned (.tuple #[]) ∧ w' = w := by
  go_enter Yba.func8, Yba.ntmps8
  go_wp2_with fail
  refine hc.mono ?_
  rintro e w' ⟨rfl, hw⟩
  subst hw
  clear hc
  go_wp2_with fail
  exact bodyPost_ret (results_none rfl _ _ _) rfl ⟨rfl, rfl⟩

theorem open_held (a0 : Int) (w : World) :
    Calls Yba.prog 5 #[.pointer (some ⟨w.heap.size + 1 + 1 + 1, 0, none⟩)] ((((w.alloc (.cells #[.pointer (some ⟨w.heap.size, 0, none⟩), .pointer (some ⟨w.heap.size, 0, none⟩), .pointer none, .nilIface, .int .i64 0] 59)).alloc (.cells #[.nilIface, .string { data := #[] }, .pointer none, .int .i32 0, .int .u32 0, .int .i64 0, .int .u64 0, .int .i64 0, .pointer none, .int .i32 0, .int .u32 0, .int .i64 0, .int .u64 0, .int .i64 0, .pointer none, .int .i32 0, .int .u32 0, .int .i64 a0, .int .i64 0, .pointer (some ⟨w.heap.size, 0, none⟩), .pointer none, .int .i64 0, .int .i64 0] 51)).alloc (.chan 0 #[] false 0 0 false)).alloc (.cells #[.nilIface, .pointer (some ⟨w.heap.size + 1, 0, none⟩), .chan (some (w.heap.size + 1 + 1)), .pointer none, .pointer none] 30)) fun e w' => e = .returned (.bool false) ∧ w' = ((((w.alloc (.cells #[.pointer (some ⟨w.heap.size, 0, none⟩), .pointer (some ⟨w.heap.size, 0, none⟩), .pointer none, .nilIface, .int .i64 0] 59)).alloc (.cells #[.nilIface, .string { data := #[] }, .pointer none, .int .i32 0, .int .u32 0, .int .i64 0, .int .u64 0, .int .i64 0, .pointer none, .int .i32 0, .int .u32 0, .int .i64 0, .int .u64 0, .int .i64 0, .pointer none, .int .i32 0, .int .u32 0, .int .i64 a0, .int .i64 0, .pointer (some ⟨w.heap.size, 0, none⟩), .pointer none, .int .i64 0, .int .i64 0] 51)).alloc (.chan 0 #[] false 0 0 false)).alloc (.cells #[.nilIface, .pointer (some ⟨w.heap.size + 1, 0, none⟩), .chan (some (w.heap.size + 1 + 1)), .pointer none, .pointer none] 30)) := by
  refine closed_open (b := w.heap.size + 1 + 1 + 1) (c := w.heap.size + 1 + 1) (cap := 0) (s := 0) (r := 0) (tm := false) ?_ ?_
  · go_simp
  · have h := at1 ((w.alloc (.cells #[.pointer (some ⟨w.heap.size, 0, none⟩), .pointer (some ⟨w.heap.size, 0, none⟩), .pointer none, .nilIface, .int .i64 0] 59)).alloc (.cells #[.nilIface, .string { data := #[] }, .pointer none, .int .i32 0, .int .u32 0, .int .i64 0, .int .u64 0, .int .i64 0, .pointer none, .int .i32 0, .int .u32 0, .int .i64 0, .int .u64 0, .int .i64 0, .pointer none, .int .i32 0, .int .u32 0, .int .i64 a0, .int .i64 0, .pointer (some ⟨w.heap.size, 0, none⟩), .pointer none, .int .i64 0, .int .i64 0] 51)) (.chan 0 #[] false 0 0 false) (.cells #[.nilIface, .pointer (some ⟨w.heap.size + 1, 0, none⟩), .chan (some (w.heap.size + 1 + 1)), .pointer none, .pointer none] 30)
    simp only [World.size_alloc] at h
    exact h

theorem shut_held (a0 : Int) (w : World) :
    Calls Yba.prog 5 #[.pointer (some ⟨w.heap.size + 1 + 1 + 1, 0, none⟩)] ((((w.alloc (.cells #[.pointer (some ⟨w.heap.size, 0, none⟩), .pointer (some ⟨w.heap.size, 0, none⟩), .pointer none, .nilIface, .int .i64 0] 59)).alloc (.cells #[.nilIface, .string { data := #[] }, .pointer none, .int .i32 0, .int .u32 0, .int .i64 0, .int .u64 0, .int .i64 0, .pointer none, .int .i32 0, .int .u32 0, .int .i64 0, .int .u64 0, .int .i64 0, .pointer none, .int .i32 0, .int .u32 0, .int .i64 (wrap64 (a0 - 1)), .int .i64 0, .pointer (some ⟨w.heap.size, 0, none⟩), .pointer none, .int .i64 0, .int .i64 0] 51)).alloc (.chan 0 #[] true 0 0 false)).alloc (.cells #[.nilIface, .pointer (some ⟨w.heap.size + 1, 0, none⟩), .chan (some (w.heap.size + 1 + 1)), .pointer none, .pointer none] 30)) fun e w' => e = .returned (.bool true) ∧ w' = ((((w.alloc (.cells #[.pointer (some ⟨w.heap.size, 0, none⟩), .pointer (some ⟨w.heap.size, 0, none⟩), .pointer none, .nilIface, .int .i64 0] 59)).alloc (.cells #[.nilIface, .string { data := #[] }, .pointer none, .int .i32 0, .int .u32 0, .int .i64 0, .int .u64 0, .int .i64 0, .pointer none, .int .i32 0, .int .u32 0, .int .i64 0, .int .u64 0, .int .i64 0, .pointer none, .int .i32 0, .int .u32 0, .int .i64 (wrap64 (a0 - 1)), .int .i64 0, .pointer (some ⟨w.heap.size, 0, none⟩), .pointer none, .int .i64 0, .int .i64 0] 51)).alloc (.chan 0 #[] true 0 0 false)).alloc (.cells #[.nilIface, .pointer (some ⟨w.heap.size + 1, 0, none⟩), .chan (some (w.heap.size + 1 + 1)), .pointer none, .pointer none] 30)) := by
  refine closed_shut (b := w.heap.size + 1 + 1 + 1) (c := w.heap.size + 1 + 1) (cap := 0) (s := 0) (r := 0) (tm := false) ?_ ?_
  · go_simp
  · have h := at1 ((w.alloc (.cells #[.pointer (some ⟨w.heap.size, 0, none⟩), .pointer (some ⟨w.heap.size, 0, none⟩), .pointer none, .nilIface, .int .i64 0] 59)).alloc (.cells #[.nilIface, .string { data := #[] }, .pointer none, .int .i32 0, .int .u32 0, .int .i64 0, .int .u64 0, .int .i64 0, .pointer none, .int .i32 0, .int .u32 0, .int .i64 0, .int .u64 0, .int .i64 0, .pointer none, .int .i32 0, .int .u32 0, .int .i64 (wrap64 (a0 - 1)), .int .i64 0, .pointer (some ⟨w.heap.size, 0, none⟩), .pointer none, .int .i64 0, .int .i64 0] 51)) (.chan 0 #[] true 0 0 false) (.cells #[.nilIface, .pointer (some ⟨w.heap.size + 1, 0, none⟩), .chan (some (w.heap.size + 1 + 1)), .pointer none, .pointer none] 30)
    simp only [World.size_alloc] at h
    exact h

theorem open_waiting (a0 : Int) (w : World) :
    Calls Yba.prog 5 #[.pointer (some ⟨w.heap.size + 1 + 1 + 1, 0, none⟩)] (((((w.alloc (.cells #[.pointer (some ⟨w.heap.size + 1 + 1 + 1 + 1, 0, none⟩), .pointer (some ⟨w.heap.size + 1 + 1 + 1 + 1, 0, none⟩), .pointer none, .nilIface, .int .i64 1] 59)).alloc (.cells #[.nilIface, .string { data := #[] }, .pointer none, .int .i32 0, .int .u32 0, .int .i64 0, .int .u64 0, .int .i64 0, .pointer none, .int .i32 0, .int .u32 0, .int .i64 0, .int .u64 0, .int .i64 0, .pointer none, .int .i32 0, .int .u32 0, .int .i64 a0, .int .i64 0, .pointer (some ⟨w.heap.size, 0, none⟩), .pointer none, .int .i64 0, .int .i64 0] 51)).alloc (.chan 0 #[] false 0 0 false)).alloc (.cells #[.nilIface, .pointer (some ⟨w.heap.size + 1, 0, none⟩), .chan (some (w.heap.size + 1 + 1)), .pointer (some ⟨w.heap.size, 0, none⟩), .pointer (some ⟨w.heap.size + 1 + 1 + 1 + 1, 0, none⟩)] 30)).alloc (.cells #[.pointer (some ⟨w.heap.size, 0, none⟩), .pointer (some ⟨w.heap.size, 0, none⟩), .pointer (some ⟨w.heap.size, 0, none⟩), .iface 22 (.pointer (some ⟨w.heap.size + 1 + 1 + 1, 0, none⟩))] 57)) fun e w' => e = .returned (.bool false) ∧ w' = (((((w.alloc (.cells #[.pointer (some ⟨w.heap.size + 1 + 1 + 1 + 1, 0, none⟩), .pointer (some ⟨w.heap.size + 1 + 1 + 1 + 1, 0, none⟩), .pointer none, .nilIface, .int .i64 1] 59)).alloc (.cells #[.nilIface, .string { data := #[] }, .pointer none, .int .i32 0, .int .u32 0, .int .i64 0, .int .u64 0, .int .i64 0, .pointer none, .int .i32 0, .int .u32 0, .int .i64 0, .int .u64 0, .int .i64 0, .pointer none, .int .i32 0, .int .u32 0, .int .i64 a0, .int .i64 0, .pointer (some ⟨w.heap.size, 0, none⟩), .pointer none, .int .i64 0, .int .i64 0] 51)).alloc (.chan 0 #[] false 0 0 false)).alloc (.cells #[.nilIface, .pointer (some ⟨w.heap.size + 1, 0, none⟩), .chan (some (w.heap.size + 1 + 1)), .pointer (some ⟨w.heap.size, 0, none⟩), .pointer (some ⟨w.heap.size + 1 + 1 + 1 + 1, 0, none⟩)] 30)).alloc (.cells #[.pointer (some ⟨w.heap.size, 0, none⟩), .pointer (some ⟨w.heap.size, 0, none⟩), .pointer (some ⟨w.heap.size, 0, none⟩), .iface 22 (.pointer (some ⟨w.heap.size + 1 + 1 + 1, 0, none⟩))] 57)) := by
  refine closed_open (b := w.heap.size + 1 + 1 + 1) (c := w.heap.size + 1 + 1) (cap := 0) (s := 0) (r := 0) (tm := false) ?_ ?_
  · go_simp
  · have h := at2 ((w.alloc (.cells #[.pointer (some ⟨w.heap.size + 1 + 1 + 1 + 1, 0, none⟩), .pointer (some ⟨w.heap.size + 1 + 1 + 1 + 1, 0, none⟩), .pointer none, .nilIface, .int .i64 1] 59)).alloc (.cells #[.nilIface, .string { data := #[] }, .pointer none, .int .i32 0, .int .u32 0, .int .i64 0, .int .u64 0, .int .i64 0, .pointer none, .int .i32 0, .int .u32 0, .int .i64 0, .int .u64 0, .int .i64 0, .pointer none, .int .i32 0, .int .u32 0, .int .i64 a0, .int .i64 0, .pointer (some ⟨w.heap.size, 0, none⟩), .pointer none, .int .i64 0, .int .i64 0] 51)) (.chan 0 #[] false 0 0 false) (.cells #[.nilIface, .pointer (some ⟨w.heap.size + 1, 0, none⟩), .chan (some (w.heap.size + 1 + 1)), .pointer (some ⟨w.heap.size, 0, none⟩), .pointer (some ⟨w.heap.size + 1 + 1 + 1 + 1, 0, none⟩)] 30) (.cells #[.pointer (some ⟨w.heap.size, 0, none⟩), .pointer (some ⟨w.heap.size, 0, none⟩), .pointer (some ⟨w.heap.size, 0, none⟩), .iface 22 (.pointer (some ⟨w.heap.size + 1 + 1 + 1, 0, none⟩))] 57)
    simp only [World.size_alloc] at h
    exact h

theorem shut_waiting (a0 : Int) (w : World) :
    Calls Yba.prog 5 #[.pointer (some ⟨w.heap.size + 1 + 1 + 1, 0, none⟩)] (((((w.alloc (.cells #[.pointer (some ⟨w.heap.size, 0, none⟩), .pointer (some ⟨w.heap.size, 0, none⟩), .pointer none, .nilIface, .int .i64 0] 59)).alloc (.cells #[.nilIface, .string { data := #[] }, .pointer none, .int .i32 0, .int .u32 0, .int .i64 0, .int .u64 0, .int .i64 0, .pointer none, .int .i32 0, .int .u32 0, .int .i64 0, .int .u64 0, .int .i64 0, .pointer none, .int .i32 0, .int .u32 0, .int .i64 a0, .int .i64 0, .pointer (some ⟨w.heap.size, 0, none⟩), .pointer none, .int .i64 0, .int .i64 0] 51)).alloc (.chan 0 #[] true 0 0 false)).alloc (.cells #[.nilIface, .pointer (some ⟨w.heap.size + 1, 0, none⟩), .chan (some (w.heap.size + 1 + 1)), .pointer none, .pointer none] 30)).alloc (.cells #[.pointer none, .pointer none, .pointer none, .iface 22 (.pointer (some ⟨w.heap.size + 1 + 1 + 1, 0, none⟩))] 57)).drew.drew.drew fun e w' => e = .returned (.bool true) ∧ w' = (((((w.alloc (.cells #[.pointer (some ⟨w.heap.size, 0, none⟩), .pointer (some ⟨w.heap.size, 0, none⟩), .pointer none, .nilIface, .int .i64 0] 59)).alloc (.cells #[.nilIface, .string { data := #[] }, .pointer none, .int .i32 0, .int .u32 0, .int .i64 0, .int .u64 0, .int .i64 0, .pointer none, .int .i32 0, .int .u32 0, .int .i64 0, .int .u64 0, .int .i64 0, .pointer none, .int .i32 0, .int .u32 0, .int .i64 a0, .int .i64 0, .pointer (some ⟨w.heap.size, 0, none⟩), .pointer none, .int .i64 0, .int .i64 0] 51)).alloc (.chan 0 #[] true 0 0 false)).alloc (.cells #[.nilIface, .pointer (some ⟨w.heap.size + 1, 0, none⟩), .chan (some (w.heap.size + 1 + 1)), .pointer none, .pointer none] 30)).alloc (.cells #[.pointer none, .pointer none, .pointer none, .iface 22 (.pointer (some ⟨w.heap.size + 1 + 1 + 1, 0, none⟩))] 57)).drew.drew.drew := by
  refine closed_shut (b := w.heap.size + 1 + 1 + 1) (c := w.heap.size + 1 + 1) (cap := 0) (s := 0) (r := 0) (tm := false) ?_ ?_
  · go_simp
  · have h := at2 ((w.alloc (.cells #[.pointer (some ⟨w.heap.size, 0, none⟩), .pointer (some ⟨w.heap.size, 0, none⟩), .pointer none, .nilIface, .int .i64 0] 59)).alloc (.cells #[.nilIface, .string { data := #[] }, .pointer none, .int .i32 0, .int .u32 0, .int .i64 0, .int .u64 0, .int .i64 0, .pointer none, .int .i32 0, .int .u32 0, .int .i64 0, .int .u64 0, .int .i64 0, .pointer none, .int .i32 0, .int .u32 0, .int .i64 a0, .int .i64 0, .pointer (some ⟨w.heap.size, 0, none⟩), .pointer none, .int .i64 0, .int .i64 0] 51)) (.chan 0 #[] true 0 0 false) (.cells #[.nilIface, .pointer (some ⟨w.heap.size + 1, 0, none⟩), .chan (some (w.heap.size + 1 + 1)), .pointer none, .pointer none] 30) (.cells #[.pointer none, .pointer none, .pointer none, .iface 22 (.pointer (some ⟨w.heap.size + 1 + 1 + 1, 0, none⟩))] 57)
    simp only [World.size_alloc] at h
    exact h

set_option maxHeartbeats 4000000 in
theorem walk_ff (a0 : Int) (w : World) :
    Calls Yba.prog 4 #[.int .i64 a0, .bool false, .bool false] w fun e w' => e = .returned (.bool true) ∧ Below w.heap.size w w' := by
  have hmk := mk0
  go_enter Yba.func4, Yba.ntmps4
  go_wp2_with fail
  refine (new_calls _).mono ?_
  rintro e w' ⟨rfl, rfl⟩
  go_wp2_with fail
  refine (open_held a0 w).mono ?_
  rintro e w' ⟨rfl, rfl⟩
  go_wp2_with fail
  refine (release_held a0 w).mono ?_
  rintro e w' ⟨rfl, rfl⟩
  go_wp2_with fail
  refine (shut_held a0 w).mono ?_
  rintro e w' ⟨rfl, rfl⟩
  go_wp2
  go_ret
  exact ⟨rfl, ((((Below.refl _ w).alloc (Nat.le_refl _) _).alloc (by simp) _).alloc (by simp; omega) _).alloc (by simp; omega) _⟩

set_option maxHeartbeats 4000000 in
theorem walk_ft (a0 : Int) (w : World) :
    Calls Yba.prog 4 #[.int .i64 a0, .bool false, .bool true] w fun e w' => e = .returned (.bool true) ∧ Below w.heap.size w w' := by
  have hmk := mk0
  go_enter Yba.func4, Yba.ntmps4
  go_wp2_with fail
  refine (new_calls _).mono ?_
  rintro e w' ⟨rfl, rfl⟩
  go_wp2_with fail
  refine (open_held a0 w).mono ?_
  rintro e w' ⟨rfl, rfl⟩
  go_wp2_with fail
  refine (release_held a0 w).mono ?_
  rintro e w' ⟨rfl, rfl⟩
  go_wp2_with fail
  refine (release_again _ (shut_held a0 w)).mono ?_
  rintro e w' ⟨rfl, rfl⟩
  go_wp2_with fail
  refine (shut_held a0 w).mono ?_
  rintro e w' ⟨rfl, rfl⟩
  go_wp2
  go_ret
  exact ⟨rfl, ((((Below.refl _ w).alloc (Nat.le_refl _) _).alloc (by simp) _).alloc (by simp; omega) _).alloc (by simp; omega) _⟩

set_option maxHeartbeats 4000000 in
theorem walk_tf (a0 : Int) (w : World) :
    Calls Yba.prog 4 #[.int .i64 a0, .bool true, .bool false] w fun e w' => e = .returned (.bool true) ∧ Below w.heap.size w w' := by
  have hmk := mk0
  go_enter Yba.func4, Yba.ntmps4
  go_wp2_with fail
  refine (new_calls _).mono ?_
  rintro e w' ⟨rfl, rfl⟩
  go_wp2_with fail
  refine (wait_calls a0 w).mono ?_
  rintro e w' ⟨rfl, rfl⟩
  go_wp2_with fail
  refine (open_waiting a0 w).mono ?_
  rintro e w' ⟨rfl, rfl⟩
  go_wp2_with fail
  refine (release_waiting a0 w).mono ?_
  rintro e w' ⟨rfl, rfl⟩
  go_wp2_with fail
  refine (shut_waiting a0 w).mono ?_
  rintro e w' ⟨rfl, rfl⟩
  go_wp2
  go_ret
  exact ⟨rfl, (((((((((Below.refl _ w).alloc (Nat.le_refl _) _).alloc (by simp) _).alloc (by simp; omega) _).alloc (by simp; omega) _).alloc (by simp; omega) _)).drew).drew).drew⟩

set_option maxHeartbeats 4000000 in
theorem walk_tt (a0 : Int) (w : World) :
    Calls Yba.prog 4 #[.int .i64 a0, .bool true, .bool true] w fun e w' => e = .returned (.bool true) ∧ Below w.heap.size w w' := by
  have hmk := mk0
  go_enter Yba.func4, Yba.ntmps4
  go_wp2_with fail
  refine (new_calls _).mono ?_
  rintro e w' ⟨rfl, rfl⟩
  go_wp2_with fail
  refine (wait_calls a0 w).mono ?_
  rintro e w' ⟨rfl, rfl⟩
  go_wp2_with fail
  refine (open_waiting a0 w).mono ?_
  rintro e w' ⟨rfl, rfl⟩
  go_wp2_with fail
  refine (release_waiting a0 w).mono ?_
  rintro e w' ⟨rfl, rfl⟩
  go_wp2_with fail
  refine (release_again _ (shut_waiting a0 w)).mono ?_
  rintro e w' ⟨rfl, rfl⟩
  go_wp2_with fail
  refine (shut_waiting a0 w).mono ?_
  rintro e w' ⟨rfl, rfl⟩
  go_wp2
  go_ret
  exact ⟨rfl, (((((((((Below.refl _ w).alloc (Nat.le_refl _) _).alloc (by simp) _).alloc (by simp; omega) _).alloc (by simp; omega) _).alloc (by simp; omega) _)).drew).drew).drew⟩

theorem walk (a0 : Int) (a1 a2 : Bool) (w : World) :
    Calls Yba.prog 4 #[.int .i64 a0, .bool a1, .bool a2] w fun e w' => e = .returned (.bool true) ∧ Below w.heap.size w w' := by
  cases a1
  · cases a2
    · exact walk_ff a0 w
    · exact walk_ft a0 w
  · cases a2
    · exact walk_tf a0 w
    · exact walk_tt a0 w
end Go.Proofs.Ybulkbvwq.Release
