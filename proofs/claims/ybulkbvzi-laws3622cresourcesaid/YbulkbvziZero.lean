/- THE WALK of 'definitions.LawS3622CResource' where there is no entry. -/
import Derived.Test.YbulkbvziWalk
namespace Go.Proofs.Ybulkbvzi.Res
open Go.RowKit Go.Maps Go.Deep

set_option maxRecDepth 100000 in
set_option maxHeartbeats 1000000 in
/-- No entry (a nil slice too). -/
theorem walk_zero (a : Option Addr) (cap : Nat) (q : ByteArray) (pk : Int) (w : World) (hq : q.size ≤ maxLen) :
    Calls Yba.prog 3 #[.slice a 0 cap, .string q, .int .u8 pk] w fun e w' => e = .returned (.bool true) ∧ Below w.heap.size w w' := by
  have hmm := @run_makeMap Yba.prog
  have hmk : ∀ wx : World, (Instr.makeSlice 24 (.int .i64 0) (.int .i64 0)).run Yba.prog wx = .ok (.slice (some ⟨wx.heap.size, 0, none⟩) 0 0) (wx.alloc (.cells (madeCells #[.pointer none] 0) 27)) :=
    run_make_row' (P := Yba.prog) 24 27 (.pointer none) 8 Yba.underlying24 info27 rfl .i64 .i64 0 (by omega) (by omega)
  have rd : Rd w ((w.alloc (.map #[] 0)).alloc (.cells (madeCells #[.pointer none] 0) 27)) (((w.alloc (.map #[] 0)).alloc (.cells (madeCells #[.pointer none] 0) 27)).alloc (.cells #[.slice none 0 0, .map none, .map none, .map none, .map (some w.heap.size), .map none, .slice none 0 0] 45)) 0 (fun _ => q) (fun _ => 0) (fun _ => false) := (St.start w 0 (fun _ => q) (fun _ => 0) (fun _ => false)).rd
  have hset := rd.set
  have hlook : (Instr.lookup 23 (.map (some w.heap.size)) (.string q) false).run Yba.prog (((w.alloc (.map #[] 0)).alloc (.cells (madeCells #[.pointer none] 0) 27)).alloc (.cells #[.slice none 0 0, .map none, .map none, .map none, .map (some w.heap.size), .map none, .slice none 0 0] 45)) = .ok (.pointer none) (((w.alloc (.map #[] 0)).alloc (.cells (madeCells #[.pointer none] 0) 27)).alloc (.cells #[.slice none 0 0, .map none, .map none, .map none, .map (some w.heap.size), .map none, .slice none 0 0] 45)) := rd.look q hq
  have bel := rd.below
  simp only [World.size_alloc] at hset
  clear rd
  go_enter Yba.func3, Yba.ntmps3
  go_wp2_with fail
  refine wp_loop_rounds 1 ?_
  rw [rounds_succ]
  go_wp2_with fail
  refine (resource_nil (w.heap.size + 1 + 1) w.heap.size q _ hset hlook).mono ?_
  rintro e w' ⟨rfl, rfl⟩
  go_wp2_with fail
  refine wp_loop_rounds 1 ?_
  rw [rounds_succ]
  go_wp2_with fail
  refine (type_calls (w.heap.size + 1 + 1) w.heap.size q none _ hset hlook).mono ?_
  rintro e w' ⟨rfl, rfl⟩
  go_wp2_with fail
  go_ret
  exact ⟨rfl, bel⟩
end Go.Proofs.Ybulkbvzi.Res
