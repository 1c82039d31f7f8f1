/- THE WALK of 'resp.LawS3616AOwn' over its one callee 'resp.unexpected' (walked in place): the law returns true; nothing that was there is written. -/
import Derived.Test.YbulkbvwcDoorProg
import Derived.WalkKit
import Derived.WalkLawsBesides
import Derived.Stop.Asserts
import Derived.Below
import Derived.LaidEqlPtr
import Derived.KernelRfl
namespace Go.Proofs.YbulkbvwcDoor.Own
open Go.RowKit

theorem assertOwn (x : Value) (w : World) : (Instr.typeAssert (.iface 27 x) 23 27 true).run Ybad.prog w = .ok (.tuple #[x, .bool true]) w := by kernel_rfl

theorem size29 : (Ybad.prog.info? 29).map (·.size) = some 1 := by kernel_rfl

set_option maxHeartbeats 1000000 in
theorem walk (s : ByteArray) (a : Addr) (w : World) (hc : w.cell? ⟨1, 0, none⟩ = some (.iface 34 (.pointer (some a)))) :
    Calls Ybad.prog 4 #[.string s] w fun e w' => e = .returned (.bool true) ∧ Below w.heap.size w w' := by
  have hlt : 1 < w.heap.size := by
    rcases Nat.lt_or_ge 1 w.heap.size with h | h
    · exact h
    · simp [World.cell?, Array.getElem?_eq_none h] at hc
  have hc1 : (w.alloc (.cells #[.string s] 29)).cell? ⟨1, 0, none⟩ = some (.iface 34 (.pointer (some a))) := by
    rw [World.cell?_alloc_lt _ _ ⟨1, 0, none⟩ hlt]; exact hc
  have hq := fun (x y : Value) (wx : World) => run_eql_iface_types (P := Ybad.prog) 27 34 x y Ybad.underlying23 (by decide) wx
  have ha := assertOwn
  obtain ⟨j, hj, _⟩ := Option.map_eq_some_iff.1 size29
  have hp := fun (x : Addr) (wx : World) => run_eql_ptr_same (P := Ybad.prog) wx x Ybad.underlying27 hj
  clear hj
  go_enter Ybad.func4, Ybad.ntmps4
  go_wp2
  go_ret
  exact ⟨rfl, (Below.refl _ w).alloc (Nat.le_refl _) _⟩
end Go.Proofs.YbulkbvwcDoor.Own
