/- THE CONTRACTS OF '(*Set).Type' AND '(*Set).Resource': the look-up is handed over as an equation on its run. -/
import Derived.Test.YbulkbvziProg
import Derived.WalkKit
import Derived.WalkLawsBesides
namespace Go.Proofs.Ybulkbvzi.Res
open Go.RowKit

theorem type_calls (S N : Nat) (s : ByteArray) (p : Option Addr) (w : World) (hc : w.cell? ⟨S, 4, none⟩ = some (.map (some N)))
    (hl : (Instr.lookup 23 (.map (some N)) (.string s) false).run Yba.prog w = .ok (.pointer p) w) :
    Calls Yba.prog 6 #[.pointer (some ⟨S, 0, none⟩), .string s] w fun e w' => e = .returned (.pointer p) ∧ w' = w := by
  go_enter Yba.func6, Yba.ntmps6
  go_wp2
  go_ret
  exact ⟨rfl, rfl⟩

theorem resource_nil (S N : Nat) (s : ByteArray) (w : World) (hc : w.cell? ⟨S, 4, none⟩ = some (.map (some N)))
    (hl : (Instr.lookup 23 (.map (some N)) (.string s) false).run Yba.prog w = .ok (.pointer none) w) :
    Calls Yba.prog 5 #[.pointer (some ⟨S, 0, none⟩), .string s] w fun e w' => e = .returned (.pointer none) ∧ w' = w := by
  go_enter Yba.func5, Yba.ntmps5
  go_wp2
  go_ret
  exact ⟨rfl, rfl⟩

theorem resource_good (S N B : Nat) (s : ByteArray) (w : World) (hc : w.cell? ⟨S, 4, none⟩ = some (.map (some N)))
    (hl : (Instr.lookup 23 (.map (some N)) (.string s) false).run Yba.prog w = .ok (.pointer (some ⟨B, 0, none⟩)) w)
    (h1 : w.cell? ⟨B, 1, none⟩ = some (.int .u8 2)) (h2 : w.cell? ⟨B, 2, none⟩ = some (.bool false)) :
    Calls Yba.prog 5 #[.pointer (some ⟨S, 0, none⟩), .string s] w fun e w' => e = .returned (.pointer (some ⟨B, 0, none⟩)) ∧ w' = w := by
  go_enter Yba.func5, Yba.ntmps5
  go_wp2
  go_ret
  exact ⟨rfl, rfl⟩

theorem resource_kind (S N B : Nat) (s : ByteArray) (kd : Int) (w : World) (hc : w.cell? ⟨S, 4, none⟩ = some (.map (some N)))
    (hl : (Instr.lookup 23 (.map (some N)) (.string s) false).run Yba.prog w = .ok (.pointer (some ⟨B, 0, none⟩)) w)
    (h1 : w.cell? ⟨B, 1, none⟩ = some (.int .u8 kd)) (hk : (kd != 2) = true) :
    Calls Yba.prog 5 #[.pointer (some ⟨S, 0, none⟩), .string s] w fun e w' => e = .returned (.pointer none) ∧ w' = w := by
  go_enter Yba.func5, Yba.ntmps5
  go_wp2
  go_ret
  exact ⟨rfl, rfl⟩

theorem resource_abstract (S N B : Nat) (s : ByteArray) (w : World) (hc : w.cell? ⟨S, 4, none⟩ = some (.map (some N)))
    (hl : (Instr.lookup 23 (.map (some N)) (.string s) false).run Yba.prog w = .ok (.pointer (some ⟨B, 0, none⟩)) w)
    (h1 : w.cell? ⟨B, 1, none⟩ = some (.int .u8 2)) (h2 : w.cell? ⟨B, 2, none⟩ = some (.bool true)) :
    Calls Yba.prog 5 #[.pointer (some ⟨S, 0, none⟩), .string s] w fun e w' => e = .returned (.pointer none) ∧ w' = w := by
  go_enter Yba.func5, Yba.ntmps5
  go_wp2
  go_ret
  exact ⟨rfl, rfl⟩
end Go.Proofs.Ybulkbvzi.Res
