/- PLAIN LAWS for 'definitions.LawS3622CResource': a map[string]*Type that the call fills, the first entry of a name winning; the j-th Type made lies in block N + 3 + 2 j. -/
import Derived.Maps.OwnSet
import Derived.Deep.OwnRows
namespace Go.Proofs.Ybulkbvzi.Res
open Go Go.Maps

/-- How a map's element of a pointer type reads here: by its block's number. -/
def ptrElem : Value → Option (DataW Unit × List MemPlace)
  | .pointer none => some (.nil, [])
  | .pointer (some ⟨b, 0, none⟩) => some (.lit (.int .i64 (b : Int)), [])
  | _ => none

/-- The first place below k at which the name is s. -/
def findTo (Nm : Nat → ByteArray) (s : ByteArray) : Nat → Option Nat
  | 0 => none
  | k + 1 => match findTo Nm s k with
    | some j => some j
    | none => if Nm k = s then some k else none

def tok (N : Nat) : Option Nat → DataW Unit
  | none => .nil
  | some j => .lit (.int .i64 ((N + 3 + 2 * j : Nat) : Int))

def ptrOf (N : Nat) : Option Nat → Value
  | none => .pointer none
  | some j => .pointer (some ⟨N + 3 + 2 * j, 0, none⟩)

theorem ptrElem_inv {N : Nat} {o : Option Nat} {v : Value} {ps : List MemPlace} (h : ptrElem v = some (tok N o, ps)) : v = ptrOf N o := by
  unfold ptrElem at h
  split at h
  · cases o with
    | none => rfl
    | some j => simp [tok] at h
  · rename_i b
    cases o with
    | none => simp [tok] at h
    | some j =>
      simp only [tok, Option.some.injEq, Prod.mk.injEq, DataW.lit.injEq, Lit.int.injEq, true_and] at h
      have : b = N + 3 + 2 * j := by omega
      subst this
      rfl
  · cases h

theorem findTo_lt {Nm : Nat → ByteArray} {s : ByteArray} {k j : Nat} (h : findTo Nm s k = some j) : j < k ∧ Nm j = s := by
  induction k with
  | zero => simp [findTo] at h
  | succ k ih =>
    unfold findTo at h
    cases hf : findTo Nm s k with
    | some i =>
      rw [hf] at h
      simp only [Option.some.injEq] at h
      subst h
      exact ⟨Nat.lt_succ_of_lt (ih hf).1, (ih hf).2⟩
    | none =>
      rw [hf] at h
      simp only at h
      split at h
      · cases h
        exact ⟨Nat.lt_succ_self _, by assumption⟩
      · cases h

theorem findTo_none {Nm : Nat → ByteArray} {s : ByteArray} {k : Nat} (h : findTo Nm s k = none) : ∀ i, i < k → Nm i ≠ s := by
  induction k with
  | zero => intro i hi; omega
  | succ k ih =>
    unfold findTo at h
    cases hf : findTo Nm s k with
    | some i => rw [hf] at h; cases h
    | none =>
      rw [hf] at h
      simp only at h
      split at h
      · cases h
      · intro i hi
        rcases Nat.lt_succ_iff_lt_or_eq.1 hi with hlt | rfl
        · exact ih hf i hlt
        · assumption

theorem findTo_keep {Nm : Nat → ByteArray} {s : ByteArray} {k m j : Nat} (h : findTo Nm s k = some j) (hm : k ≤ m) : findTo Nm s m = some j := by
  induction m with
  | zero => obtain rfl : k = 0 := by omega
            exact h
  | succ m ih =>
    rcases Nat.lt_or_ge m k with hlt | hge
    · obtain rfl : k = m + 1 := by omega
      exact h
    · unfold findTo
      rw [ih hge]

/-- No name below k is s, the k-th is: the search finds k. -/
theorem findTo_hit {Nm : Nat → ByteArray} {s : ByteArray} {k m : Nat} (h : findTo Nm s k = none) (hk : Nm k = s) (hm : k < m) : findTo Nm s m = some k := by
  refine findTo_keep (k := k + 1) ?_ hm
  unfold findTo
  rw [h]
  simp [hk]

theorem findTo_miss {Nm : Nat → ByteArray} {s : ByteArray} {k : Nat} (h : findTo Nm s k = none) (hk : Nm k ≠ s) : findTo Nm s (k + 1) = none := by
  unfold findTo
  rw [h]
  simp [hk]

theorem str_ne {s t : ByteArray} (h : s ≠ t) : (Lit.string s.data.toList) ≠ Lit.string t.data.toList := by
  intro e
  simp only [Lit.string.injEq] at e
  apply h
  cases s; cases t
  simp only at e
  congr
  exact Array.toList_inj.1 e

/-- BLOCK N IS A MAP THAT HOLDS, AT EACH NAME MET IN THE FIRST k ENTRIES, THE FIRST ENTRY OF THAT NAME. -/
def Filled (P : Program) (wr : World) (N : Nat) (Nm : Nat → ByteArray) (k : Nat) : Prop :=
  ∃ D : DataW Unit, wr.ownsMap P 9 ptrElem N k D ∧ ∀ s : ByteArray, D.atKey (.string s.data.toList) .nil = tok N (findTo Nm s k) ∧ has D (.string s.data.toList) = (findTo Nm s k).isSome

section
variable {P : Program} {wr : World} {N : Nat} {Nm : Nat → ByteArray} {k : Nat}

theorem Filled.made (w : World) : Filled P (w.alloc (.map #[] 0)) w.heap.size Nm 0 :=
  ⟨.map [], World.ownsMap_made w P 9 ptrElem, fun _ => ⟨rfl, rfl⟩⟩

theorem Filled.lt (h : Filled P wr N Nm k) : N < wr.heap.size := let ⟨_, h, _⟩ := h; h.lt

theorem Filled.alloc (h : Filled P wr N Nm k) (o : Obj) : Filled P (wr.alloc o) N Nm k := let ⟨D, h, r⟩ := h; ⟨D, h.alloc o, r⟩

theorem Filled.setCell (h : Filled P wr N Nm k) {a : Addr} (ha : N ≠ a.block) (u : Value) : Filled P (wr.setCell a u) N Nm k := let ⟨D, h, r⟩ := h; ⟨D, h.setCell ha u, r⟩

theorem Filled.look_ok (h : Filled P wr N Nm k) (K : Keyed P 9) (ht : P.underlying 23 = some (.map 9 27)) (hz : (zeroValue 27).run P wr = .ok (.pointer none) wr) {s : ByteArray} (hkey : keyOf P 9 (.string s) = some (.string s.data.toList)) :
    (Instr.lookup 23 (.map (some N)) (.string s) true).run P wr = .ok (.tuple #[ptrOf N (findTo Nm s k), .bool (findTo Nm s k).isSome]) wr := by
  obtain ⟨D, hown, hD⟩ := h
  obtain ⟨v, ps, hrun, hv⟩ := hown.look_ok K ht hz (zd := .nil) (zp := []) rfl hkey
  rw [(hD s).1] at hv
  rw [hrun, ptrElem_inv hv, (hD s).2]

theorem Filled.look (h : Filled P wr N Nm k) (K : Keyed P 9) (ht : P.underlying 23 = some (.map 9 27)) (hz : (zeroValue 27).run P wr = .ok (.pointer none) wr) {s : ByteArray} (hkey : keyOf P 9 (.string s) = some (.string s.data.toList)) :
    (Instr.lookup 23 (.map (some N)) (.string s) false).run P wr = .ok (ptrOf N (findTo Nm s k)) wr := by
  obtain ⟨D, hown, hD⟩ := h
  obtain ⟨v, ps, hrun, hv⟩ := hown.lookup K ht hz (zd := .nil) (zp := []) rfl hkey
  rw [(hD s).1] at hv
  rw [hrun, ptrElem_inv hv]

/-- The k-th name has been met: nothing is stored. -/
theorem Filled.skip (h : Filled P wr N Nm k) (hs : (findTo Nm (Nm k) k).isSome = true) : Filled P wr N Nm (k + 1) := by
  obtain ⟨D, hown, hD⟩ := h
  refine ⟨D, hown.mono (Nat.le_succ k), fun s => ?_⟩
  have e : findTo Nm s (k + 1) = findTo Nm s k := by
    cases hf : findTo Nm s k with
    | some j => exact findTo_keep hf (Nat.le_succ k)
    | none =>
      refine findTo_miss hf fun e => ?_
      rw [e, hf] at hs
      cases hs
  rw [e]
  exact hD s

/-- The k-th name is new: it is stored. -/
theorem Filled.store (h : Filled P wr N Nm k) (K : Keyed P 9) (ht : P.underlying 23 = some (.map 9 27)) (hk : k < maxLen) (hs : (findTo Nm (Nm k) k).isSome = false) (hkey : keyOf P 9 (.string (Nm k)) = some (.string (Nm k).data.toList))
    {b : Nat} (hb : b = N + 3 + 2 * k) :
    ∃ w', (Instr.mapUpdate 23 (.map (some N)) (.string (Nm k)) (.pointer (some ⟨b, 0, none⟩))).run P wr = .ok () w' ∧ Filled P w' N Nm (k + 1) ∧ wr.grownBy w' (some N) ∧ w'.heap.size = wr.heap.size := by
  obtain ⟨D, hown, hD⟩ := h
  subst hb
  obtain ⟨w', hrun, hown', hturn⟩ := hown.store (d := .lit (.int .i64 ((N + 3 + 2 * k : Nat) : Int))) (ps := []) (val := .pointer (some ⟨N + 3 + 2 * k, 0, none⟩)) K ht hk hkey rfl
  have hsize : w'.heap.size = wr.heap.size := by
    obtain ⟨_, _, _, _, _, rfl⟩ := hturn
    simp [ChangeMaps.setBlock]
  refine ⟨w', hrun, ⟨_, hown', fun s => ?_⟩, hturn.grown, hsize⟩
  have hnone : findTo Nm (Nm k) k = none := by simpa using hs
  by_cases e : s = Nm k
  · subst e
    have hl : WideAt.IsKeyLit (Lit.string (Nm k).data.toList) := trivial
    rw [atKey_put_same hown.isMap hl, has_put_same hown.isMap hl, findTo_hit hnone rfl (Nat.lt_succ_self k)]
    exact ⟨rfl, rfl⟩
  · rw [atKey_put_other (str_ne e), has_put_other (str_ne e), (hD s).1, (hD s).2]
    have e2 : findTo Nm s (k + 1) = findTo Nm s k := by
      cases hf : findTo Nm s k with
      | some j => exact findTo_keep hf (Nat.le_succ k)
      | none => exact findTo_miss hf (fun h => e h.symm)
    rw [e2]
    exact ⟨rfl, rfl⟩
end
end Go.Proofs.Ybulkbvzi.Res
