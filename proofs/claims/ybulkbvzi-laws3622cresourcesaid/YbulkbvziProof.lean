/- 'Rows.LawS3622CResourceSaid': the row's step, after the shells written by proof-skeleton.mjs (a slice that came in: 'Below.trod'); the slice of structs is opened by 'Go.Deep.open_slice'. -/
import Derived.Test.YbulkbvziRows
import Derived.Test.YbulkbvziZero
import Derived.WalkKit
import Derived.ProofKit
import Derived.OpenShut
import Derived.ShutString
import Derived.ChangeOld
import Derived.Below
import Derived.Deep.Slices
import Derived.Deep.Strs
namespace Go.Proofs.Ybulkbvzi.Res
open Go.ChangeShapes Go.WideShapes Go.ChangeAt Go.RowKit Go.Deep
open Go.ChangeMaps (open_string shut_string)

theorem own : ownKnob Yba.prog.godebug = none := by kernel_rfl
theorem laidOut : laidOutB Yba.prog = true := by kernel_rfl
theorem cells26 : Yba.prog.cellsOf 26 = 3 := by kernel_rfl
theorem cells9 : Yba.prog.cellsOf 9 = 1 := by kernel_rfl
theorem cells5 : Yba.prog.cellsOf 5 = 1 := by kernel_rfl
theorem cells4 : Yba.prog.cellsOf 4 = 1 := by kernel_rfl

theorem list3 {l : List Value} (h : l.length = 3) : ∃ a b c, l = [a, b, c] := by
  match l, h with
  | [a, b, c], _ => exact ⟨a, b, c, rfl⟩

set_option maxRecDepth 100000 in
/-- The slice of entries, opened. -/
theorem open_entries {H : Type} {enc : TypeId × Value → H} {W : World} {fuel : Nat} {a : Option Addr} {len cap : Nat} {x : DataW H × List MemPlace}
    (h : DataW.trod enc Yba.prog W 0 (fun _ => true) true fuel 22 [.slice a len cap] = some x) :
    (a = none ∧ len = 0 ∧ cap = 0) ∨ ∃ (y : Addr) (Nm : Nat → ByteArray) (Kd : Nat → Int) (Ab : Nat → Bool), a = some y ∧ ∀ i, i < len →
      W.cell? (y.add (i * 3)) = some (.string (Nm i)) ∧ W.cell? (y.add (i * 3 + 1)) = some (.int .u8 (Kd i)) ∧ W.cell? (y.add (i * 3 + 2)) = some (.bool (Ab i)) ∧ (Nm i).size ≤ maxLen := by
  rcases open_slice Yba.underlying22 h with ⟨hcs, _⟩ | ⟨y, len', cap', m, n, D, Pl, hcs, _, hl, _, hmm, _, hx⟩
  · simp at hcs
    exact .inl hcs
  right
  simp at hcs
  obtain ⟨rfl, rfl, rfl⟩ := hcs
  have hm : len ≤ m := by rw [hmm]; simpa using hl
  have each : ∀ i, i < len → ∃ q : ByteArray × Int × Bool, W.cell? (y.add (i * 3)) = some (.string q.1) ∧ W.cell? (y.add (i * 3 + 1)) = some (.int .u8 q.2.1) ∧ W.cell? (y.add (i * 3 + 2)) = some (.bool q.2.2) ∧ q.1.size ≤ maxLen := by
    intro i hi
    obtain ⟨cs', h1, h2⟩ := hx i (by omega)
    rw [cells26] at h1
    obtain ⟨_, hlen, hcell⟩ := World.cells?_some h1
    obtain ⟨y0, y1, y2, n', _, _, g0, g1, g2⟩ := trod_struct3 Yba.underlying26 h2
    obtain ⟨v0, v1, v2, rfl⟩ : ∃ v0 v1 v2, cs' = [v0, v1, v2] := list3 hlen
    have e0 := hcell 0 (by omega)
    have e1 := hcell 1 (by omega)
    have e2 := hcell 2 (by omega)
    rw [add_add] at e0 e1 e2
    simp [cells9, cells5, cells4] at g0 g1 g2
    obtain ⟨s, es, _, hs⟩ := DataW.trod_string Yba.underlying9 g0
    obtain ⟨z, ez, _, _⟩ := DataW.trod_int Yba.underlying5 g1
    obtain ⟨c, ec, _⟩ := DataW.trod_bool Yba.underlying4 g2
    simp at es ez ec
    subst es ez ec
    exact ⟨(s, z, c), by simpa using e0, by simpa using e1, by simpa using e2, hs⟩
  obtain ⟨q, hq⟩ := choose_lt each
  exact ⟨y, fun i => (q i).1, fun i => (q i).2.1, fun i => (q i).2.2, rfl, hq⟩

/-- THE WALK, whatever the entries. -/
theorem walk {H : Type} {enc : TypeId × Value → H} {W : World} {fuel : Nat} {a : Option Addr} {len cap : Nat} {x : DataW H × List MemPlace}
    (h : DataW.trod enc Yba.prog W 0 (fun _ => true) true fuel 22 [.slice a len cap] = some x) (q : ByteArray) (hq : q.size ≤ maxLen) (pk : Int) (hp : (Lit.int .u8 pk).wf = true) :
    Calls Yba.prog 3 #[.slice a len cap, .string q, .int .u8 pk] W fun e w' => e = .returned (.bool true) ∧ Below W.heap.size W w' := by
  obtain ⟨p0, p1⟩ := bounds_u8 hp
  by_cases hbig : 1024 < len
  · exact walk_big a len cap q pk W hbig
  rcases open_entries h with ⟨rfl, rfl, rfl⟩ | ⟨y, Nm, Kd, Ab, rfl, hx⟩
  · exact walk_zero none 0 q pk W hq
  by_cases hz : len = 0
  · subst hz
    exact walk_zero (some y) cap q pk W hq
  obtain ⟨b, off, spot⟩ := y
  have hspot : spot = none := by simpa [Addr.add] using World.cell?_spot (hx 0 (by omega)).1
  subst hspot
  have hb : b < W.heap.size := by
    have h0 := (hx 0 (by omega)).1
    rcases Nat.lt_or_ge b W.heap.size with h' | h'
    · exact h'
    · rw [add_plain] at h0
      simp [World.cell?, Array.getElem?_eq_none h'] at h0
  refine walk_pos b off len cap Nm Kd Ab q pk W (by omega) (by omega) hq p0 p1 hb (fun i hi => (hx i hi).2.2.2) (fun i hi => ?_) (fun i hi => ?_) (fun i hi => ?_)
  · have := (hx i hi).1
    rwa [add_plain] at this
  · have := (hx i hi).2.1
    rwa [add_plain, ← Nat.add_assoc] at this
  · have := (hx i hi).2.2.1
    rwa [add_plain, ← Nat.add_assoc] at this

set_option maxRecDepth 100000 in
theorem lifted (os : Os) (started : os.Started) (H : Type) (enc : TypeId × Value → H) :
    ReturnsInHanded {} Yba.checked os 3 .any (Rows.lawS3622CResourceSpec.pre6 enc Yba.prog Yba.f3 Rows.lawS3622CResourceRow.domain false) (Rows.lawS3622CResourceSpec.post enc Yba.prog Yba.f3 false true false false) := by
  refine returnsInHanded_of_change (C := Yba.checked) own started (by kernel_rfl) Yba.func3
    (ChangeSpec.witness6 (enc := enc) (C := Yba.checked) false ⟨#[], #[.slice none 0 0, .string ByteArray.empty, .int .u8 0], []⟩ 8 (by kernel_rfl) (by kernel_rfl) (by kernel_rfl) (by kernel_rfl)) ?_
  intro W base args ds gs before hval0 hW hcnd _
  have hval : ∀ (j : Nat) t v, Yba.f3.params[j]? = some t → args[j]? = some v → Value.okWide Yba.prog W .any base t v := hval0
  have hW' := hW
  obtain ⟨p, q, hA0, hV, rfl, hfz, hnd⟩ := hW
  have hA : DataW.TrodAll enc Yba.prog W 0 (fun _ => true) true Yba.f3.params.toList args.toList ds p := hA0
  rw [Yba.params3] at hA hval
  obtain ⟨v0, vs0, d0, ds0, p0, q0, hargs, rfl, rfl, h0, r0⟩ := trodAll_cons hA
  obtain ⟨v1, vs1, d1, ds1, p1, q1, rfl, rfl, rfl, h1, r1⟩ := trodAll_cons r0
  obtain ⟨v2, vs2, d2, ds2, p2, q2, rfl, rfl, rfl, h2, r2⟩ := trodAll_cons r1
  obtain ⟨rfl, rfl, rfl⟩ := trodAll_nil r2
  obtain rfl : args = #[v0, v1, v2] := by cases args; simp_all
  obtain ⟨rfl, rfl⟩ := trodVars_none hV
  obtain ⟨a0, len0, cap0, rfl⟩ := okWide_slice Yba.underlying22 (hval 0 22 v0 rfl rfl)
  have k0 := h0
  have lt0 : ∀ x ∈ p0, x.block < W.heap.size := by obtain ⟨m, hm⟩ := k0; exact DataW.trod_lt m _ _ _ hm
  obtain ⟨fuel, hf⟩ := h0
  have hf' : DataW.trod enc Yba.prog W 0 (fun _ => true) true fuel 22 [.slice a0 len0 cap0] = some (d0, p0) := by simpa [Value.cells] using hf
  obtain ⟨a1, rfl, rfl, rfl, w1⟩ := open_string Yba.underlying9 (hval 1 9 v1 rfl rfl) h1
  obtain ⟨a2, rfl, rfl, rfl, w2⟩ := open_int Yba.underlying5 (hval 2 5 v2 rfl rfl) h2
  clear hA0 hval0
  refine (walk hf' a1 w1 a2 w2).mono fun e W' ⟨he, bel⟩ => ?_
  subst he
  exact ⟨_, rfl, _, _, _, [], _, [], hW', trodAll_mk1 (shut_bool Yba.underlying4 _), (trodAll_cons_mk (Below.trod laidOut (by kernel_rfl) (of_decide_eq_true (by kernel_rfl)) k0 bel lt0) (trodAll_cons_mk (shut_string Yba.underlying9 w1) (trodAll_cons_mk (shut_int Yba.underlying5 w2) trodAll_mk0))), rfl, bel.frame _, fun h => by cases h⟩

theorem over : Rows.lawS3622CResourceRow.holds Yba.pinned (OpenSpec.ofChange Rows.lawS3622CResourceSpec) :=
  OpenClaim.holds_of_wide 3 Yba.f3 rfl rfl rfl rfl rfl rfl rfl ⟨rfl, rfl, rfl, rfl, rfl⟩ rfl rfl rfl rfl rfl (by kernel_rfl) Yba.func3 (by kernel_rfl)
    (of_decide_eq_true (by kernel_rfl)) (by unfold Func.isWrapper; first | (rw [if_pos (by decide +kernel)]; kernel_rfl) | (rw [if_neg (by decide +kernel)]; exact ⟨rfl, rfl⟩))
    (fun os started H enc _ => lifted os started H enc)

/-- THE STATEMENT -/
theorem proved : Rows.LawS3622CResourceSaid := over
#print axioms proved
end Go.Proofs.Ybulkbvzi.Res
