/- THE WALK of 'definitions.LawS3622CResource': more than 1024 entries; none; one to 1024. -/
import Derived.Test.YbulkbvziPlain
import Derived.Test.YbulkbvziCallees
import Derived.Deep.LoopGhost
import Derived.Deep.DeepCutAuto
import Derived.LaidEqlPtr
namespace Go.Proofs.Ybulkbvzi.Res
open Go.RowKit Go.Maps Go.Deep

theorem law : Keyed Yba.prog 9 := string_keyed Yba.underlying9
theorem zero27 (w : World) : (zeroValue 27).run Yba.prog w = .ok (.pointer none) w := by kernel_rfl
theorem info27 : (Yba.prog.info? 27).map (fun i => (i.zero, i.size, i.bytes)) = some (some (.pointer none), 1, 8) := by kernel_rfl

theorem info36 : (Yba.prog.info? 36).map (·.size) = some 10 := by kernel_rfl
theorem eql_same (a : Addr) (w : World) : (binOp .eql 27 (.pointer (some a)) (.pointer (some a))).run Yba.prog w = .ok (.bool true) w := by
  obtain ⟨j, hj, _⟩ := Option.map_eq_some_iff.1 info36
  exact run_eql_ptr_same w a Yba.underlying27 hj
theorem neq_same (a : Addr) (w : World) : (binOp .neq 27 (.pointer (some a)) (.pointer (some a))).run Yba.prog w = .ok (.bool false) w := by
  obtain ⟨j, hj, _⟩ := Option.map_eq_some_iff.1 info36
  have h : ∀ d : Nat, (Op.equalIn (d + 1) 27 (.pointer (some a)) (.pointer (some a))).run Yba.prog w = .ok true w := fun d => by
    simp [Op.equalIn, run_underlying Yba.underlying27, sizeOf, typeInfo, hj, run_sameAddr_same]
  simp only [binOp]
  simp [Op.equal, Op.maxDepth, h 9999]

theorem findTo_before {Nm : Nat → ByteArray} {s : ByteArray} {k j : Nat} (h : findTo Nm s k = some j) : ∀ i, i < j → Nm i ≠ s := by
  intro i hi e
  have hlt := (findTo_lt h).1
  cases hf : findTo Nm s i with
  | some m =>
    have := findTo_keep hf (show i ≤ k by omega)
    rw [h] at this
    cases this
    have := (findTo_lt hf).1
    omega
  | none =>
    have := findTo_hit hf e (show i < k by omega)
    rw [h] at this
    cases this
    omega

theorem str_neq {s t : ByteArray} (h : s ≠ t) : (s.toList == t.toList) = false := by
  rw [beq_eq_false_iff_ne, ByteArray.toList_eq, ByteArray.toList_eq]
  exact fun e => h (Go.WideShapes.bytes_inj e)

/-- The cells of a Type made of the j-th entry. -/
abbrev typeCells (nm : ByteArray) (kd : Int) (ab : Bool) : Array Value :=
  #[.string nm, .int .u8 kd, .bool ab, .pointer none, .string { data := #[] }, .pointer none, .pointer none, .pointer none, .pointer none, .slice none 0 0]

/-- WHAT HOLDS AFTER k ROUNDS OF THE FIRST LOOP. -/
structure St (w wr : World) (L : Nat) (Nm : Nat → ByteArray) (Kd : Nat → Int) (Ab : Nat → Bool) (k : Nat) : Prop where
  fill : Filled Yba.prog wr w.heap.size Nm k
  below : Below w.heap.size w wr
  size : wr.heap.size = w.heap.size + 2 + 2 * k
  made : wr.rowIs (w.heap.size + 1) 27 L (fun j => if j < k then .pointer (some ⟨w.heap.size + 3 + 2 * j, 0, none⟩) else .pointer none)
  types : ∀ j, j < k → wr.heap[w.heap.size + 3 + 2 * j]? = some (.cells (typeCells (Nm j) (Kd j) (Ab j)) 36)

/-- The world in a round behind 'e := entries[i]; t := &Type{..}'. -/
abbrev W0 (wr : World) (nm : ByteArray) (kd : Int) (ab : Bool) : World := (wr.alloc (.cells #[.string nm, .int .u8 kd, .bool ab] 26)).alloc (.cells (typeCells nm kd ab) 36)
/-- .. and behind 'made[i] = t'. -/
abbrev W1 (w wr : World) (k : Nat) (nm : ByteArray) (kd : Int) (ab : Bool) : World := (W0 wr nm kd ab).setCell ⟨w.heap.size + 1, k, none⟩ (.pointer (some ⟨wr.heap.size + 1, 0, none⟩))

section
variable {w wr : World} {L k : Nat} {Nm : Nat → ByteArray} {Kd : Nat → Int} {Ab : Nat → Bool}

theorem St.m1 (h : St w wr L Nm Kd Ab k) (hk : k < L) (nm : ByteArray) (kd : Int) (ab : Bool) : (W0 wr nm kd ab).cell? ⟨w.heap.size + 1, k, none⟩ = some (.pointer none) := by
  have := ((h.made.alloc (.cells #[.string nm, .int .u8 kd, .bool ab] 26)).alloc (.cells (typeCells nm kd ab) 36)).cell hk
  simpa using this
theorem St.m2 (h : St w wr L Nm Kd Ab k) (nm : ByteArray) (kd : Int) (ab : Bool) : (W0 wr nm kd ab).frozen? ⟨w.heap.size + 1, k, none⟩ = false :=
  ((h.made.alloc _).alloc _).frozen k
theorem St.e0 (h : St w wr L Nm Kd Ab k) (nm : ByteArray) (kd : Int) (ab : Bool) : (W1 w wr k nm kd ab).cell? ⟨wr.heap.size, 0, none⟩ = some (.string nm) := by
  have hs := h.size
  have e : (W1 w wr k nm kd ab).heap[wr.heap.size]? = (wr.alloc (.cells #[.string nm, .int .u8 kd, .bool ab] 26)).heap[wr.heap.size]? := by
    rw [blk_setCell_other _ _ _ _ (by show wr.heap.size ≠ w.heap.size + 1; omega), blk_alloc_lt _ _ _ (by rw [nblk_alloc]; omega)]
  rw [World.cell?_of_block (a := ⟨wr.heap.size, 0, none⟩) e]
  simp
theorem St.fill1 (h : St w wr L Nm Kd Ab k) (nm : ByteArray) (kd : Int) (ab : Bool) : Filled Yba.prog (W1 w wr k nm kd ab) w.heap.size Nm k :=
  ((h.fill.alloc _).alloc _).setCell (by show w.heap.size ≠ w.heap.size + 1; omega) _
theorem St.below1 (h : St w wr L Nm Kd Ab k) (nm : ByteArray) (kd : Int) (ab : Bool) : Below w.heap.size w (W1 w wr k nm kd ab) := by
  have hs := h.size
  exact ((h.below.alloc (by omega) _).alloc (by rw [nblk_alloc]; omega) _).setCell (by show w.heap.size ≤ w.heap.size + 1; omega) _
theorem St.size1 (h : St w wr L Nm Kd Ab k) (nm : ByteArray) (kd : Int) (ab : Bool) : (W1 w wr k nm kd ab).heap.size = w.heap.size + 2 + 2 * (k + 1) := by
  rw [nblk_setCell, nblk_alloc, nblk_alloc, h.size]; omega
theorem St.made1 (h : St w wr L Nm Kd Ab k) (nm : ByteArray) (kd : Int) (ab : Bool) :
    (W1 w wr k nm kd ab).rowIs (w.heap.size + 1) 27 L (fun j => if j < k + 1 then .pointer (some ⟨w.heap.size + 3 + 2 * j, 0, none⟩) else .pointer none) := by
  refine (((h.made.alloc _).alloc _).set k _).congr fun j _ => ?_
  have hs := h.size
  by_cases hj : j = k
  · subst hj
    have e : wr.heap.size + 1 = w.heap.size + 3 + 2 * j := by omega
    simp [e]
  · by_cases hl : j < k
    · simp [hj, hl, show j < k + 1 from by omega]
    · simp [hj, hl, show ¬ j < k + 1 from by omega]
theorem St.types1 (h : St w wr L Nm Kd Ab k) : ∀ j, j < k + 1 → (W1 w wr k (Nm k) (Kd k) (Ab k)).heap[w.heap.size + 3 + 2 * j]? = some (.cells (typeCells (Nm j) (Kd j) (Ab j)) 36) := by
  intro j hj
  have hs := h.size
  rw [blk_setCell_other _ _ _ _ (by show w.heap.size + 3 + 2 * j ≠ w.heap.size + 1; omega)]
  by_cases hl : j = k
  · subst hl
    have e : w.heap.size + 3 + 2 * j = (wr.alloc (.cells #[.string (Nm j), .int .u8 (Kd j), .bool (Ab j)] 26)).heap.size := by rw [nblk_alloc]; omega
    rw [e]
    exact blk_alloc_new _ _
  · rw [blk_alloc_lt _ _ _ (by rw [nblk_alloc]; omega), blk_alloc_lt _ _ _ (by omega)]
    exact h.types j (by omega)

theorem St.start (w : World) (L : Nat) (Nm : Nat → ByteArray) (Kd : Nat → Int) (Ab : Nat → Bool) : St w ((w.alloc (.map #[] 0)).alloc (.cells (madeCells #[.pointer none] L) 27)) L Nm Kd Ab 0 := by
  refine ⟨(Filled.made w).alloc _, ((Below.refl _ w).alloc (Nat.le_refl _) _).alloc (by rw [nblk_alloc]; omega) _, by rw [nblk_alloc, nblk_alloc], ?_, fun j hj => by omega⟩
  have h := World.rowIs_made (w.alloc (.map #[] 0)) (.pointer none) L 27
  rw [nblk_alloc] at h
  exact h.congr fun j _ => by simp

/-- The world behind 's := &Set{types: types}'. -/
abbrev W2 (w wr : World) : World := wr.alloc (.cells #[.slice none 0 0, .map none, .map none, .map none, .map (some w.heap.size), .map none, .slice none 0 0] 45)

/-- WHAT THE REST OF THE LAW READS IN THAT WORLD. -/
structure Rd (w wr W : World) (L : Nat) (Nm : Nat → ByteArray) (Kd : Nat → Int) (Ab : Nat → Bool) : Prop where
  below : Below w.heap.size w W
  set : W.cell? ⟨wr.heap.size, 4, none⟩ = some (.map (some w.heap.size))
  look : ∀ s : ByteArray, s.size ≤ maxLen → (Instr.lookup 23 (.map (some w.heap.size)) (.string s) false).run Yba.prog W = .ok (ptrOf w.heap.size (findTo Nm s L)) W
  made : ∀ i, i < L → W.cell? ⟨w.heap.size + 1, i, none⟩ = some (.pointer (some ⟨w.heap.size + 3 + 2 * i, 0, none⟩))
  ty0 : ∀ i, i < L → W.cell? ⟨w.heap.size + 3 + 2 * i, 0, none⟩ = some (.string (Nm i))
  ty1 : ∀ i, i < L → W.cell? ⟨w.heap.size + 3 + 2 * i, 1, none⟩ = some (.int .u8 (Kd i))
  ty2 : ∀ i, i < L → W.cell? ⟨w.heap.size + 3 + 2 * i, 2, none⟩ = some (.bool (Ab i))

theorem St.rd (h : St w wr L Nm Kd Ab L) : Rd w wr (W2 w wr) L Nm Kd Ab := by
  have hs := h.size
  have ty : ∀ i, i < L → ∀ o, (W2 w wr).cell? ⟨w.heap.size + 3 + 2 * i, o, none⟩ = (typeCells (Nm i) (Kd i) (Ab i))[o]? := fun i hi o => by
    have e : (W2 w wr).heap[w.heap.size + 3 + 2 * i]? = some (.cells (typeCells (Nm i) (Kd i) (Ab i)) 36) := (blk_alloc_lt _ _ _ (by omega)).trans (h.types i hi)
    simp [World.cell?, e]
  refine ⟨h.below.alloc (by omega) _, by simp, fun s hk => ?_, fun i hi => ?_, fun i hi => ?_, fun i hi => ?_, fun i hi => ?_⟩
  · exact (h.fill.alloc _).look law Yba.underlying23 (zero27 _) (Go.WideMaps.keyOf_string_mk (s := s) Yba.underlying9 hk)
  · have := (h.made.alloc (.cells #[.slice none 0 0, .map none, .map none, .map none, .map (some w.heap.size), .map none, .slice none 0 0] 45)).cell hi
    simpa [hi] using this
  · rw [ty i hi]; rfl
  · rw [ty i hi]; rfl
  · rw [ty i hi]; rfl

/-- The round's end where the name has been met before. -/
theorem St.skipped (h : St w wr L Nm Kd Ab k) (hs : (findTo Nm (Nm k) k).isSome = true) : St w (W1 w wr k (Nm k) (Kd k) (Ab k)) L Nm Kd Ab (k + 1) :=
  ⟨(h.fill1 _ _ _).skip hs, h.below1 _ _ _, h.size1 _ _ _, h.made1 _ _ _, h.types1⟩

/-- The round's end where the name is new. -/
theorem St.stored (h : St w wr L Nm Kd Ab k) (hk : k < maxLen) (hs : (findTo Nm (Nm k) k).isSome = false) (hkey : keyOf Yba.prog 9 (.string (Nm k)) = some (.string (Nm k).data.toList)) :
    ∃ w', (Instr.mapUpdate 23 (.map (some w.heap.size)) (.string (Nm k)) (.pointer (some ⟨wr.heap.size + 1, 0, none⟩))).run Yba.prog (W1 w wr k (Nm k) (Kd k) (Ab k)) = .ok () w' ∧ St w w' L Nm Kd Ab (k + 1) := by
  have hz := h.size
  obtain ⟨w', hrun, hf, hg, hsz⟩ := (h.fill1 (Nm k) (Kd k) (Ab k)).store law Yba.underlying23 hk hs hkey (b := wr.heap.size + 1) (by omega)
  have hs1 := h.size1 (Nm k) (Kd k) (Ab k)
  refine ⟨w', hrun, hf, ?_, hsz.trans hs1, ?_, fun j hj => ?_⟩
  · exact (h.below1 (Nm k) (Kd k) (Ab k)).grown hg (by omega) (fun j e => by cases e; exact Nat.le_refl _)
  · exact (h.made1 (Nm k) (Kd k) (Ab k)).of_block (hg.block _ (by omega) (by simp))
  · exact (hg.block _ (by omega) (by simp; omega)).trans (h.types1 j hj)
end

set_option maxHeartbeats 1000000 in
theorem walk_big (a : Option Addr) (L cap : Nat) (q : ByteArray) (pk : Int) (w : World) (hL : 1024 < L) :
    Calls Yba.prog 3 #[.slice a L cap, .string q, .int .u8 pk] w fun e w' => e = .returned (.bool true) ∧ Below w.heap.size w w' := by
  have h : (1024 : Int) < (L : Int) := by omega
  go_enter Yba.func3, Yba.ntmps3
  go_wp2
  go_ret
  exact ⟨rfl, Below.refl _ _⟩

set_option maxRecDepth 100000 in
set_option maxHeartbeats 1000000 in
theorem walk_pos (b off L cap : Nat) (Nm : Nat → ByteArray) (Kd : Nat → Int) (Ab : Nat → Bool) (q : ByteArray) (pk : Int) (w : World) (hL : L ≤ 1024) (hpos : 0 < L) (hq : q.size ≤ maxLen) (p0 : 0 ≤ pk) (p1 : pk ≤ 255)
    (hb : b < w.heap.size) (hNm : ∀ i, i < L → (Nm i).size ≤ maxLen) (h0 : ∀ i, i < L → w.cell? ⟨b, off + i * 3, none⟩ = some (.string (Nm i))) (h1 : ∀ i, i < L → w.cell? ⟨b, off + i * 3 + 1, none⟩ = some (.int .u8 (Kd i))) (h2 : ∀ i, i < L → w.cell? ⟨b, off + i * 3 + 2, none⟩ = some (.bool (Ab i))) :
    Calls Yba.prog 3 #[.slice (some ⟨b, off, none⟩) L cap, .string q, .int .u8 pk] w fun e w' => e = .returned (.bool true) ∧ Below w.heap.size w w' := by
  have hl : ¬ (1024 : Int) < (L : Int) := by omega
  have hmm := @run_makeMap Yba.prog
  have hmk := run_make_row' (P := Yba.prog) 24 27 (.pointer none) 8 Yba.underlying24 info27 rfl .i64 .i64 L (by omega) (by omega)
  go_enter Yba.func3, Yba.ntmps3
  go_wp2_with fail
  clear hmm hmk
  go_loopg [9] L (fun g i wr => ∃ k : Nat, g = L - k ∧ k ≤ L ∧ i = .int .i64 k ∧ St w wr L Nm Kd Ab k)
  case atStart => exact ⟨0, by omega, by omega, rfl, St.start w L Nm Kd Ab⟩
  case round =>
    obtain ⟨k, hgk, hk, rfl, hst⟩ := hrel
    have A := hgk
    clear hgk
    by_cases hlt : k < L
    · have c0 : wr.cell? ⟨b, off + k * 3, none⟩ = some (.string (Nm k)) := by rw [hst.below.cell hb]; exact h0 k hlt
      have c1 : wr.cell? ⟨b, off + k * 3 + 1, none⟩ = some (.int .u8 (Kd k)) := by rw [hst.below.cell hb]; exact h1 k hlt
      have c2 : wr.cell? ⟨b, off + k * 3 + 2, none⟩ = some (.bool (Ab k)) := by rw [hst.below.cell hb]; exact h2 k hlt
      have m1 := hst.m1 hlt (Nm k) (Kd k) (Ab k)
      have m2 := hst.m2 (Nm k) (Kd k) (Ab k)
      have e0 := hst.e0 (Nm k) (Kd k) (Ab k)
      have hkey := Go.WideMaps.keyOf_string_mk (s := Nm k) Yba.underlying9 (hNm k hlt)
      have hlook := (hst.fill1 (Nm k) (Kd k) (Ab k)).look_ok law Yba.underlying23 (zero27 _) hkey
      clear h0 h1 h2
      generalize ptrOf w.heap.size (findTo Nm (Nm k) k) = v at hlook
      have HA : Aside (gk = L - k) := A
      clear A
      cases hs : (findTo Nm (Nm k) k).isSome with
      | false =>
        rw [hs] at hlook
        obtain ⟨w2, hrun, hst2⟩ := hst.stored (by unfold maxLen; omega) hs hkey
        clear hs hkey hst
        go_wp2_with fail
        go_roundg (L - (k + 1))
        case measure => have := HA.out; omega
        case rel => exact ⟨k + 1, rfl, by omega, by simp, hst2⟩
      | true =>
        rw [hs] at hlook
        have hst2 := hst.skipped hs
        clear hs hkey hst
        go_wp2_with fail
        go_roundg (L - (k + 1))
        case measure => have := HA.out; omega
        case rel => exact ⟨k + 1, rfl, by omega, by simp, hst2⟩
    · have hkL : k = L := by omega
      subst hkL
      have d0 : ∀ i, i < k → wr.cell? ⟨b, off + i * 3, none⟩ = some (.string (Nm i)) := fun i hi => by rw [hst.below.cell hb]; exact h0 i hi
      have d1 : ∀ i, i < k → wr.cell? ⟨b, off + i * 3 + 1, none⟩ = some (.int .u8 (Kd i)) := fun i hi => by rw [hst.below.cell hb]; exact h1 i hi
      have d2 : ∀ i, i < k → wr.cell? ⟨b, off + i * 3 + 2, none⟩ = some (.bool (Ab i)) := fun i hi => by rw [hst.below.cell hb]; exact h2 i hi
      clear h0 h1 h2
      have hne : ((k : Int) == 0) = false := beq_eq_false_iff_ne.2 (by omega)
      have hp0 : (0 : Int) < (k : Int) := by omega
      go_upto_if 70 with fail
      go_cut [14] (fun s wx => ∃ nm : ByteArray, s = .string nm ∧ nm.size ≤ maxLen ∧ wr = wx)
      case first =>
        obtain ⟨j0, hj0⟩ : ∃ j0 : Nat, pk / 2 % (k : Int) = (j0 : Int) := ⟨(pk / 2 % (k : Int)).toNat, by have := Int.emod_nonneg (pk / 2) (show (k : Int) ≠ 0 by omega); omega⟩
        have hj1 : j0 < k := by have := Int.emod_lt_of_pos (pk / 2) hp0; omega
        have hcell := d0 j0 hj1
        have hNm0 := hNm j0 hj1
        clear d0 d1 d2 hNm
        go_wp2_with fail
        · go_meet
          exact ⟨Nm j0, rfl, hNm0, rfl⟩
        · go_meet
          exact ⟨q, rfl, hq, rfl⟩
      case rest =>
        obtain ⟨nm, rfl, hnm, rfl⟩ := hcut
        clear hne hp0
        have rd : Rd w wr (wr.alloc (.cells #[.slice none 0 0, .map none, .map none, .map none, .map (some w.heap.size), .map none, .slice none 0 0] 45)) k Nm Kd Ab := hst.rd
        have D0 : ∀ i, i < k → (wr.alloc (.cells #[.slice none 0 0, .map none, .map none, .map none, .map (some w.heap.size), .map none, .slice none 0 0] 45)).cell? ⟨b, off + i * 3, none⟩ = some (.string (Nm i)) := fun i hi => by rw [rd.below.cell hb, ← hst.below.cell hb]; exact d0 i hi
        have D1 : ∀ i, i < k → (wr.alloc (.cells #[.slice none 0 0, .map none, .map none, .map none, .map (some w.heap.size), .map none, .slice none 0 0] 45)).cell? ⟨b, off + i * 3 + 1, none⟩ = some (.int .u8 (Kd i)) := fun i hi => by rw [rd.below.cell hb, ← hst.below.cell hb]; exact d1 i hi
        have D2 : ∀ i, i < k → (wr.alloc (.cells #[.slice none 0 0, .map none, .map none, .map none, .map (some w.heap.size), .map none, .slice none 0 0] 45)).cell? ⟨b, off + i * 3 + 2, none⟩ = some (.bool (Ab i)) := fun i hi => by rw [rd.below.cell hb, ← hst.below.cell hb]; exact d2 i hi
        clear d0 d1 d2
        go_wp2_with fail
        revert rd D0 D1 D2
        generalize wr.alloc (.cells #[.slice none 0 0, .map none, .map none, .map none, .map (some w.heap.size), .map none, .slice none 0 0] 45) = W
        intro rd D0 D1 D2
        have hset := rd.set
        have hlook := rd.look nm hnm
        clear hst hL hpos
        cases hf : findTo Nm nm k with
        | none =>
          rw [hf] at hlook
          have hlook' : (Instr.lookup 23 (.map (some w.heap.size)) (.string nm) false).run Yba.prog W = .ok (.pointer none) W := hlook
          clear hlook
          have hno : ∀ i, i < k → ((Nm i).toList == nm.toList) = false := fun i hi => str_neq (findTo_none hf i hi)
          refine (resource_nil wr.heap.size w.heap.size nm W hset hlook').mono ?_
          rintro e w' ⟨rfl, hw'⟩
          subst hw'
          have HT := hlook'
          clear hlook'
          go_wp2_with fail
          go_loopg [17, 18, 19] k (fun g f wn i wx => ∃ m : Nat, g = k - m ∧ m ≤ k ∧ f = .pointer none ∧ wn = .pointer none ∧ i = .int .i64 m ∧ w' = wx)
          case atStart => exact ⟨0, rfl, Nat.zero_le _, rfl, rfl, rfl, rfl⟩
          case round =>
            obtain ⟨m, hg, hm, rfl, rfl, rfl, rfl⟩ := hrel
            have HG : Aside (gk = k - m) := hg
            clear hg
            by_cases hlt : m < k
            · have c0 := D0 m hlt
              have hn := hno m hlt
              clear D0 D1 D2 hno HT hset
              go_wp2_with fail
              go_roundg (k - (m + 1))
              case measure => have := HG.out; omega
              case rel => exact ⟨m + 1, rfl, by omega, rfl, rfl, by simp, rfl⟩
            · have hmk : m = k := by omega
              subst hmk
              have bel := rd.below
              clear D0 D1 D2 hno rd
              go_wp2_with fail
              refine (type_calls wr.heap.size w.heap.size nm none w' hset HT).mono ?_
              rintro e w'' ⟨rfl, hw''⟩
              subst hw''
              go_wp2_with fail
              go_ret
              exact ⟨rfl, bel⟩
        | some j =>
          obtain ⟨hjk, hname⟩ := findTo_lt hf
          subst hname
          rw [hf] at hlook
          have HT : (Instr.lookup 23 (.map (some w.heap.size)) (.string (Nm j)) false).run Yba.prog W = .ok (.pointer (some ⟨w.heap.size + 3 + 2 * j, 0, none⟩)) W := hlook
          clear hlook
          have hno : ∀ i, i < j → ((Nm i).toList == (Nm j).toList) = false := fun i hi => str_neq (findTo_before hf i hi)
          have mj := rd.made j hjk
          have t0 := rd.ty0 j hjk
          have t1 := rd.ty1 j hjk
          have t2 := rd.ty2 j hjk
          by_cases hkd : Kd j = 2
          · have D1j := D1 j hjk
            rw [hkd] at t1 D1j
            cases hab : Ab j with
            | false =>
              have D2j := D2 j hjk
              rw [hab] at t2 D2j
              clear hab hkd
              refine (resource_good wr.heap.size w.heap.size (w.heap.size + 3 + 2 * j) (Nm j) W hset HT t1 t2).mono ?_
              rintro e w' ⟨rfl, hw'⟩
              subst hw'
              go_wp2_with fail
              go_loopg [17, 18, 19] k (fun g f wn i wx => ∃ m : Nat, g = k - m ∧ m ≤ j ∧ f = .pointer none ∧ wn = .pointer none ∧ i = .int .i64 m ∧ w' = wx)
              case atStart => exact ⟨0, rfl, Nat.zero_le _, rfl, rfl, rfl, rfl⟩
              case round =>
                obtain ⟨m, hg, hm, rfl, rfl, rfl, rfl⟩ := hrel
                have HG : Aside (gk = k - m) := hg
                clear hg
                by_cases hlt : m < j
                · have hmk : m < k := by omega
                  have c0 := D0 m hmk
                  have hn := hno m hlt
                  clear D0 D1 D2 hno HT hset t0 t1 t2 mj D1j D2j
                  go_wp2_with fail
                  go_roundg (k - (m + 1))
                  case measure => have := HG.out; omega
                  case rel => exact ⟨m + 1, rfl, by omega, rfl, rfl, by simp, rfl⟩
                · obtain rfl : m = j := by omega
                  have bel := rd.below
                  have c0 := D0 m hjk
                  have hsame : ((Nm m).toList == (Nm m).toList) = true := by simp
                  have hsame' : ((Nm m).toList != (Nm m).toList) = false := by simp
                  have he := eql_same ⟨w.heap.size + 3 + 2 * m, 0, none⟩
                  have hne := neq_same ⟨w.heap.size + 3 + 2 * m, 0, none⟩
                  clear D0 D1 D2 hno rd hf
                  go_wp2_with fail
                  refine (type_calls wr.heap.size w.heap.size (Nm m) (some ⟨w.heap.size + 3 + 2 * m, 0, none⟩) w' hset HT).mono ?_
                  rintro e w'' ⟨rfl, hw''⟩
                  subst hw''
                  go_wp2_with fail
                  go_ret
                  exact ⟨rfl, bel⟩
            | true =>
              have D2j := D2 j hjk
              rw [hab] at t2 D2j
              clear hab hkd
              refine (resource_abstract wr.heap.size w.heap.size (w.heap.size + 3 + 2 * j) (Nm j) W hset HT t1 t2).mono ?_
              rintro e w' ⟨rfl, hw'⟩
              subst hw'
              go_wp2_with fail
              go_loopg [17, 18, 19] k (fun g f wn i wx => ∃ m : Nat, g = k - m ∧ m ≤ j ∧ f = .pointer none ∧ wn = .pointer none ∧ i = .int .i64 m ∧ w' = wx)
              case atStart => exact ⟨0, rfl, Nat.zero_le _, rfl, rfl, rfl, rfl⟩
              case round =>
                obtain ⟨m, hg, hm, rfl, rfl, rfl, rfl⟩ := hrel
                have HG : Aside (gk = k - m) := hg
                clear hg
                by_cases hlt : m < j
                · have hmk : m < k := by omega
                  have c0 := D0 m hmk
                  have hn := hno m hlt
                  clear D0 D1 D2 hno HT hset t0 t1 t2 mj D1j D2j
                  go_wp2_with fail
                  go_roundg (k - (m + 1))
                  case measure => have := HG.out; omega
                  case rel => exact ⟨m + 1, rfl, by omega, rfl, rfl, by simp, rfl⟩
                · obtain rfl : m = j := by omega
                  have bel := rd.below
                  have c0 := D0 m hjk
                  have hsame : ((Nm m).toList == (Nm m).toList) = true := by simp
                  have hsame' : ((Nm m).toList != (Nm m).toList) = false := by simp
                  have he := eql_same ⟨w.heap.size + 3 + 2 * m, 0, none⟩
                  have hne := neq_same ⟨w.heap.size + 3 + 2 * m, 0, none⟩
                  clear D0 D1 D2 hno rd hf
                  go_wp2_with fail
                  refine (type_calls wr.heap.size w.heap.size (Nm m) (some ⟨w.heap.size + 3 + 2 * m, 0, none⟩) w' hset HT).mono ?_
                  rintro e w'' ⟨rfl, hw''⟩
                  subst hw''
                  go_wp2_with fail
                  go_ret
                  exact ⟨rfl, bel⟩
          · have hk2 : (Kd j != 2) = true := by simpa using hkd
            have hk3 : (Kd j == 2) = false := by simpa using hkd
            have HK : Aside (¬ Kd j = 2) := hkd
            clear hkd

            refine (resource_kind wr.heap.size w.heap.size (w.heap.size + 3 + 2 * j) (Nm j) (Kd j) W hset HT t1 hk2).mono ?_
            rintro e w' ⟨rfl, hw'⟩
            subst hw'
            go_wp2_with fail
            go_loopg [17, 18, 19] k (fun g f wn i wx => ∃ m : Nat, g = k - m ∧ m ≤ j ∧ f = .pointer none ∧ wn = .pointer none ∧ i = .int .i64 m ∧ w' = wx)
            case atStart => exact ⟨0, rfl, Nat.zero_le _, rfl, rfl, rfl, rfl⟩
            case round =>
              obtain ⟨m, hg, hm, rfl, rfl, rfl, rfl⟩ := hrel
              have HG : Aside (gk = k - m) := hg
              clear hg
              by_cases hlt : m < j
              · have hmk : m < k := by omega
                have c0 := D0 m hmk
                have hn := hno m hlt
                clear D0 D1 D2 hno HT hset t0 t1 t2 mj
                go_wp2_with fail
                go_roundg (k - (m + 1))
                case measure => have := HG.out; omega
                case rel => exact ⟨m + 1, rfl, by omega, rfl, rfl, by simp, rfl⟩
              · obtain rfl : m = j := by omega
                have bel := rd.below
                have c0 := D0 m hjk
                have c1 := D1 m hjk
                have c2 := D2 m hjk
                have hsame : ((Nm m).toList == (Nm m).toList) = true := by simp
                have hsame' : ((Nm m).toList != (Nm m).toList) = false := by simp
                have he := eql_same ⟨w.heap.size + 3 + 2 * m, 0, none⟩
                have hne := neq_same ⟨w.heap.size + 3 + 2 * m, 0, none⟩
                clear D0 D1 D2 hno rd hf
                go_wp2_with fail
                refine (type_calls wr.heap.size w.heap.size (Nm m) (some ⟨w.heap.size + 3 + 2 * m, 0, none⟩) w' hset HT).mono ?_
                rintro e w'' ⟨rfl, hw''⟩
                subst hw''
                go_wp2_with fail
                go_ret
                exact ⟨rfl, bel⟩
end Go.Proofs.Ybulkbvzi.Res
