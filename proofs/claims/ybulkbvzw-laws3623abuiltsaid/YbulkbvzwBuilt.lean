/- THE WALK of 'calendar.LawS3623ABuilt': too much; no digit; one to 300 digits. -/
import Derived.Test.YbulkbvzwPlain
import Derived.Deep.OwnRows
namespace Go.Proofs.Ybulkbvzw.Cal
open Go.RowKit Go.Deep

theorem info5 : (Yba.prog.info? 5).map (fun i => (i.zero, i.size, i.bytes)) = some (some (.int .u8 0), 1, 1) := by kernel_rfl

set_option maxHeartbeats 1000000 in
theorem built_big (a : Option Addr) (L cap : Nat) (sel sl : Int) (tail : ByteArray) (w : World) (h : (300 : Int) < (L : Int)) :
    Calls Yba.prog 4 #[.slice a L cap, .int .u8 sel, .int .i8 sl, .string tail] w fun e w' => e = .returned (.bool true) ∧ Below w.heap.size w w' := by
  go_enter Yba.func4, Yba.ntmps4
  go_wp2
  go_ret
  exact ⟨rfl, Below.refl _ _⟩

set_option maxHeartbeats 1000000 in
theorem built_long (a : Option Addr) (L cap : Nat) (sel sl : Int) (tail : ByteArray) (w : World) (h : ¬ (300 : Int) < (L : Int)) (h' : (1024 : Int) < (tail.size : Int)) :
    Calls Yba.prog 4 #[.slice a L cap, .int .u8 sel, .int .i8 sl, .string tail] w fun e w' => e = .returned (.bool true) ∧ Below w.heap.size w w' := by
  go_enter Yba.func4, Yba.ntmps4
  go_wp2
  go_ret
  exact ⟨rfl, Below.refl _ _⟩

/-- 'make([]byte, 0, n)'. -/
theorem make_own (w : World) (n : Nat) (hn : n ≤ 4096) : ∃ w', (Instr.makeSlice 25 (.int .i64 0) (.int .i64 (n : Int))).run Yba.prog w = .ok (.slice (some ⟨w.heap.size, 0, none⟩) 0 n) w' ∧
    w'.ownsRow w.heap.size 5 1 (.slice (some ⟨w.heap.size, 0, none⟩) 0 n) 0 [] ∧ w.grownBy w' none := by
  obtain ⟨i, hi, hz⟩ := Option.map_eq_some_iff.1 info5
  simp only [Prod.mk.injEq] at hz
  obtain ⟨w', h1, h2, h3⟩ := run_make_own (P := Yba.prog) w w.heap.size 25 5 i (.int .u8 0) 1 Yba.underlying25 hi hz.1 hz.2.1 .i64 .i64 n (by rw [hz.2.2]; omega) (by unfold maxLen; omega) (Nat.le_refl _)
  exact ⟨w', h1, h2, h3⟩

/-- 'string(b)'. -/
theorem conv (B : Nat) (w : World) (k cap : Nat) (s : ByteArray) (hown : w.ownsRow B 5 1 (.slice (some ⟨B, 0, none⟩) k cap) k (Lib.strCells s)) :
    (convert 25 9 (.slice (some ⟨B, 0, none⟩) k cap)).run Yba.prog w = .ok (.string s) w := by
  have hk : k = s.size := by
    have := hown.1
    rw [Lib.strCells_length] at this
    omega
  subst hk
  refine Lib.run_convert_whole (P := Yba.prog) w 25 5 9 Yba.underlying25 Yba.underlying5 Yba.underlying9 B 0 s (fun i hi => ?_) cap
  have hc := hown.cells (g := B) rfl i (.int .u8 (s[i].toNat : Int)) (by
    simp [Lib.strCells, ByteArray.getElem_eq_getElem_data]
    exact ⟨_, Array.getElem?_eq_getElem (show i < s.data.size from hi), rfl⟩)
  simpa [Addr.add_lit] using hc

set_option maxRecDepth 100000 in
set_option maxHeartbeats 1000000 in
theorem built_pos (b off L cap : Nat) (Z : Nat → Int) (sel sl : Int) (tail : ByteArray) (u : UInt8) (w : World) (hL : L ≤ 300) (hT : tail.size ≤ 1024) (hpos : 0 < L) (hb : b < w.heap.size)
    (s0 : 0 ≤ sel) (s1 : sel ≤ 255) (l0 : -128 ≤ sl) (l1 : sl ≤ 127)
    (hidx : ∀ wx : World, (Instr.index 9 (.string { data := #[121, 109, 100] }) (.int .i64 (sel % 3))).run Yba.prog wx = .ok (.int .u8 (u.toNat : Int)) wx) (hu : 57 < u.toNat)
    (hcell : ∀ i, i < L → w.cell? ⟨b, off + i, none⟩ = some (.int .u8 (Z i))) (hz : ∀ i, i < L → 0 ≤ Z i ∧ Z i ≤ 255) :
    Calls Yba.prog 4 #[.slice (some ⟨b, off, none⟩) L cap, .int .u8 sel, .int .i8 sl, .string tail] w fun e w' => e = .returned (.bool true) ∧ Below w.heap.size w w' := by
  obtain ⟨i0, hi, hz0, hz1, hz2⟩ := info_parts info5
  have h300 : ¬ (300 : Int) < (L : Int) := by omega
  have h1024 : ¬ (1024 : Int) < (tail.size : Int) := by omega
  obtain ⟨w0, hmk, hown0, hg0⟩ := make_own w (L + 1 + tail.size) (by omega)
  have ec : ((L + 1 + tail.size : Nat) : Int) = (L : Int) + 1 + (tail.size : Int) := by omega
  rw [ec] at hmk
  clear ec
  go_enter Yba.func4, Yba.ntmps4
  go_wp2_with fail
  have hbel0 : Below w.heap.size w w0 := (Below.refl _ w).grown hg0 (Nat.le_refl _) (fun k hk => by cases hk)
  clear hmk hg0 hidx
  go_loopg [10, 11, 41] L (fun g vb v i wr => ∃ k : Nat, g = L - k ∧ k ≤ L ∧ vb = .slice (some ⟨w.heap.size, 0, none⟩) k (L + 1 + tail.size) ∧ v = .int .i64 (accTo Z k) ∧ i = .int .i64 k ∧
    wr.ownsRow w.heap.size 5 1 (.slice (some ⟨w.heap.size, 0, none⟩) k (L + 1 + tail.size)) k (cellsTo Z k) ∧ Below w.heap.size w wr)
  case atStart => exact ⟨0, rfl, Nat.zero_le _, rfl, rfl, rfl, hown0, hbel0⟩
  case round =>
    obtain ⟨k, hg, hk, rfl, rfl, rfl, hown, hbel⟩ := hrel
    have HG : Aside (gk = L - k) := hg
    clear hg hown0 hbel0
    by_cases hlt : k < L
    · have hc : wr.cell? ⟨b, off + k, none⟩ = some (.int .u8 (Z k)) := by rw [hbel.cell hb]; exact hcell k hlt
      have hd0 : 0 ≤ Z k := (hz k hlt).1
      have hd1 : Z k ≤ 255 := (hz k hlt).2
      clear hcell hz
      go_wp2_with (at_builtin; refine wpList_append_fits _ rfl _ _ 25 rfl w.heap.size 5 i0 1 Yba.underlying25 hi hz1 w.heap.size k (L + 1 + tail.size) _ rfl (hown.alloc _) ⟨wr.heap.size, 0, none⟩ 1 1 [.int .u8 (48 + Z k % 10)] rfl rfl (cell_one_new _ _ _) (ints_oneCell .u8 [48 + Z k % 10]) (by omega) ?_; intro w1 hown1 hgr1)
      go_roundg (L - (k + 1))
      case measure => have := HG.out; omega
      case rel =>
        refine ⟨k + 1, rfl, by omega, rfl, by rw [accTo], by simp, by rw [← cellsTo_step]; exact hown1, ?_⟩
        exact (hbel.alloc hbel.size _).grown hgr1 (by have := hbel.size; rw [nblk_alloc]; omega) (fun j e => by cases e; exact Nat.le_refl _)
    · have hkL : k = L := by omega
      subst hkL
      clear hcell hz HG
      have hC := built_cells Z k u tail
      go_wp2_with (first
        | (at_builtin; refine wpList_append_fits _ rfl _ _ 25 rfl w.heap.size 5 i0 1 Yba.underlying25 hi hz1 w.heap.size k (k + 1 + tail.size) _ rfl (hown.alloc _) ⟨wr.heap.size, 0, none⟩ 1 1 [.int .u8 (u.toNat : Int)] rfl rfl (cell_one_new _ _ _) (ints_oneCell .u8 [(u.toNat : Int)]) (by omega) ?_; intro w1 hown1 hgr1)
        | (at_builtin; refine Lib.wpList_append_fits_string _ rfl _ _ 25 9 rfl w.heap.size 5 i0 Yba.underlying25 Yba.underlying9 hi hz1 (some ⟨w.heap.size, 0, none⟩) (k + 1) (k + 1 + tail.size) _ rfl hown1 tail rfl (by omega) (by omega) ?_; intro w2 hown2 hgr2; rw [hC] at hown2; have hcv := conv _ _ _ _ _ hown2))
      have bel1 : Below w.heap.size w w1 := (hbel.alloc hbel.size _).grown hgr1 (by have := hbel.size; rw [nblk_alloc]; omega) (fun j e => by cases e; exact Nat.le_refl _)
      have bel2 : Below w.heap.size w w2 := bel1.grown hgr2 bel1.size (fun j e => by simp [Value.ownBlock] at e; omega)
      have hsz : (built Z k u tail).size ≤ maxLen := by rw [built_size]; unfold maxLen; omega
      have hk0 : ((k : Int) == 0) = false := beq_eq_false_iff_ne.2 (by omega)
      clear hC hown hbel hown1 hgr1 hown2 hgr2 hcv bel1
      by_cases hneg : sl < 0
      · have C := term_refuse (built Z k u tail) hsz (u.toNat : Int) ((k : Int) + sl) k (built_lead hu) (.inr (.inl (by omega))) w2
        generalize built Z k u tail = s at C
        have hsame : (s.toList == s.toList) = true := by simp
        refine C.mono ?_
        rintro e wx ⟨rfl, hwx⟩
        subst hwx
        clear C
        go_wp2_with fail
        go_ret
        exact ⟨rfl, bel2⟩
      · have C := term_ok (built Z k u tail) hsz (u.toNat : Int) ((k : Int) + sl) k (built_lead hu) (by omega) (by omega) (by rw [built_size]; omega) built_byte w2
        rw [built_val k (Nat.le_refl _), built_tail] at C
        have hsame : (tail.toList == tail.toList) = true := by simp
        refine C.mono ?_
        rintro e wx ⟨rfl, n, rfl⟩
        clear C
        go_wp2_with fail
        go_ret
        exact ⟨rfl, ⟨bel2.os, bel2.tape, bel2.output, bel2.size, bel2.block⟩⟩

set_option maxRecDepth 100000 in
set_option maxHeartbeats 1000000 in
/-- No digit (a nil slice too). -/
theorem built_zero (a : Option Addr) (cap : Nat) (sel sl : Int) (tail : ByteArray) (u : UInt8) (w : World) (hT : tail.size ≤ 1024)
    (s0 : 0 ≤ sel) (s1 : sel ≤ 255) (l0 : -128 ≤ sl) (l1 : sl ≤ 127)
    (hidx : ∀ wx : World, (Instr.index 9 (.string { data := #[121, 109, 100] }) (.int .i64 (sel % 3))).run Yba.prog wx = .ok (.int .u8 (u.toNat : Int)) wx) (hu : 57 < u.toNat) :
    Calls Yba.prog 4 #[.slice a 0 cap, .int .u8 sel, .int .i8 sl, .string tail] w fun e w' => e = .returned (.bool true) ∧ Below w.heap.size w w' := by
  obtain ⟨i0, hi, hz0, hz1, hz2⟩ := info_parts info5
  have h1024 : ¬ (1024 : Int) < (tail.size : Int) := by omega
  obtain ⟨w0, hmk, hown0, hg0⟩ := make_own w (1 + tail.size) (by omega)
  have ec : ((1 + tail.size : Nat) : Int) = 1 + (tail.size : Int) := by omega
  rw [ec] at hmk
  clear ec
  go_enter Yba.func4, Yba.ntmps4
  go_wp2_with fail
  refine wp_loop_rounds 1 ?_
  rw [rounds_succ]
  have hbel : Below w.heap.size w w0 := (Below.refl _ w).grown hg0 (Nat.le_refl _) (fun k hk => by cases hk)
  clear hmk hg0 hidx
  have hC := built_cells (fun _ => 0) 0 u tail
  go_wp2_with (first
    | (at_builtin; refine wpList_append_fits _ rfl _ _ 25 rfl w.heap.size 5 i0 1 Yba.underlying25 hi hz1 w.heap.size 0 (1 + tail.size) _ rfl (hown0.alloc _) ⟨w0.heap.size, 0, none⟩ 1 1 [.int .u8 (u.toNat : Int)] rfl rfl (cell_one_new _ _ _) (ints_oneCell .u8 [(u.toNat : Int)]) (by omega) ?_; intro w1 hown1 hgr1; have hown1b : w1.ownsRow w.heap.size 5 1 (.slice (some ⟨w.heap.size, 0, none⟩) 1 (1 + tail.size)) 1 [.int .u8 (u.toNat : Int)] := hown1; clear hown1)
    | (at_builtin; refine Lib.wpList_append_fits_string _ rfl _ _ 25 9 rfl w.heap.size 5 i0 Yba.underlying25 Yba.underlying9 hi hz1 (some ⟨w.heap.size, 0, none⟩) 1 (1 + tail.size) _ rfl hown1b tail rfl (by omega) (by omega) ?_; intro w2 hown2 hgr2; have hown3 : w2.ownsRow w.heap.size 5 1 (.slice (some ⟨w.heap.size, 0, none⟩) (1 + tail.size) (1 + tail.size)) (1 + tail.size) (Lib.strCells (built (fun _ => 0) 0 u tail)) := hC ▸ hown2; have hcv := conv _ _ _ _ _ hown3))
  have bel1 : Below w.heap.size w w1 := (hbel.alloc hbel.size _).grown hgr1 (by have := hbel.size; rw [nblk_alloc]; omega) (fun j e => by cases e; exact Nat.le_refl _)
  have bel2 : Below w.heap.size w w2 := bel1.grown hgr2 bel1.size (fun j e => by simp [Value.ownBlock] at e; omega)
  have hsz : (built (fun _ => 0) 0 u tail).size ≤ maxLen := by rw [built_size]; unfold maxLen; omega
  clear hC hown0 hbel hown1b hgr1 hown2 hown3 hgr2 hcv bel1
  have C := term_refuse (built (fun _ => 0) 0 u tail) hsz (u.toNat : Int) sl 0 (built_lead hu) (.inl rfl) w2
  generalize built (fun _ => 0) 0 u tail = s at C
  have hsame : (s.toList == s.toList) = true := by simp
  refine C.mono ?_
  rintro e wx ⟨rfl, hwx⟩
  subst hwx
  clear C
  go_wp2_with fail
  go_ret
  exact ⟨rfl, bel2⟩
end Go.Proofs.Ybulkbvzw.Cal
