/-
  (*p256Scalar).bytes and ZZp256Bytes, walked: the 32 big-endian bytes of four limbs.
-/
import Derived.Test.Qxb6608765aModsRows
import Derived.Test.Qxb6608765aModsPlain
import Derived.WalkKit
import Derived.WalkSpells
import Derived.WalkLawsBesides
import Derived.Deep.QuietTactic
import Derived.BigQuiet
namespace Go.Proofs.Qxb6608765aMods
open Go.RowKit

def bv (z : Nat → Int) (m q : Nat) : Int := if 31 - q < m then lb z (31 - q) else 0
def brow (z : Nat → Int) (m : Nat) : Array Value := Array.ofFn (n := 32) fun q => .int .u8 (bv z m q)

theorem brow_size (z : Nat → Int) (m : Nat) : (brow z m).size = 32 := by simp [brow]
theorem brow_get (z : Nat → Int) (m q : Nat) (h : q < 32) : (brow z m)[q]? = some (.int .u8 (bv z m q)) := by
  simp [brow, h]
theorem brow_one (z : Nat → Int) (m : Nat) : (brow z m).all (·.oneCell') = true := by
  rw [Array.all_eq_true]; intro i hi; simp [brow, Value.oneCell']
theorem brow_set (z : Nat → Int) (k j : Nat) (hk : k < 4) (hj : j < 8) :
    (brow z (8 * k + j)).setIfInBounds (31 - 8 * k - j) (.int .u8 (z k / 2 ^ (8 * j) % 256)) = brow z (8 * k + (j + 1)) := by
  apply Array.ext
  · simp [brow]
  · intro i h1 h2
    have hi : i < 32 := by simpa [brow] using h2
    rw [Array.getElem_setIfInBounds (by simpa [brow] using hi)]
    simp only [brow, Array.getElem_ofFn, bv]
    by_cases e : 31 - 8 * k - j = i
    · rw [if_pos e, if_pos (by omega)]
      have e2 : (31 - i) / 8 = k := by omega
      have e3 : (31 - i) % 8 = j := by omega
      simp only [lb, e2, e3]
    · rw [if_neg e]
      by_cases e4 : 31 - i < 8 * k + j
      · rw [if_pos e4, if_pos (by omega)]
      · rw [if_neg e4, if_neg (by omega)]

theorem brow_zero (z : Nat → Int) : brow z 0 = #[.int .u8 0, .int .u8 0, .int .u8 0, .int .u8 0, .int .u8 0, .int .u8 0, .int .u8 0, .int .u8 0, .int .u8 0, .int .u8 0, .int .u8 0, .int .u8 0, .int .u8 0, .int .u8 0, .int .u8 0, .int .u8 0, .int .u8 0, .int .u8 0, .int .u8 0, .int .u8 0, .int .u8 0, .int .u8 0, .int .u8 0, .int .u8 0, .int .u8 0, .int .u8 0, .int .u8 0, .int .u8 0, .int .u8 0, .int .u8 0, .int .u8 0, .int .u8 0] := by
  kernel_rfl

structure BInv (z : Nat → Int) (w wr : World) (m : Nat) : Prop where
  below : Below w.heap.size w wr
  size : wr.heap.size = w.heap.size + 2
  res : wr.heap[w.heap.size]? = some (.cells (brow z 0) 24 (0, 0))
  row : wr.heap[w.heap.size + 1]? = some (.cells (brow z m) 24 (0, 0))

theorem BInv.drewN {z : Nat → Int} {w wr : World} {m : Nat} (h : BInv z w wr m) (n : Nat) : BInv z w (wr.drewN n) m :=
  ⟨⟨h.below.os, h.below.tape, h.below.output, h.below.size, h.below.block⟩, h.size, h.res, h.row⟩

theorem BInv.step {z : Nat → Int} {w wr : World} {k j : Nat} (h : BInv z w wr (8 * k + j)) (hk : k < 4) (hj : j < 8) :
    BInv z w (wr.setCell ⟨w.heap.size + 1, 31 - 8 * k - j, none⟩ (.int .u8 (z k / 2 ^ (8 * j) % 256))) (8 * k + (j + 1)) := by
  refine ⟨h.below.setCell (by simp) _, by simp [World.setCell, h.size], ?_, ?_⟩
  · rw [heap_setCell_other _ _ _ _ (by simp)]; exact h.res
  · rw [heap_setCell_same _ _ _ _ _ _ h.row, brow_set z k j hk hj]

theorem BInv.start (z : Nat → Int) (w : World) : BInv z w ((w.alloc (.cells (brow z 0) 24)).alloc (.cells (brow z 0) 24)) 0 :=
  ⟨((Below.refl _ _).alloc (Nat.le_refl _) _).alloc (by simp) _, by simp, heap_alloc2_old _ _ _, heap_alloc2_new _ _ _⟩

theorem heap_new_at {w : World} {o : Obj} {n : Nat} (h : w.heap.size = n) : (w.alloc o).heap[n]? = some o := by
  subst h; exact heap_alloc_new w o
theorem heap_old_at {w : World} {o x : Obj} {n : Nat} (h : n < w.heap.size) (hx : w.heap[n]? = some x) : (w.alloc o).heap[n]? = some x :=
  (Below.heap_alloc w o n h).trans hx
theorem drewN_below {B : Nat} {a w : World} (h : Below B a w) (n : Nat) : Below B a (w.drewN n) := ⟨h.os, h.tape, h.output, h.size, h.block⟩

set_option maxHeartbeats 400000 in
theorem bytes_any (z : Nat → Int) (g : Nat) (w : World) (hg : g < w.heap.size) (h0 : ∀ i, i < 4 → w.cell? ⟨g, i, none⟩ = some (.int .u64 (z i))) :
    Calls Trym.prog 15 #[.pointer (some ⟨g, 0, none⟩)] w fun e w' => e = .returned (.agg (brow z 32)) ∧ Below w.heap.size w w' := by
  go_enter Trym.func15, Trym.ntmps15
  go_wp2
  go_loopw [8] (fun i wr => ∃ k : Nat, k ≤ 4 ∧ i = .int .i64 k ∧ BInv z w wr (8 * k)) (fun i _ => 4 - (intOf i).toNat)
  case atStart => exact ⟨0, by omega, rfl, by have := BInv.start z w; rw [brow_zero] at this; exact this⟩
  case round =>
    obtain ⟨k, hk, rfl, hI⟩ := hrel
    by_cases hlt : k < 4
    · have hlt' : (k : Int) < 4 := by omega
      have hc : wr.cell? ⟨g, k, none⟩ = some (.int .u64 (z k)) := (hI.below.cell hg).trans (h0 k hlt)
      have HI : Hid _ := hI; clear hI
      have H0 : Hid _ := h0; clear h0
      go_wp2
      go_quiet (fail)
      go_wp2
      go_loopw [14] (fun i wr => ∃ j : Nat, j ≤ 8 ∧ i = .int .i64 j ∧ BInv z w wr (8 * k + j)) (fun i _ => 8 - (intOf i).toNat)
      case atStart => exact ⟨0, by omega, rfl, HI.out.drewN _⟩
      case round =>
        clear HI hc
        obtain ⟨j, hj, rfl, hI⟩ := hrel
        by_cases hjt : j < 8
        · have hjt' : (j : Int) < 8 := by omega
          have hcell : wr.cell? ⟨w.heap.size + 1, 31 - 8 * k - j, none⟩ = some (.int .u8 (bv z (8 * k + j) (31 - 8 * k - j))) := by
            rw [cell_of_row _ _ _ _ _ _ hI.row, brow_get _ _ _ (by omega)]
          have hfr : wr.frozen? ⟨w.heap.size + 1, 31 - 8 * k - j, none⟩ = false := frozen_of_row _ _ _ _ _ hI.row
          have HI : Hid _ := hI; clear hI
          go_wp2
          go_roundw
          case rel => exact ⟨j + 1, by omega, by go_num, HI.out.step hlt hjt⟩
          case measure => simp [intOf]; omega
        · have hjt' : ¬ (j : Int) < 8 := by omega
          have HI : Hid _ := hI; clear hI
          have ej : j = 8 := by omega
          subst ej
          go_wp2
          go_roundw
          case rel => exact ⟨k + 1, by omega, by go_num, HI.out⟩
          case measure => simp [intOf]; omega
    · have ek : k = 4 := by omega
      subst ek
      have HI : Hid _ := hI
      have hrow := hI.row
      have hres := hI.res
      clear hI
      have H0 : Hid _ := h0; clear h0
      go_wp2_with (first
        | (refine wpList_load_row rfl 24 (.tmp 3) rfl (w.heap.size + 1) rfl 24 (brow z (8 * 4)) (0, 0) _ hrow Trym.underlying24 rfl (by rw [brow_size]; kernel_rfl) ?_)
        | (refine wpList_store_row rfl 24 (.tmp 2) (.tmp 30) rfl w.heap.size (brow z (8 * 4)) rfl rfl 24 (brow z 0) hres (by rw [brow_size]; kernel_rfl) (by rw [brow_size, brow_size]) (brow_one z _) ?_))
      refine bodyPost_ret (v := .agg (brow z 32)) (results_cell_row Trym.results15 _ _ w.heap.size 24 (brow z 32) (0, 0) _ rfl (setRow_heap _ _ _ _ _ _ hres) Trym.underlying24 rfl (by rw [brow_size]; kernel_rfl)) rfl ⟨rfl, ?_⟩
      exact HI.out.below.trans ⟨rfl, rfl, rfl, by simp, fun k hk => setRow_other _ _ _ _ (by omega)⟩

set_option maxHeartbeats 400000 in
theorem zbytes_any (z : Nat → Int) (w : World) :
    Calls Trym.prog 7 #[.agg #[.int .u64 (z 0), .int .u64 (z 1), .int .u64 (z 2), .int .u64 (z 3)]] w fun e w' => e = .returned (.agg (brow z 32)) ∧ Below w.heap.size w w' := by
  go_enter Trym.func7, Trym.ntmps7
  go_wp2_with fail
  refine (bytes_any z _ _ (by simp) ?_).mono ?_
  · intro i hi
    refine (cell_of_row _ _ _ _ 38 (0, 0) (heap_new_at (by simp))).trans ?_
    match i, hi with
    | 0, _ => rfl
    | 1, _ => rfl
    | 2, _ => rfl
    | 3, _ => rfl
  rintro e w1 ⟨rfl, hb⟩
  have hres : w1.heap[w.heap.size + 1]? = some (.cells (brow z 0) 24 (0, 0)) := by
    rw [brow_zero]
    exact (hb.block (w.heap.size + 1) (by simp)).trans (heap_old_at (by simp) (heap_new_at (by simp)))
  have hB : Below w.heap.size w w1 := ((((Below.refl _ _).alloc (Nat.le_refl _) _).alloc (by simp) _).alloc (by simp; omega) _).trans (hb.mono (by simp; omega))
  clear hb
  have HB : Hid _ := hB; clear hB
  go_wp2_with (refine wpList_store_row rfl 24 (.tmp 2) (.tmp 5) rfl (w.heap.size + 1) (brow z 32) rfl rfl 24 (brow z 0) hres (by rw [brow_size]; kernel_rfl) (by rw [brow_size, brow_size]) (brow_one z _) ?_)
  refine bodyPost_ret (v := .agg (brow z 32)) (results_cell_row Trym.results7 _ _ (w.heap.size + 1) 24 (brow z 32) (0, 0) _ rfl (setRow_heap _ _ _ _ _ _ hres) Trym.underlying24 rfl (by rw [brow_size]; kernel_rfl)) rfl ⟨rfl, ?_⟩
  exact HB.out.trans ⟨rfl, rfl, rfl, by simp, fun k hk => setRow_other _ _ _ _ (by omega)⟩
end Go.Proofs.Qxb6608765aMods
