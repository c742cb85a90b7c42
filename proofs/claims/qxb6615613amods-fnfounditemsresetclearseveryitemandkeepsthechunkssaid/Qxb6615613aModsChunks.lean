/-
  What the chunks hold, said of blocks and cells.
-/
import Derived.Test.Qxb6615613aModsParts
namespace Go.Proofs.Qxb6615613aMods
open Go.RowKit

/-- Block b is a chunk of 1024 items, zero from cell m on. -/
def Blk (w : World) (b m : Nat) : Prop := ∃ C : Array Value, w.heap[b]? = some (.cells C 57 (0, 0)) ∧ C.size = 4096 ∧ ∀ c, m ≤ c → c < 4096 → C[c]? = some (zc c)

theorem Blk.lt {w : World} {b m : Nat} (h : Blk w b m) : b < w.heap.size := by
  obtain ⟨C, hC, _⟩ := h
  exact (Array.getElem?_eq_some_iff.1 hC).1

theorem Blk.same {w w' : World} {b m : Nat} (h : Blk w b m) (e : w'.heap[b]? = w.heap[b]?) : Blk w' b m := by
  obtain ⟨C, hC, r⟩ := h
  exact ⟨C, e.trans hC, r⟩

theorem Blk.mono {w : World} {b m m' : Nat} (h : Blk w b m) (e : m ≤ m') : Blk w b m' := by
  obtain ⟨C, hC, hs, r⟩ := h
  exact ⟨C, hC, hs, fun c h1 h2 => r c (by omega) h2⟩

theorem Blk.zero {w : World} {b : Nat} (h : Blk w b 0) (c : Nat) (hc : c < 4096) : w.cell? ⟨b, c, none⟩ = some (zc c) := by
  obtain ⟨C, hC, hs, r⟩ := h
  rw [cell_of_row _ _ _ _ _ _ hC]
  exact r c (by omega) hc

theorem Blk.item {w : World} {b : Nat} (h : Blk w b 0) (j : Nat) (hj : j < 1024) :
    w.cell? ⟨b, j * 4, none⟩ = some (.string ⟨#[]⟩) ∧ w.cell? ⟨b, j * 4 + 1, none⟩ = some (.pointer none) ∧ w.cell? ⟨b, j * 4 + 2, none⟩ = some (.bool false) ∧ w.cell? ⟨b, j * 4 + 3, none⟩ = some (.pointer none) := by
  refine ⟨(h.zero _ (by omega)).trans ?_, (h.zero _ (by omega)).trans ?_, (h.zero _ (by omega)).trans ?_, (h.zero _ (by omega)).trans ?_⟩
  · unfold zc; rw [if_pos (by omega)]
  · unfold zc; rw [if_neg (by omega), if_neg (by omega)]
  · unfold zc; rw [if_neg (by omega), if_pos (by omega)]
  · unfold zc; rw [if_neg (by omega), if_neg (by omega)]

/-- The slice's K elements, of one cell each, are xs 0 .. -/
structure RowAt (w : World) (a : Option Addr) (K cp : Nat) (xs : Nat → Value) : Prop where
  len : K ≤ 9223372036854775807
  cells : ∀ k, k < K → ∃ g, a = some ⟨g, 0, none⟩ ∧ g < w.heap.size ∧ w.cell? ⟨g, k, none⟩ = some (xs k)

theorem RowAt.later {w w' : World} {a : Option Addr} {K cp : Nat} {xs : Nat → Value} (h : RowAt w a K cp xs) (hb : Below w.heap.size w w') : RowAt w' a K cp xs := by
  refine ⟨h.len, fun k hk => ?_⟩
  obtain ⟨g, e, hg, hc⟩ := h.cells k hk
  exact ⟨g, e, Nat.lt_of_lt_of_le hg hb.size, (hb.cell (p := ⟨g, k, none⟩) hg).trans hc⟩

/-- Chunk k as a slice; the pointer to its first item. -/
def chunkV (B : Nat → Nat) (k : Nat) : Value := .slice (some ⟨B k, 0, none⟩) 1024 1024
def firstV (B : Nat → Nat) (k : Nat) : Value := .pointer (some ⟨B k, 0, none⟩)

end Go.Proofs.Qxb6615613aMods
