/-
  The steps of the law's own loops, outside the walk.
-/
import Derived.Test.Qxb6615613aModsHold
namespace Go.Proofs.Qxb6615613aMods
open Go.RowKit

theorem Trym.info52 : (Trym.prog.info? 52).map (fun i => (i.zero, i.size, i.bytes)) = some (some (.slice none 0 0), 1, 24) := by kernel_rfl
theorem Trym.info54 : (Trym.prog.info? 54).map (fun i => (i.zero, i.size, i.bytes)) = some (some (.pointer none), 1, 8) := by kernel_rfl

/-- The rule, as it is laid. -/
abbrev ruleO (x : ByteArray) : Obj := .cells #[.string x, .int .i64 1, .string ⟨#[]⟩, .bool false, .slice none 0 0, .slice none 0 0, .bool false, .bool false, .pointer none] 47

/-- The rule and the verdict lie in W. -/
structure Start (w W : World) (x : ByteArray) (ro : Option Addr) (tb : Bool) : Prop where
  below : Below w.heap.size w W
  size : W.heap.size = w.heap.size + 2
  r0 : W.cell? ⟨w.heap.size, 0, none⟩ = some (.string x)
  r1 : W.cell? ⟨w.heap.size, 1, none⟩ = some (.int .i64 1)
  r3 : W.cell? ⟨w.heap.size, 3, none⟩ = some (.bool false)
  v0 : W.cell? ⟨w.heap.size + 1, 0, none⟩ = some (.pointer ro)
  v1 : W.cell? ⟨w.heap.size + 1, 1, none⟩ = some (.bool tb)

theorem Start.mk' (w : World) (x : ByteArray) (ro : Option Addr) (tb : Bool) : Start w ((w.alloc (ruleO x)).alloc (.cells #[.pointer ro, .bool tb] 49)) x ro tb := by
  have h1 : ((w.alloc (ruleO x)).alloc (.cells #[.pointer ro, .bool tb] 49)).heap[w.heap.size]? = some (ruleO x) := heap_old_at (by simp) (heap_new_at rfl)
  have h2 : ((w.alloc (ruleO x)).alloc (.cells #[.pointer ro, .bool tb] 49)).heap[w.heap.size + 1]? = some (.cells #[.pointer ro, .bool tb] 49 (0, 0)) := heap_new_at (by simp)
  exact ⟨((Below.refl _ _).alloc (Nat.le_refl _) _).alloc (by simp) _, by simp, cell_of_row _ _ 0 _ _ _ h1, cell_of_row _ _ 1 _ _ _ h1, cell_of_row _ _ 3 _ _ _ h1, cell_of_row _ _ 0 _ _ _ h2, cell_of_row _ _ 1 _ _ _ h2⟩

theorem new_cell {w : World} {c : Value} {t : TypeId} {n : Nat} (h : w.heap.size = n) : ∀ (j : Nat) (u : Value), [c][j]? = some u → (w.alloc (.cells #[c] t)).cell? ((⟨n, 0, none⟩ : Addr).add j) = some u := by
  intro j u hj
  rw [addr_add0, cell_of_row _ _ j _ _ _ (heap_new_at h)]
  simpa using hj

theorem Hold.fkept {W wr w3 : World} {B : Nat → Nat} {K n : Nat} {cv fv : Value} {o1 o2 : Obj} (h : Hold W wr B K n cv fv) (h3g : ((wr.alloc o1).alloc o2).grownBy w3 cv.ownBlock) :
    w3.ownsRow W.heap.size 54 1 fv K ((List.range K).map (firstV B)) := by
  refine owns_same h.frow fun g hg => ?_
  have hl := (h.frow.lt g hg).2
  rw [h3g.block g (by simp; omega) (fun e => ?_), Below.heap_alloc _ _ _ (by simp; omega), Below.heap_alloc _ _ _ hl]
  obtain ⟨c1, h1⟩ := owns_type h.frow hg
  obtain ⟨c2, h2⟩ := owns_type h.crow e.symm
  rw [h1] at h2
  simp at h2

theorem Blk.set {w : World} {b m : Nat} (h : Blk w b m) (o : Nat) (y : Value) : Blk (w.setCell ⟨b, o, none⟩ y) b (max m (o + 1)) := by
  obtain ⟨C, hC, hs, hz⟩ := h
  refine ⟨_, heap_setCell_same _ _ _ _ _ _ hC, by simp [hs], fun c h1 h2 => ?_⟩
  rw [Array.getElem?_setIfInBounds_ne (by omega)]
  exact hz c (by omega) h2

/-- Four cells of one block are written. -/
abbrev put4 (w : World) (b o : Nat) (y0 y1 y2 y3 : Value) : World := (((w.setCell ⟨b, o, none⟩ y0).setCell ⟨b, o + 1, none⟩ y1).setCell ⟨b, o + 2, none⟩ y2).setCell ⟨b, o + 3, none⟩ y3

theorem put4_other (w : World) (b o : Nat) (y0 y1 y2 y3 : Value) (i : Nat) (h : i ≠ b) : (put4 w b o y0 y1 y2 y3).heap[i]? = w.heap[i]? := by
  unfold put4
  rw [heap_setCell_other _ _ _ _ h, heap_setCell_other _ _ _ _ h, heap_setCell_other _ _ _ _ h, heap_setCell_other _ _ _ _ h]

theorem Hold.store {W w w3 : World} {B : Nat → Nat} {K q : Nat} {cv fv : Value} (h : Hold W w B K q cv fv) (hb : Below w.heap.size w w3) (j r : Nat) (hq : q = 1024 * j + r) (hr : r < 1024) (hj : j < K) (y0 y1 y2 y3 : Value) :
    Hold W (put4 w3 (B j) (r * 4) y0 y1 y2 y3) B K (q + 1) cv fv := by
  have h3 := h.later hb
  refine h3.turn rfl rfl rfl (by simp [put4, World.setCell]) (fun i _ hi => put4_other _ _ _ _ _ _ _ i (hi j hj)) (fun k hk => ?_)
  by_cases e : k = j
  · subst e
    exact (((((h3.blk k hk).set _ y0).set _ y1).set _ y2).set _ y3).mono (by omega)
  · exact ((h3.blk k hk).mono (by omega)).same (put4_other _ _ _ _ _ _ _ _ (fun x => e (h.inj k j hk hj x)))

theorem keep4 {w : World} {b o : Nat} {y0 y1 y2 y3 : Value} {p1 p2 p3 p4 : Addr} {x1 x2 x3 x4 : Value} (h : w.cell? p1 = some x1 ∧ w.cell? p2 = some x2 ∧ w.cell? p3 = some x3 ∧ w.cell? p4 = some x4) (n1 : p1.block ≠ b) (n2 : p2.block ≠ b) (n3 : p3.block ≠ b) (n4 : p4.block ≠ b) :
    (put4 w b o y0 y1 y2 y3).cell? p1 = some x1 ∧ (put4 w b o y0 y1 y2 y3).cell? p2 = some x2 ∧ (put4 w b o y0 y1 y2 y3).cell? p3 = some x3 ∧ (put4 w b o y0 y1 y2 y3).cell? p4 = some x4 :=
  ⟨(World.cell?_of_block (put4_other _ _ _ _ _ _ _ _ n1)).trans h.1, (World.cell?_of_block (put4_other _ _ _ _ _ _ _ _ n2)).trans h.2.1, (World.cell?_of_block (put4_other _ _ _ _ _ _ _ _ n3)).trans h.2.2.1, (World.cell?_of_block (put4_other _ _ _ _ _ _ _ _ n4)).trans h.2.2.2⟩

theorem keepB {w w' : World} {p1 p2 p3 p4 : Addr} {x1 x2 x3 x4 : Value} (h : w.cell? p1 = some x1 ∧ w.cell? p2 = some x2 ∧ w.cell? p3 = some x3 ∧ w.cell? p4 = some x4) (hb : Below w.heap.size w w') :
    w'.cell? p1 = some x1 ∧ w'.cell? p2 = some x2 ∧ w'.cell? p3 = some x3 ∧ w'.cell? p4 = some x4 :=
  ⟨(hb.cell (World.block_lt_of_cell? _ _ h.1)).trans h.1, (hb.cell (World.block_lt_of_cell? _ _ h.2.1)).trans h.2.1, (hb.cell (World.block_lt_of_cell? _ _ h.2.2.1)).trans h.2.2.1, (hb.cell (World.block_lt_of_cell? _ _ h.2.2.2)).trans h.2.2.2⟩

/-- The four cells of item r of a chunk are there, and may be written. -/
theorem Blk.there {w : World} {b m : Nat} (h : Blk w b m) (r : Nat) (hr : r < 1024) :
    ∃ y0 y1 y2 y3, (w.cell? ⟨b, r * 4, none⟩ = some y0 ∧ w.cell? ⟨b, r * 4 + 1, none⟩ = some y1 ∧ w.cell? ⟨b, r * 4 + 2, none⟩ = some y2 ∧ w.cell? ⟨b, r * 4 + 3, none⟩ = some y3) ∧
      w.frozen? ⟨b, r * 4, none⟩ = false ∧ w.frozen? ⟨b, r * 4 + 1, none⟩ = false ∧ w.frozen? ⟨b, r * 4 + 2, none⟩ = false ∧ w.frozen? ⟨b, r * 4 + 3, none⟩ = false := by
  obtain ⟨C, hC, hs, _⟩ := h
  have hg : ∀ c, c < 4096 → w.cell? ⟨b, c, none⟩ = some (C.getD c undef) := fun c hc => by
    rw [cell_of_row _ _ _ _ _ _ hC]
    simp [hs, hc]
  exact ⟨_, _, _, _, ⟨hg _ (by omega), hg _ (by omega), hg _ (by omega), hg _ (by omega)⟩, frozen_of_row _ _ _ _ _ hC, frozen_of_row _ _ _ _ _ hC, frozen_of_row _ _ _ _ _ hC, frozen_of_row _ _ _ _ _ hC⟩

end Go.Proofs.Qxb6615613aMods
