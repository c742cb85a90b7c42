/-
  What the chunks and the pointers to their first items hold between the steps.
-/
import Derived.Test.Qxb6615613aModsReset
namespace Go.Proofs.Qxb6615613aMods
open Go.RowKit

theorem owns_type {w : World} {base : Nat} {e : TypeId} {s : Nat} {v : Value} {n : Nat} {xs : List Value} (h : w.ownsRow base e s v n xs) {g : Nat} (hg : v.ownBlock = some g) : ∃ cur, w.heap[g]? = some (.cells cur e (0, 0)) := by
  rcases h.2 with ⟨rfl, _⟩ | ⟨g', cap, cur, rfl, _, hc, _⟩
  · simp [Value.ownBlock] at hg
  · simp [Value.ownBlock] at hg
    subst hg
    exact ⟨cur, hc⟩

theorem owns_same {w w' : World} {base : Nat} {e : TypeId} {s : Nat} {v : Value} {n : Nat} {xs : List Value} (h : w.ownsRow base e s v n xs) (hg : ∀ g, v.ownBlock = some g → w'.heap[g]? = w.heap[g]?) : w'.ownsRow base e s v n xs := by
  refine ⟨h.1, ?_⟩
  rcases h.2 with hn | ⟨g, cap, cur, rfl, hb, hc, rest⟩
  · exact .inl hn
  · exact .inr ⟨g, cap, cur, rfl, hb, (hg g rfl).trans hc, rest⟩

theorem addr_add0 (g k : Nat) : (⟨g, 0, none⟩ : Addr).add k = ⟨g, k, none⟩ := by unfold Addr.add; split <;> simp_all

theorem row_of_owns {w : World} {base : Nat} {e : TypeId} {v : Value} {K : Nat} {xs : Nat → Value} (h : w.ownsRow base e 1 v K ((List.range K).map xs)) :
    ∃ a cp, v = .slice a K cp ∧ RowAt w a K cp xs ∧ (∀ g, a = some ⟨g, 0, none⟩ → v.ownBlock = some g) := by
  have hcs := h.cells (g := (v.ownBlock).getD 0)
  rcases h.2 with ⟨rfl, rfl⟩ | ⟨g, cap, cur, rfl, hb, hc, hcap, hm, rest⟩
  · exact ⟨none, 0, rfl, ⟨by omega, fun k hk => by omega⟩, fun g hg => by cases hg⟩
  · refine ⟨some ⟨g, 0, none⟩, cap, rfl, ⟨by unfold maxLen at hm; omega, fun k hk => ⟨g, rfl, (Array.getElem?_eq_some_iff.1 hc).1, ?_⟩⟩, fun g' hg' => by injection hg' with hg'; injection hg' with e1 _ _; subst e1; rfl⟩
    have := hcs rfl k (xs k) (by simp [hk])
    rw [← addr_add0]
    exact this

/-- The chunks cv (their first items fv): K of them, in blocks of the call's own; from item n on all items are zero. -/
structure Hold (W w : World) (B : Nat → Nat) (K n : Nat) (cv fv : Value) : Prop where
  below : Below W.heap.size W w
  crow : w.ownsRow W.heap.size 52 1 cv K ((List.range K).map (chunkV B))
  frow : w.ownsRow W.heap.size 54 1 fv K ((List.range K).map (firstV B))
  blk : ∀ k, k < K → Blk w (B k) (4 * n - 4096 * k)
  own : ∀ k, k < K → W.heap.size ≤ B k
  inj : ∀ i k, i < K → k < K → B i = B k → i = k

theorem Hold.start (W : World) (B : Nat → Nat) : Hold W W B 0 0 (.slice none 0 0) (.slice none 0 0) :=
  ⟨Below.refl _ _, World.ownsRow_nil _ _ _ _, World.ownsRow_nil _ _ _ _, fun k hk => by omega, fun k hk => by omega, fun i k hi => by omega⟩

theorem Hold.cne {W w : World} {B : Nat → Nat} {K n : Nat} {cv fv : Value} (h : Hold W w B K n cv fv) {g : Nat} (hg : cv.ownBlock = some g) (k : Nat) (hk : k < K) : g ≠ B k := by
  rintro rfl
  obtain ⟨cur, h1⟩ := owns_type h.crow hg
  obtain ⟨C, h2, _⟩ := h.blk k hk
  rw [h1] at h2
  simp at h2

theorem Hold.fne {W w : World} {B : Nat → Nat} {K n : Nat} {cv fv : Value} (h : Hold W w B K n cv fv) {g : Nat} (hg : fv.ownBlock = some g) (k : Nat) (hk : k < K) : g ≠ B k := by
  rintro rfl
  obtain ⟨cur, h1⟩ := owns_type h.frow hg
  obtain ⟨C, h2, _⟩ := h.blk k hk
  rw [h1] at h2
  simp at h2

/-- Nothing but the chunks' items is written. -/
theorem Hold.turn {W w w' : World} {B : Nat → Nat} {K n n' : Nat} {cv fv : Value} (h : Hold W w B K n cv fv) (h1 : w'.os = w.os) (h2 : w'.tape = w.tape) (h3 : w'.output = w.output) (hs : w.heap.size ≤ w'.heap.size)
    (ho : ∀ i, i < w.heap.size → (∀ k, k < K → i ≠ B k) → w'.heap[i]? = w.heap[i]?) (hb : ∀ k, k < K → Blk w' (B k) (4 * n' - 4096 * k)) : Hold W w' B K n' cv fv := by
  refine ⟨⟨h1.trans h.below.os, h2.trans h.below.tape, h3.trans h.below.output, Nat.le_trans h.below.size hs, fun i hi => ?_⟩, owns_same h.crow fun g hg => ?_, owns_same h.frow fun g hg => ?_, hb, h.own, h.inj⟩
  · exact (ho i (Nat.lt_of_lt_of_le hi h.below.size) (fun k hk e => by have := h.own k hk; omega)).trans (h.below.block i hi)
  · exact ho g (h.crow.lt g hg).2 (h.cne hg)
  · exact ho g (h.frow.lt g hg).2 (h.fne hg)

theorem Hold.later {W w w' : World} {B : Nat → Nat} {K n : Nat} {cv fv : Value} (h : Hold W w B K n cv fv) (hb : Below w.heap.size w w') : Hold W w' B K n cv fv :=
  h.turn hb.os hb.tape hb.output hb.size (fun i hi _ => hb.block i hi) (fun k hk => (h.blk k hk).same (hb.block _ (h.blk k hk).lt))

theorem Hold.reset {W w w' : World} {B : Nat → Nat} {K n : Nat} {cv fv : Value} {o : Obj} {a : Option Addr} {cp : Nat} (h : Hold W w B K n cv fv) (hr : RstPost (w.alloc o) w' w.heap.size B K a cp) : Hold W w' B K 0 cv fv := by
  refine h.turn hr.os hr.tape hr.output ?_ (fun i hi hn => ?_) (fun k hk => (hr.zero k hk).mono (by omega))
  · rw [hr.size]; simp
  · rw [hr.other i (by omega) hn]; exact Below.heap_alloc _ _ _ hi

/-- B, and b at K. -/
def ext (B : Nat → Nat) (K b : Nat) (k : Nat) : Nat := if k < K then B k else b
theorem ext_lt (B : Nat → Nat) (K b k : Nat) (h : k < K) : ext B K b k = B k := if_pos h
theorem ext_at (B : Nat → Nat) (K b : Nat) : ext B K b K = b := if_neg (Nat.lt_irrefl _)

theorem map_ext (f : Nat → Nat → Value) (F : (Nat → Nat) → Nat → Value) (hF : ∀ B k, F B k = f (B k) k) (B : Nat → Nat) (K b : Nat) :
    (List.range (K + 1)).map (F (ext B K b)) = (List.range K).map (F B) ++ [f b K] := by
  rw [List.range_succ, List.map_append]
  congr 1
  · apply List.map_congr_left
    intro k hk
    rw [hF, hF, ext_lt B K b k (by simpa using hk)]
  · simp [hF, ext_at]

theorem Hold.grow {W wr w3 w5 : World} {B : Nat → Nat} {K : Nat} {cv fv cv' fv' : Value} (h : Hold W wr B K 0 cv fv)
    (h3o : w3.ownsRow W.heap.size 52 1 cv' (K + 1) ((List.range K).map (chunkV B) ++ [.slice (some ⟨wr.heap.size, 0, none⟩) 1024 1024]))
    (h3g : ((wr.alloc (.cells zeros 57)).alloc (.cells #[.slice (some ⟨wr.heap.size, 0, none⟩) 1024 1024] 52)).grownBy w3 cv.ownBlock)
    (h5o : w5.ownsRow W.heap.size 54 1 fv' (K + 1) ((List.range K).map (firstV B) ++ [.pointer (some ⟨wr.heap.size, 0, none⟩)]))
    (h5g : (w3.alloc (.cells #[.pointer (some ⟨wr.heap.size, 0, none⟩)] 54)).grownBy w5 fv.ownBlock) :
    Hold W w5 (ext B K wr.heap.size) (K + 1) 0 cv' fv' := by
  have s3 : wr.heap.size + 2 ≤ w3.heap.size := by have := h3g.size; simp at this; omega
  have s5 : w3.heap.size + 1 ≤ w5.heap.size := by have := h5g.size; simp at this; omega
  have a3 : ∀ i, i < wr.heap.size → some i ≠ cv.ownBlock → w3.heap[i]? = wr.heap[i]? := fun i hi hn => by
    rw [h3g.block i (by simp; omega) hn, Below.heap_alloc _ _ _ (by simp; omega), Below.heap_alloc _ _ _ hi]
  have a5 : ∀ i, i < w3.heap.size → some i ≠ fv.ownBlock → w5.heap[i]? = w3.heap[i]? := fun i hi hn => by
    rw [h5g.block i (by simp; omega) hn, Below.heap_alloc _ _ _ hi]
  have n3 : w3.heap[wr.heap.size]? = some (.cells zeros 57 (0, 0)) := by
    rw [h3g.block _ (by simp; omega) (fun e => by have := h.crow.lt _ e.symm; omega), Below.heap_alloc _ _ _ (by simp)]
    exact heap_alloc_new _ _
  have n5 : w5.heap[wr.heap.size]? = some (.cells zeros 57 (0, 0)) := by
    rw [a5 _ (by omega) (fun e => by have := h.frow.lt _ e.symm; omega)]
    exact n3
  have hbw := h.below.size
  refine ⟨⟨h5g.os.trans (h3g.os.trans h.below.os), h5g.tape.trans (h3g.tape.trans h.below.tape), h5g.output.trans (h3g.output.trans h.below.output), by omega, fun i hi => ?_⟩, ?_, ?_, fun k hk => ?_, fun k hk => ?_, fun i k hi hk e => ?_⟩
  · rw [a5 i (by omega) (fun e => by have := h.frow.lt _ e.symm; omega), a3 i (by omega) (fun e => by have := h.crow.lt _ e.symm; omega)]
    exact h.below.block i hi
  · rw [map_ext (fun b _ => .slice (some ⟨b, 0, none⟩) 1024 1024) chunkV (fun _ _ => rfl)]
    refine owns_same h3o fun g hg => a5 g (h3o.lt g hg).2 (fun e => ?_)
    obtain ⟨cur, h1⟩ := owns_type h3o hg
    obtain ⟨cur2, h2⟩ := owns_type h.frow e.symm
    have hl := (h.frow.lt g e.symm).2
    rw [a3 g hl (fun e2 => by
      obtain ⟨cur3, h3⟩ := owns_type h.crow e2.symm
      rw [h3] at h2
      simp at h2), h2] at h1
    simp at h1
  · rw [map_ext (fun b _ => .pointer (some ⟨b, 0, none⟩)) firstV (fun _ _ => rfl)]
    exact h5o
  · by_cases e : k < K
    · rw [ext_lt _ _ _ _ e]
      refine ((h.blk k e).mono (by omega)).same ?_
      have hl := (h.blk k e).lt
      rw [a5 _ (by omega) (fun e2 => h.fne e2.symm k e rfl), a3 _ hl (fun e2 => h.cne e2.symm k e rfl)]
    · have : k = K := by omega
      subst this
      rw [ext_at]
      exact ⟨zeros, n5, zeros_size, fun c _ hc => zeros_get c hc⟩
  · by_cases e : k < K
    · rw [ext_lt _ _ _ _ e]; exact h.own k e
    · have : k = K := by omega
      subst this
      rw [ext_at]; exact hbw
  · by_cases ei : i < K
    · by_cases ek : k < K
      · rw [ext_lt _ _ _ _ ei, ext_lt _ _ _ _ ek] at e
        exact h.inj i k ei ek e
      · have : k = K := by omega
        subst this
        rw [ext_lt _ _ _ _ ei, ext_at] at e
        have := (h.blk i ei).lt
        omega
    · have : i = K := by omega
      subst this
      by_cases ek : k < i
      · rw [ext_lt _ _ _ _ ek, ext_at] at e
        have := (h.blk k ek).lt
        omega
      · omega
end Go.Proofs.Qxb6615613aMods
