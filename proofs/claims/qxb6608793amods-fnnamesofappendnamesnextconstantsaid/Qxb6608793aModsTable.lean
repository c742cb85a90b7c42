import Derived.Test.Qxb6608793aModsGuard
import Derived.Laws.CopyOwn
import Derived.Deep.MidRow
namespace Go.Proofs.Qxb6608793aMods
open Go.RowKit

/-- 'make([]T, n, m)', n and m variables, T of one cell. -/
theorem wpList_make_two {P : Program} (w : World) {ops : Array Oper} {rest : List Oper} {o : Oper} {a : Act} {Q : Exit → Act → World → Prop}
    (hg : o.guard = none) (l c : Operand) (t : TypeId) (hop : o.op = Op.makeSlice t l c)
    (e : TypeId) (z : Value) (B : Nat) (ht : P.underlying t = some (.slice e)) (hi : (P.info? e).map (fun i => (i.zero, i.size, i.bytes)) = some (some z, 1, B)) (hz1 : z.cells = #[z])
    (kl kc : IntKind) (L C : Int) (n m : Nat) (hl : a.eval l = .int kl L) (hc : a.eval c = .int kc C) (hL : L = (n : Int)) (hC : C = (m : Int)) (hnm : n ≤ m) (hbytes : B * m ≤ 281474976710656) (h63 : m ≤ 9223372036854775807)
    (hK : wpList P ops Q rest (a.put o.dst (.slice (some ⟨w.heap.size, 0, none⟩) n m)) (w.alloc (.cells (madeCells #[z] m) e))) :
    wpList P ops Q (o :: rest) a w := by
  subst hL hC
  obtain ⟨i, hi2, hzz⟩ := Option.map_eq_some_iff.1 hi
  simp only [Prod.mk.injEq] at hzz
  obtain ⟨hz, hs, rfl⟩ := hzz
  refine wpList_plain hg fun K hK' => ?_
  have hb : ((i.bytes * m : Nat) : Int) ≤ 281474976710656 := by omega
  rw [Int.natCast_mul] at hb
  have hrun := run_make (P := P) w t e i z ht hi2 hz kl kc n m (by omega) (by omega) hb (by omega)
  simp only [Int.toNat_natCast, hs, hz1, Nat.mul_one] at hrun
  unfold Oper.wp
  simp [execOp, hop, hl, hc, hrun, Result.andThen]
  exact hK' _ _ hK

theorem heap_new_at {w : World} {o : Obj} {n : Nat} (h : w.heap.size = n) : (w.alloc o).heap[n]? = some o := by
  subst h; exact heap_alloc_new w o
theorem heap_old_at {w : World} {o x : Obj} {n : Nat} (h : n < w.heap.size) (hx : w.heap[n]? = some x) : (w.alloc o).heap[n]? = some x :=
  (Below.heap_alloc w o n h).trans hx

/-- The strings as a list of values. -/
def sl (ss : Nat → ByteArray) (n : Nat) : List Value := (List.range n).map fun q => .string (ss q)
theorem sl_len (ss : Nat → ByteArray) (n : Nat) : (sl ss n).length = n := by simp [sl]
theorem sl_get (ss : Nat → ByteArray) (n q : Nat) (h : q < n) : (sl ss n)[q]? = some (.string (ss q)) := by simp [sl, h]
theorem sl_one (ss : Nat → ByteArray) (n : Nat) : ∀ v ∈ sl ss n, v.oneCell' = true := by
  intro v hv
  obtain ⟨q, _, rfl⟩ := List.mem_map.1 hv
  rfl
theorem sl_snoc (ss : Nat → ByteArray) (n : Nat) : sl ss n ++ [.string (ss n)] = sl ss (n + 1) := by simp [sl, List.range_succ]
theorem splice_all {α : Type} (L cs : List α) (h : cs.length = L.length) : splice L 0 cs = cs := by simp [splice, h]

theorem namesCopy {ss : Nat → ByteArray} {a : Option Addr} {n cp : Nat} {w w2 : World} {g : Nat} (hf : NamesAt ss w a n cp) (hr : w2.heap[g]? = some (.cells (sl ss n).toArray 9 (0, 0))) : NamesAt ss w2 (some ⟨g, 0, none⟩) n n :=
  ⟨hf.len, hf.sizes, fun _ => ⟨g, 0, rfl, (Array.getElem?_eq_some_iff.1 hr).1, Nat.le_refl _, fun q hq => by
    rw [cell_of_row _ _ _ _ _ _ hr, Nat.zero_add]
    simpa using sl_get ss n q hq⟩⟩
theorem namesSrc {ss : Nat → ByteArray} {ad : Addr} {n cp : Nat} {w : World} {o : Obj} (hf : NamesAt ss w (some ad) n cp) : ∀ j v, (sl ss n)[j]? = some v → (w.alloc o).cell? (ad.add j) = some v := by
  intro j v hv
  have hj : j < n := by have := (List.getElem?_eq_some_iff.1 hv).1; rwa [sl_len] at this
  obtain ⟨b, off, e, hbw, _, hc⟩ := hf.cells (by omega)
  injection e with e
  subst e
  rw [Addr.add_mid, World.cell?_alloc_lt _ _ _ hbw, hc j hj, ← sl_get ss n j hj, hv]
theorem NamesAt.later {ss : Nat → ByteArray} {w w1 : World} {a : Option Addr} {n cp : Nat} (h : NamesAt ss w a n cp) (hb : Below w.heap.size w w1) : NamesAt ss w1 a n cp :=
  ⟨h.len, h.sizes, fun hn => by
    obtain ⟨b, off, e, hbw, hc, hcell⟩ := h.cells hn
    exact ⟨b, off, e, Nat.lt_of_lt_of_le hbw hb.size, hc, fun q hq => (hb.cell (p := ⟨b, off + q, none⟩) hbw).trans (hcell q hq)⟩⟩

/-- What is owned reads as a slice of strings. -/
theorem namesOwn {ss : Nat → ByteArray} {w : World} {base g n cap : Nat} (h : w.ownsRow base 9 1 (.slice (some ⟨g, 0, none⟩) n cap) n (sl ss n)) (hn : n ≤ 9223372036854775807) (hs : ∀ i, i < n → (ss i).size ≤ 9223372036854775807) : NamesAt ss w (some ⟨g, 0, none⟩) n cap := by
  refine ⟨hn, hs, fun h0 => ⟨g, 0, rfl, (h.lt g rfl).2, ?_, fun q hq => ?_⟩⟩
  · obtain ⟨_, h | ⟨g', cap', cur, e, _, _, hc, _⟩⟩ := h
    · cases h.1
    · injection e with _ _ e; omega
  · rw [Nat.zero_add, h.cellAt q (by omega), sl_get ss n q hq]

theorem ownMade (W : World) (m : Nat) (z : Value) (hm : m ≤ 9223372036854775807) : (W.alloc (.cells (madeCells #[z] m) 9)).ownsRow W.heap.size 9 1 (.slice (some ⟨W.heap.size, 0, none⟩) 0 m) 0 [] :=
  ⟨by simp, Or.inr ⟨W.heap.size, m, madeCells #[z] m, rfl, Nat.le_refl _, heap_new_at rfl, by omega, by unfold maxLen; omega, by rw [size_madeCells, Nat.mul_one], by simp⟩⟩

theorem madeCells_get (z : Value) (m i : Nat) (h : i < m) : (madeCells #[z] m)[i]? = some z := by
  simp [madeCells, h, Nat.mod_one]

theorem newSrc (w : World) (x : ByteArray) (t : TypeId) : ∀ j u, ([.string x] : List Value)[j]? = some u → (w.alloc (.cells #[.string x] t)).cell? ((⟨w.heap.size, 0, none⟩ : Addr).add j) = some u := by
  intro j u hj
  match j, hj with
  | 0, hj =>
    simp at hj
    subst hj
    rw [Addr.add_mid]
    exact cell_of_row _ _ _ _ _ _ (heap_new_at rfl)
  | j + 1, hj => simp at hj

/-- x in front of ss. -/
def cons1 (x : ByteArray) (ss : Nat → ByteArray) : Nat → ByteArray
  | 0 => x
  | q + 1 => ss q

theorem zof_yes2 (ss : Nat → ByteArray) (a : Option Addr) (n cp : Nat) (v : Int) (k : Nat) (hv : v = (k : Int)) (w : World) (h : NamesAt ss w a n cp) (h1 : 1 ≤ k) (h2 : k < n) :
    Calls Trym.prog 9 #[.slice a n cp, .int .i64 v] w fun e w' => e = .returned (.tuple #[.string (ss k), .bool true]) ∧ w' = w := by
  subst hv; exact zof_yes ss a n cp k w h h1 h2

theorem info9 : ∃ i, Trym.prog.info? 9 = some i ∧ i.size = 1 := by
  have h : (Trym.prog.info? 9).map (·.size) = some 1 := by kernel_rfl
  obtain ⟨i, hi, hs⟩ := Option.map_eq_some_iff.1 h
  exact ⟨i, hi, hs⟩

/-- The new table while it is filled. -/
structure MInv (mm : Nat → ByteArray) (W wr : World) (cap k : Nat) : Prop where
  below : Below W.heap.size W wr
  row : ∃ C : Array Value, wr.heap[W.heap.size]? = some (.cells C 9 (0, 0)) ∧ C.size = cap ∧ ∀ i, i < k → C[i]? = some (.string (mm i))

theorem MInv.cellAt {mm : Nat → ByteArray} {W wr : World} {cap k : Nat} (h : MInv mm W wr cap k) (i : Nat) (hi : i < cap) : ∃ u, wr.cell? ⟨W.heap.size, i, none⟩ = some u ∧ wr.frozen? ⟨W.heap.size, i, none⟩ = false := by
  obtain ⟨C, hC, hs, _⟩ := h.row
  exact ⟨C[i]'(by omega), (cell_of_row _ _ _ _ _ _ hC).trans (Array.getElem?_eq_getElem (by omega)), frozen_of_row _ _ _ _ _ hC⟩
theorem MInv.lt {mm : Nat → ByteArray} {W wr : World} {cap k : Nat} (h : MInv mm W wr cap k) : W.heap.size < wr.heap.size := by
  obtain ⟨C, hC, _⟩ := h.row
  exact (Array.getElem?_eq_some_iff.1 hC).1
theorem MInv.step {mm : Nat → ByteArray} {W wr : World} {cap k : Nat} (h : MInv mm W wr cap k) (hk : k < cap) (o : Obj) : MInv mm W ((wr.setCell ⟨W.heap.size, k, none⟩ (.string (mm k))).alloc o) cap (k + 1) := by
  obtain ⟨C, hC, hs, hlo⟩ := h.row
  have hlt := h.lt
  have h1 := heap_setCell_same wr W.heap.size k C 9 (Value.string (mm k)) hC
  refine ⟨(h.below.setCell (p := ⟨W.heap.size, k, none⟩) (Nat.le_refl _) _).alloc (by simp [World.setCell]; omega) _, _, heap_old_at (by simp [World.setCell]; omega) h1, by simp [hs], fun i hi => ?_⟩
  by_cases e : k = i
  · subst e; rw [Array.getElem?_setIfInBounds_self_of_lt (by omega)]
  · rw [Array.getElem?_setIfInBounds_ne e]; exact hlo i (by omega)
theorem MInv.names {mm : Nat → ByteArray} {W wr : World} {cap k : Nat} (h : MInv mm W wr cap k) (hk : k ≤ cap) (hn : k ≤ 9223372036854775807) (hs : ∀ i, i < k → (mm i).size ≤ 9223372036854775807) : NamesAt mm wr (some ⟨W.heap.size, 0, none⟩) k cap := by
  obtain ⟨C, hC, _, hlo⟩ := h.row
  exact ⟨hn, hs, fun _ => ⟨W.heap.size, 0, rfl, h.lt, hk, fun q hq => by rw [cell_of_row _ _ _ _ _ _ hC, Nat.zero_add, hlo q hq]⟩⟩
theorem MInv.start {mm : Nat → ByteArray} (W : World) (z : Value) (m : Nat) (o : Obj) (hm : 0 < m) : MInv mm W ((W.alloc (.cells ((madeCells #[z] m).setIfInBounds 0 (.string (mm 0))) 9)).alloc o) m 1 := by
  refine ⟨((Below.refl _ _).alloc (Nat.le_refl _) _).alloc (by simp) _, _, heap_old_at (by simp) (heap_new_at rfl), by simp [size_madeCells], fun i hi => ?_⟩
  have e : i = 0 := by omega
  subst e
  rw [Array.getElem?_setIfInBounds_self_of_lt (by rw [size_madeCells]; omega)]
end Go.Proofs.Qxb6608793aMods
