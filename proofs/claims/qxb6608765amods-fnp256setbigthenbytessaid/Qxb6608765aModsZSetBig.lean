import Derived.Test.Qxb6608765aModsSetBig
namespace Go.Proofs.Qxb6608765aMods
open Go.RowKit

def accB (neg : Bool) (L : Nat) : Bool := decide (L ≤ 4) && !(neg && decide (0 < L))

theorem accB_iff (neg : Bool) (L : Nat) : accB neg L = true ↔ L ≤ 4 ∧ ¬ (neg = true ∧ 0 < L) := by
  unfold accB
  cases neg <;> simp
theorem cells4 {w : World} {b : Nat} {p q r s : Value} {t : TypeId} (h : w.heap[b]? = some (.cells #[p, q, r, s] t (0, 0))) :
    w.cell? ⟨b, 0, none⟩ = some p ∧ w.cell? ⟨b, 1, none⟩ = some q ∧ w.cell? ⟨b, 2, none⟩ = some r ∧ w.cell? ⟨b, 3, none⟩ = some s :=
  ⟨cell_of_row _ _ _ _ _ _ h, cell_of_row _ _ _ _ _ _ h, cell_of_row _ _ _ _ _ _ h, cell_of_row _ _ _ _ _ _ h⟩

theorem wpList_store_row0 {P : Program} {ops : Array Oper} {rest : List Oper} {o : Oper} {a : Act} {w : World} {Q : Exit → Act → World → Prop} (hgd : o.guard = none) (hdst : o.dst = none) (ty : TypeId) (x y : Operand) (ho : o.op = .store ty x y)
    (g : Nat) (cells : Array Value) (hx : a.eval x = .pointer (some ⟨g, 0, none⟩)) (hy : a.eval y = .agg cells)
    (t : TypeId) (old : Array Value) (hg : w.heap[g]? = some (.cells old t (0, 0))) (hi : (P.info? ty).map (·.size) = some cells.size)
    (hold : old.size = cells.size) (h1 : cells.all (·.oneCell') = true)
    (h : wpList P ops Q rest a (w.setRow g cells)) : wpList P ops Q (o :: rest) a w := by
  refine wpList_store_row hgd ty x y ho g cells hx hy t old hg hi hold h1 ?_
  rw [hdst]; exact h
theorem four_one (a b c d : Int) : (#[.int .u64 a, .int .u64 b, .int .u64 c, .int .u64 d] : Array Value).all (·.oneCell') = true := by simp [Value.oneCell']
theorem negT {L : Nat} : (decide (0 < L) = true ∧ 0 < L) ↔ (true = true ∧ 0 < L) := by simp
theorem not_acc {neg : Bool} {L : Nat} (h : ¬ (L ≤ 4 ∧ ¬ (neg = true ∧ 0 < L))) : (neg = true ∧ 0 < L) ∨ 4 < L := by
  by_cases a : L ≤ 4
  · exact Or.inl (Classical.byContradiction fun b => h ⟨a, b⟩)
  · exact Or.inr (by omega)
theorem not_accB {neg : Bool} {L : Nat} (h : ¬ (L ≤ 4 ∧ ¬ (neg = true ∧ 0 < L))) : accB neg L = false := by
  cases e : accB neg L with
  | false => rfl
  | true => exact absurd ((accB_iff neg L).1 e) h
theorem IntAt.alloc {f : Nat → Int} {neg : Bool} {L X : Nat} {w : World} (h : IntAt f neg L X w) (o : Obj) : IntAt f neg L X (w.alloc o) := by
  obtain ⟨a, cap, h0, hc⟩ := h.cells
  refine ⟨⟨a, cap, heap_old_at (Array.getElem?_eq_some_iff.1 h0).1 h0, fun hl => ?_⟩, h.past, h.top⟩
  obtain ⟨G, e, hG, hcell⟩ := hc hl
  exact ⟨G, e, hG, fun i hi => (World.cell?_alloc_lt _ _ _ (World.block_lt_of_cell? w ⟨G, i, none⟩ (hcell i hi))).trans (hcell i hi)⟩
theorem results_two {P : Program} {fn : Func} {p u : Tmp} {ty : TypeId} (h : fn.results = #[.cell p ty, .tmp u]) (tmps : Array Value) (w : World) (x : Value) (cs : Array Value) (d : TypeDesc) (_n : Unit) (g : Nat) (t : TypeId) (fr : Nat × Nat) (_m : Unit)
    (hp : tmps.getD p undef = .pointer (some ⟨g, 0, none⟩)) (hg : w.heap[g]? = some (.cells cs t fr)) (hu : P.underlying ty = some d) (hd : (match d with | .struct _ | .array _ _ => true | _ => false) = true) (hi : (P.info? ty).map (·.size) = some cs.size)
    (hx : tmps.getD u undef = x) : (results fn tmps).run P w = .ok (.tuple #[.agg cs, x]) w := by
  rw [results_cell_tmp h, hp, hx]
  simp [asAddr, run_loadVar_row w g t ty cs fr d hg hu hd hi]
theorem below_setRow {B g : Nat} {a w : World} (h : Below B a w) (hg : B ≤ g) (cs : Array Value) : Below B a (w.setRow g cs) :=
  h.trans ⟨rfl, rfl, rfl, by simp, fun k hk => setRow_other _ _ _ _ (by omega)⟩

set_option maxHeartbeats 800000 in
theorem zsetBig_any (f z : Nat → Int) (neg : Bool) (a : Option Addr) (n cp : Nat) (w : World) (hf : BytesAt f w a n cp) :
    Calls Trym.prog 12 #[.agg #[.int .u64 (z 0), .int .u64 (z 1), .int .u64 (z 2), .int .u64 (z 3)], .bool neg, .slice a n cp] w fun e w' => ∃ L, L ≤ (n + 7) / 8 ∧ (∀ i, L ≤ i → wd f i = 0) ∧ (∀ k, L = k + 1 → wd f k ≠ 0) ∧ Below w.heap.size w w' ∧
      ((accB neg L = true ∧ e = .returned (.tuple #[.agg #[.int .u64 (wd f 0), .int .u64 (wd f 1), .int .u64 (wd f 2), .int .u64 (wd f 3)], .bool true])) ∨ (accB neg L = false ∧ e = .returned (.tuple #[.agg #[.int .u64 (z 0), .int .u64 (z 1), .int .u64 (z 2), .int .u64 (z 3)], .bool false]))) := by
  have HF : Hid _ := hf; clear hf
  go_enter Trym.func12, Trym.ntmps12
  go_wp2_with fail
  refine (intSetBytes_any f (w.heap.size + 1 + 1) a n cp _ (by simp) (heap_new_at (by simp)) ⟨HF.out.isb, HF.out.past, HF.out.short, fun h => ?_⟩).mono ?_
  · obtain ⟨b, off, e, hb, hc, hcell⟩ := HF.out.cells h
    exact ⟨b, off, e, by simp; omega, hc, fun q hq => by
      rw [World.cell?_alloc_lt _ _ _ (by simp; omega), World.cell?_alloc_lt _ _ _ (by simp; omega), World.cell?_alloc_lt _ _ _ hb]
      exact hcell q hq⟩
  rintro e w1 ⟨rfl, L, hL, hA, hB⟩
  have r0 : w1.heap[w.heap.size]? = some (.cells #[.int .u64 (z 0), .int .u64 (z 1), .int .u64 (z 2), .int .u64 (z 3)] 23 (0, 0)) :=
    (hB.block _ (by omega)).trans (heap_old_at (by simp; omega) (heap_old_at (by simp) (heap_new_at rfl)))
  have r1 : w1.heap[w.heap.size + 1]? = some (.cells #[.int .u64 0, .int .u64 0, .int .u64 0, .int .u64 0] 23 (0, 0)) :=
    (hB.block _ (by omega)).trans (heap_old_at (by simp) (heap_new_at (by simp)))
  have hB1 : Below w.heap.size w w1 := ((((Below.refl _ _).alloc (Nat.le_refl _) _).alloc (by simp) _).alloc (by simp; omega) _).trans (hB.mono (by omega))
  have hs1 : w.heap.size + 1 + 1 < w1.heap.size := by have := hB.size; simp at this; omega
  have HA : Hid _ := hA; have HB1 : Hid _ := hB1; have R0 : Hid _ := r0; have R1 : Hid _ := r1
  clear hA hB hB1 r0 r1
  have hshort := HF.out.short
  have hL6 : L ≤ 1000000 := by omega
  obtain ⟨c0, c1, c2, c3⟩ := cells4 R0.out
  -- the sign
  cases neg
  · have HA2 : Hid (IntAt f false L (w.heap.size + 1 + 1) w1) := HA.out
    clear HA
    go_wp2_with fail
    have hA3 := HA2.out.alloc (.cells #[.int .u64 (z 0), .int .u64 (z 1), .int .u64 (z 2), .int .u64 (z 3)] 38)
    have HA3 : Hid _ := hA3; clear hA3
    by_cases hacc : L ≤ 4 ∧ ¬ (false = true ∧ 0 < L)
    · refine (setBig_yes f z HF.out.isb false L _ w1.heap.size _ HA3.out hacc.1 hacc.2 (by simp) (by omega) (heap_new_at rfl)).mono ?_
      rintro e w3 ⟨rfl, hB3, hR3⟩
      have q1 : w3.heap[w.heap.size + 1]? = _ := (hB3.block _ (by omega)).trans (heap_old_at (by omega) R1.out)
      have hB4 : Below w.heap.size w w3 := (HB1.out.alloc (by omega) _).trans (hB3.mono (by omega))
      clear c0 c1 c2 c3
      obtain ⟨c0, c1, c2, c3⟩ := cells4 hR3
      have Q1 : Hid _ := q1; have HB4 : Hid _ := hB4
      clear hB3 hR3 q1 hB4
      go_wp2_with (first
        | ((with_reducible show wpList _ _ _ (_ :: _) _ _); refine wpList_store_row0 rfl rfl 23 (.tmp 6) (.tmp 21) rfl (w.heap.size + 1) #[.int .u64 (wd f 0), .int .u64 (wd f 1), .int .u64 (wd f 2), .int .u64 (wd f 3)] (by rfl) (by rfl) 23 _ Q1.out (by kernel_rfl) rfl (four_one _ _ _ _) ?_))
      refine bodyPost_ret (v := .tuple #[.agg #[.int .u64 (wd f 0), .int .u64 (wd f 1), .int .u64 (wd f 2), .int .u64 (wd f 3)], .bool true]) (results_two Trym.results12 _ _ _ _ _ () (w.heap.size + 1) 23 (0, 0) () rfl (setRow_heap _ _ _ _ _ _ Q1.out) Trym.underlying23 rfl (by kernel_rfl) rfl) rfl ⟨L, hL, HA3.out.past, HA3.out.top, below_setRow HB4.out (by omega) _, Or.inl ⟨(accB_iff false L).2 ⟨hacc.1, fun h => hacc.2 (h)⟩, rfl⟩⟩
    · refine (setBig_no f HF.out.isb false L _ w1.heap.size _ HA3.out hL6 (not_acc hacc)).mono ?_
      rintro e w3 ⟨rfl, rfl⟩
      have q1 : (w1.alloc (.cells #[.int .u64 (z 0), .int .u64 (z 1), .int .u64 (z 2), .int .u64 (z 3)] 38)).heap[w.heap.size + 1]? = _ := heap_old_at (by omega) R1.out
      have hB4 : Below w.heap.size w (w1.alloc (.cells #[.int .u64 (z 0), .int .u64 (z 1), .int .u64 (z 2), .int .u64 (z 3)] 38)) := HB1.out.alloc (by omega) _
      have Q1 : Hid _ := q1; have HB4 : Hid _ := hB4
      clear q1 hB4 c0 c1 c2 c3
      go_wp2_with (first
        | ((with_reducible show wpList _ _ _ (_ :: _) _ _); refine wpList_store_row0 rfl rfl 23 (.tmp 6) (.tmp 21) rfl (w.heap.size + 1) #[.int .u64 (z 0), .int .u64 (z 1), .int .u64 (z 2), .int .u64 (z 3)] (by rfl) (by rfl) 23 _ Q1.out (by kernel_rfl) rfl (four_one _ _ _ _) ?_))
      refine bodyPost_ret (v := .tuple #[.agg #[.int .u64 (z 0), .int .u64 (z 1), .int .u64 (z 2), .int .u64 (z 3)], .bool false]) (results_two Trym.results12 _ _ _ _ _ () (w.heap.size + 1) 23 (0, 0) () rfl (setRow_heap _ _ _ _ _ _ Q1.out) Trym.underlying23 rfl (by kernel_rfl) rfl) rfl ⟨L, hL, HA3.out.past, HA3.out.top, below_setRow HB4.out (by omega) _, Or.inr ⟨not_accB (fun h => hacc ⟨h.1, fun k => h.2 (k)⟩), rfl⟩⟩
  · go_wp2_with fail
    refine (neg_any f L _ w1 HA.out hL6).mono ?_
    rintro e w2 ⟨rfl, hA2, hB2⟩
    have HA2 : Hid (IntAt f (decide (0 < L)) L (w.heap.size + 1 + 1) w2) := hA2
    replace R0 : Hid (w2.heap[w.heap.size]? = _) := (hB2.block _ (by omega)).trans R0.out
    replace R1 : Hid (w2.heap[w.heap.size + 1]? = _) := (hB2.block _ (by omega)).trans R1.out
    replace HB1 : Hid (Below w.heap.size w w2) := HB1.out.trans (hB2.mono (by omega))
    have hs2 : w.heap.size + 1 + 1 < w2.heap.size := by have := hB2.size; omega
    clear HA hA2 hB2 hs1 c0 c1 c2 c3
    obtain ⟨c0, c1, c2, c3⟩ := cells4 R0.out
    go_wp2_with fail
    have hA3 := HA2.out.alloc (.cells #[.int .u64 (z 0), .int .u64 (z 1), .int .u64 (z 2), .int .u64 (z 3)] 38)
    have HA3 : Hid _ := hA3; clear hA3
    by_cases hacc : L ≤ 4 ∧ ¬ ((decide (0 < L)) = true ∧ 0 < L)
    · refine (setBig_yes f z HF.out.isb (decide (0 < L)) L _ w2.heap.size _ HA3.out hacc.1 hacc.2 (by simp) (by omega) (heap_new_at rfl)).mono ?_
      rintro e w3 ⟨rfl, hB3, hR3⟩
      have q1 : w3.heap[w.heap.size + 1]? = _ := (hB3.block _ (by omega)).trans (heap_old_at (by omega) R1.out)
      have hB4 : Below w.heap.size w w3 := (HB1.out.alloc (by omega) _).trans (hB3.mono (by omega))
      clear c0 c1 c2 c3
      obtain ⟨c0, c1, c2, c3⟩ := cells4 hR3
      have Q1 : Hid _ := q1; have HB4 : Hid _ := hB4
      clear hB3 hR3 q1 hB4
      go_wp2_with (first
        | ((with_reducible show wpList _ _ _ (_ :: _) _ _); refine wpList_store_row0 rfl rfl 23 (.tmp 6) (.tmp 21) rfl (w.heap.size + 1) #[.int .u64 (wd f 0), .int .u64 (wd f 1), .int .u64 (wd f 2), .int .u64 (wd f 3)] (by rfl) (by rfl) 23 _ Q1.out (by kernel_rfl) rfl (four_one _ _ _ _) ?_))
      refine bodyPost_ret (v := .tuple #[.agg #[.int .u64 (wd f 0), .int .u64 (wd f 1), .int .u64 (wd f 2), .int .u64 (wd f 3)], .bool true]) (results_two Trym.results12 _ _ _ _ _ () (w.heap.size + 1) 23 (0, 0) () rfl (setRow_heap _ _ _ _ _ _ Q1.out) Trym.underlying23 rfl (by kernel_rfl) rfl) rfl ⟨L, hL, HA3.out.past, HA3.out.top, below_setRow HB4.out (by omega) _, Or.inl ⟨(accB_iff true L).2 ⟨hacc.1, fun h => hacc.2 (negT.2 h)⟩, rfl⟩⟩
    · refine (setBig_no f HF.out.isb (decide (0 < L)) L _ w2.heap.size _ HA3.out hL6 (not_acc hacc)).mono ?_
      rintro e w3 ⟨rfl, rfl⟩
      have q1 : (w2.alloc (.cells #[.int .u64 (z 0), .int .u64 (z 1), .int .u64 (z 2), .int .u64 (z 3)] 38)).heap[w.heap.size + 1]? = _ := heap_old_at (by omega) R1.out
      have hB4 : Below w.heap.size w (w2.alloc (.cells #[.int .u64 (z 0), .int .u64 (z 1), .int .u64 (z 2), .int .u64 (z 3)] 38)) := HB1.out.alloc (by omega) _
      have Q1 : Hid _ := q1; have HB4 : Hid _ := hB4
      clear q1 hB4 c0 c1 c2 c3
      go_wp2_with (first
        | ((with_reducible show wpList _ _ _ (_ :: _) _ _); refine wpList_store_row0 rfl rfl 23 (.tmp 6) (.tmp 21) rfl (w.heap.size + 1) #[.int .u64 (z 0), .int .u64 (z 1), .int .u64 (z 2), .int .u64 (z 3)] (by rfl) (by rfl) 23 _ Q1.out (by kernel_rfl) rfl (four_one _ _ _ _) ?_))
      refine bodyPost_ret (v := .tuple #[.agg #[.int .u64 (z 0), .int .u64 (z 1), .int .u64 (z 2), .int .u64 (z 3)], .bool false]) (results_two Trym.results12 _ _ _ _ _ () (w.heap.size + 1) 23 (0, 0) () rfl (setRow_heap _ _ _ _ _ _ Q1.out) Trym.underlying23 rfl (by kernel_rfl) rfl) rfl ⟨L, hL, HA3.out.past, HA3.out.top, below_setRow HB4.out (by omega) _, Or.inr ⟨not_accB (fun h => hacc ⟨h.1, fun k => h.2 (negT.1 k)⟩), rfl⟩⟩
end Go.Proofs.Qxb6608765aMods
