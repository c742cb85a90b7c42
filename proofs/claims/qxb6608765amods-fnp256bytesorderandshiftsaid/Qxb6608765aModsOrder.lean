import Derived.Test.Qxb6608765aModsCompare
import Derived.Deep.RegionHeld3
import Derived.Deep.RegionWith
import Derived.Deep.MidRow
import Derived.Deep.CutRange
import Derived.Deep.DrawnRows
namespace Go.Proofs.Qxb6608765aMods
open Go.RowKit

theorem setRow_new {w : World} {old cells : Array Value} {t : TypeId} : (w.alloc (.cells old t)).setRow w.heap.size cells = w.alloc (.cells cells t) := by
  have : (w.heap.push (.cells old t)).modify w.heap.size (fun | .cells _ elem frozen => .cells cells elem frozen | o => o) = w.heap.push (.cells cells t) := by
    apply Array.ext
    · simp
    · intro i h1 h2
      simp only [Array.getElem_modify, Array.getElem_push]
      by_cases e : w.heap.size = i
      · subst e; simp
      · rw [if_neg e]
        have : i < w.heap.size := by simp at h2; omega
        rw [dif_pos this, dif_pos this]
  show World.setRow { w with heap := w.heap.push (.cells old t) } w.heap.size cells = { w with heap := w.heap.push (.cells cells t) }
  unfold World.setRow
  exact congrArg (fun h => { w with heap := h }) this

theorem wpList_store_new {P : Program} {ops : Array Oper} {rest : List Oper} {o : Oper} {a : Act} {w : World} {Q : Exit → Act → World → Prop} (hgd : o.guard = none) (hdst : o.dst = none) (ty : TypeId) (x y : Operand) (ho : o.op = .store ty x y)
    (g : Nat) (hgw : w.heap.size = g) (cells : Array Value) (hx : a.eval x = .pointer (some ⟨g, 0, none⟩)) (hy : a.eval y = .agg cells)
    (t : TypeId) (old : Array Value) (hi : (P.info? ty).map (·.size) = some cells.size)
    (hold : old.size = cells.size) (h1 : cells.all (·.oneCell') = true)
    (h : wpList P ops Q rest a (w.alloc (.cells cells t))) : wpList P ops Q (o :: rest) a (w.alloc (.cells old t)) := by
  subst hgw
  refine wpList_store_row hgd ty x y ho w.heap.size cells hx hy t old (heap_alloc_new w _) hi hold h1 ?_
  rw [setRow_new, hdst]; exact h


theorem cells4 {w : World} {b : Nat} {p q r s : Value} {t : TypeId} (h : w.heap[b]? = some (.cells #[p, q, r, s] t (0, 0))) :
    w.cell? ⟨b, 0, none⟩ = some p ∧ w.cell? ⟨b, 1, none⟩ = some q ∧ w.cell? ⟨b, 2, none⟩ = some r ∧ w.cell? ⟨b, 3, none⟩ = some s :=
  ⟨cell_of_row _ _ _ _ _ _ h, cell_of_row _ _ _ _ _ _ h, cell_of_row _ _ _ _ _ _ h, cell_of_row _ _ _ _ _ _ h⟩

theorem range_row {w : World} {b : Nat} {C : Array Value} {t : TypeId} {fr : Nat × Nat} (hb : w.heap[b]? = some (.cells C t fr)) : w.rangeAt b 0 C.toList := fun j v hv => by
  rw [cell_of_row w b (0 + j) C t fr hb]
  simpa using hv

/-- Under 'nothing of W has turned' the load of a whole row of W may be taken first. -/
theorem yieldsIf_row {P : Program} {ops : Array Oper} {W : World} {op : Oper} {a : Act} (hw : Region.wanted op (yielded ops a.tmps) = true) (ty : TypeId) (x : Operand) (ho : op.op = .load ty x)
    (b : Nat) (hx : a.eval x = .pointer (some ⟨b, 0, none⟩)) (C : Array Value) (t : TypeId) (fr : Nat × Nat) (hr : W.heap[b]? = some (.cells C t fr)) (d : TypeDesc)
    (hu : P.underlying ty = some d) (hd : (match d with | .struct _ | .array _ _ => true | _ => false) = true) (hi : (P.info? ty).map (·.size) = some C.size) :
    YieldsIf P ops (Below W.heap.size W) op (.agg C) a :=
  .inl ⟨hw, fun w h => by
    have hlt : b < W.heap.size := (Array.getElem?_eq_some_iff.1 hr).1
    unfold execOp
    simp only [ho, hx, Instr.loadAt, Instr.sureAddr, Sem.run_bind, Sem.run_pure, Result.andThen_ok, run_loadVar_row w b t ty C fr d ((h.block b hlt).trans hr) hu hd hi]⟩

/-- The limbs moved one byte up, as the Go text reckons them. -/
def sh (x : Nat → Int) : Nat → Int
  | 0 => IntKind.u64.wrap (x 0 * 256)
  | i + 1 => bits BinOp.or IntKind.u64 (IntKind.u64.wrap (x (i + 1) * 256)) (x i / 72057594037927936)
theorem sh_succ (x : Nat → Int) (i : Nat) (h0 : 0 ≤ x i) (h1 : x i ≤ 18446744073709551615) : sh x (i + 1) = x (i + 1) * 256 % 18446744073709551616 + x i / 72057594037927936 := by
  show bits BinOp.or IntKind.u64 (IntKind.u64.wrap (x (i + 1) * 256)) (x i / 72057594037927936) = _
  rw [IntKind.wrap_u64]
  exact bits_join .u64 64 (by decide) (fun n a b => by rw [IntKind.wrap_u64]; omega) 8 _ _ (by omega) (by omega) (by omega) (by omega) (by omega) (by omega)
theorem sh_zero (x : Nat → Int) : sh x 0 = x 0 * 256 % 18446744073709551616 := IntKind.wrap_u64 _
def srow (x : Nat → Int) (k : Nat) : Array Value := #[.int .u64 (sh x 0), .int .u64 (if 1 < k then sh x 1 else 0), .int .u64 (if 2 < k then sh x 2 else 0), .int .u64 (if 3 < k then sh x 3 else 0)]
theorem srow_set (x : Nat → Int) (j : Nat) (h : j < 3) : (srow x (j + 1)).setIfInBounds (j + 1) (.int .u64 (bits BinOp.or IntKind.u64 (IntKind.u64.wrap (x (j + 1) * 256)) (x j / 72057594037927936))) = srow x (j + 1 + 1) := by
  match j, h with
  | 0, _ => rfl
  | 1, _ => rfl
  | 2, _ => rfl
theorem sh_bd (x : Nat → Int) (hx : ∀ i, i < 4 → 0 ≤ x i ∧ x i ≤ 18446744073709551615) (i : Nat) (h : i < 4) : 0 ≤ sh x i ∧ sh x i ≤ 18446744073709551615 := by
  match i, h with
  | 0, _ => rw [sh_zero]; omega
  | i + 1, h => have := hx i (by omega); rw [sh_succ x i this.1 this.2]; omega
/-- THE SHIFT: byte p + 1 of the moved number is byte p of the old one; byte 0 is nought. -/
theorem sh_lb (x : Nat → Int) (hx : ∀ i, i < 4 → 0 ≤ x i ∧ x i ≤ 18446744073709551615) (p : Nat) (h : p < 31) : lb (sh x) (p + 1) = lb x p := by
  have e : p = 8 * (p / 8) + p % 8 := by omega
  generalize p / 8 = k at e
  have hj : p % 8 < 8 := by omega
  generalize p % 8 = j at e hj
  subst e
  have hk := hx k (by omega)
  by_cases h7 : j < 7
  · rw [Nat.add_assoc, lb_at _ _ _ (by omega), lb_at _ _ _ (by omega)]
    have e1 : ∃ c, 0 ≤ c ∧ c < 256 ∧ sh x k = x k * 256 % 18446744073709551616 + c := by
      match k, h, hk with
      | 0, _, _ => exact ⟨0, by omega, by omega, by rw [sh_zero]; omega⟩
      | i + 1, h, _ => have hi := hx i (by omega); exact ⟨x i / 72057594037927936, by omega, by omega, sh_succ x i hi.1 hi.2⟩
    obtain ⟨c, c0, c1, e1⟩ := e1
    rw [e1]
    match j, h7 with
    | 0, _ => omega
    | 1, _ => omega
    | 2, _ => omega
    | 3, _ => omega
    | 4, _ => omega
    | 5, _ => omega
    | 6, _ => omega
  · have e7 : j = 7 := by omega
    subst e7
    rw [show 8 * k + 7 + 1 = 8 * (k + 1) + 0 by omega, lb_at _ _ _ (by omega), lb_at _ _ _ (by omega), sh_succ x k hk.1 hk.2]
    omega
theorem sh_lb0 (x : Nat → Int) : lb (sh x) 0 = 0 := by
  show sh x 0 / 2 ^ (8 * 0) % 256 = 0
  rw [sh_zero]; omega
theorem srow_next (x : Nat → Int) (j : Nat) (h : j < 3) : (srow x (j + 1))[j + 1]? = some (.int .u64 0) := by
  match j, h with
  | 0, _ => rfl
  | 1, _ => rfl
  | 2, _ => rfl

theorem cmpBytes_any' (x y : Nat → Int) (X Y : List Value) (hX : brow x 32 = X.toArray) (hY : brow y 32 = Y.toArray) (w : World) :
    Calls Trym.prog 8 #[.agg X.toArray, .agg Y.toArray] w fun e w' => e = .returned (.int .i64 (cmpDown (lb x) (lb y) 32)) ∧ Below w.heap.size w w' := by
  rw [← hX, ← hY]; exact cmpBytes_any x y w

attribute [local go_sem ↓] Go.wp_at_zero Go.wp_at_succ
set_option maxHeartbeats 400000 in
theorem walk3 (x y : Nat → Int) (hx : ∀ i, i < 4 → 0 ≤ x i ∧ x i ≤ 18446744073709551615) (hy : ∀ i, i < 4 → 0 ≤ y i ∧ y i ≤ 18446744073709551615) (w : World) :
    Calls Trym.prog 3 #[.agg #[.int .u64 (x 0), .int .u64 (x 1), .int .u64 (x 2), .int .u64 (x 3)], .agg #[.int .u64 (y 0), .int .u64 (y 1), .int .u64 (y 2), .int .u64 (y 3)]] w fun e w' => e = .returned (.bool true) ∧ Below w.heap.size w w' := by
  have HX : Hid _ := hx; clear hx
  have HY : Hid _ := hy; clear hy
  go_enter Trym.func3, Trym.ntmps3
  go_wp2_with fail
  refine (zbytes_any x _).mono ?_
  rintro e w1 ⟨rfl, hb1⟩
  have ha1 : w1.heap[w.heap.size]? = some (.cells #[.int .u64 (x 0), .int .u64 (x 1), .int .u64 (x 2), .int .u64 (x 3)] 23 (0, 0)) :=
    (hb1.block w.heap.size (by simp; omega)).trans (heap_alloc2_old _ _ _)
  have ha2 : w1.heap[w.heap.size + 1]? = some (.cells #[.int .u64 (y 0), .int .u64 (y 1), .int .u64 (y 2), .int .u64 (y 3)] 23 (0, 0)) :=
    (hb1.block (w.heap.size + 1) (by simp)).trans (heap_alloc2_new _ _ _)
  have hB1 : Below w.heap.size w w1 := (((Below.refl _ _).alloc (Nat.le_refl _) _).alloc (by simp) _).trans (hb1.mono (by simp; omega))
  have hs1 : w.heap.size + 1 < w1.heap.size := by have := hb1.size; simp at this; omega
  have HB1 : Hid _ := hB1; clear hB1 hb1
  obtain ⟨c0, c1, c2, c3⟩ := cells4 ha2
  have HA1 : Hid _ := ha1; clear ha1
  have HA2 : Hid _ := ha2; clear ha2
  go_wp2_with (first
    | ((with_reducible show wpList _ _ _ (_ :: _) _ (World.alloc _ _)); refine wpList_store_new rfl rfl 24 (.tmp 5) (.tmp 12) rfl _ rfl (brow x 32) rfl rfl 24 _ (by rw [brow_size]; kernel_rfl) (by rw [brow_size]; rfl) (brow_one x _) ?_))

  refine (zbytes_any y _).mono ?_; rintro e w2 ⟨rfl, hb2⟩; have HB2 : Hid _ := hb2; clear hb2 c0 c1 c2 c3
  go_wp2_with (first
    | ((with_reducible show wpList _ _ _ (_ :: _) _ (World.alloc _ _)); refine wpList_store_new rfl rfl 24 (.tmp 6) (.tmp 14) rfl _ rfl (brow y 32) rfl rfl 24 _ (by rw [brow_size]; kernel_rfl) (by rw [brow_size]; rfl) (brow_one y _) ?_))
  have hs2 : w1.heap.size < w2.heap.size := by have := HB2.out.size; simp at this; omega
  have r1 : (w2.alloc (.cells (brow y 32) 24)).heap[w.heap.size]? = some (.cells #[.int .u64 (x 0), .int .u64 (x 1), .int .u64 (x 2), .int .u64 (x 3)] 23 (0, 0)) :=
    heap_old_at (by omega) ((HB2.out.block _ (by simp; omega)).trans (heap_old_at (by omega) HA1.out))
  have r2 : (w2.alloc (.cells (brow y 32) 24)).heap[w.heap.size + 1]? = some (.cells #[.int .u64 (y 0), .int .u64 (y 1), .int .u64 (y 2), .int .u64 (y 3)] 23 (0, 0)) :=
    heap_old_at (by omega) ((HB2.out.block _ (by simp; omega)).trans (heap_old_at (by omega) HA2.out))
  have r3 : (w2.alloc (.cells (brow y 32) 24)).heap[w1.heap.size]? = some (.cells (brow x 32) 24 (0, 0)) :=
    heap_old_at (by omega) ((HB2.out.block _ (by simp)).trans (heap_new_at rfl))
  have r4 : (w2.alloc (.cells (brow y 32) 24)).heap[w2.heap.size]? = some (.cells (brow y 32) 24 (0, 0)) := heap_new_at rfl
  have hB : Below w.heap.size w (w2.alloc (.cells (brow y 32) 24)) := ((HB1.out.alloc (by omega) _).trans (HB2.out.mono (by simp; omega))).alloc (by omega) _
  have hsz : w2.heap.size < (w2.alloc (.cells (brow y 32) 24)).heap.size := by simp
  clear HB1 HB2 HA1 HA2
  generalize w2.alloc (.cells (brow y 32) 24) = W at *
  generalize w1.heap.size = n1 at *
  generalize w2.heap.size = n2 at *
  clear w1 w2
  have HB : Hid _ := hB; clear hB
  refine wp_region_noPanic ?_
  refine wp_region_held_drew (S := Below W.heap.size W) (by kernel_rfl) (Below.refl _ _).drew (fun hHeld => ?_)
  refine wpAnyH_take (i := 0) rfl (by kernel_rfl) (by kernel_rfl) (by kernel_rfl) (fun _ _ _ h => h) (yieldsIf_row (by rfl) 24 (.tmp 5) rfl n1 rfl (brow x 32) 24 (0, 0) r3 _ Trym.underlying24 rfl (by rw [brow_size]; kernel_rfl)) hHeld ?_
  refine wpAnyH_take (i := 1) rfl (by kernel_rfl) (by kernel_rfl) (by kernel_rfl) (fun _ _ _ h => h) (yieldsIf_row (by rfl) 24 (.tmp 6) rfl n2 rfl (brow y 32) 24 (0, 0) r4 _ Trym.underlying24 rfl (by rw [brow_size]; kernel_rfl)) hHeld ?_
  refine wpAnyH_take (i := 3) rfl (by kernel_rfl) (by kernel_rfl) (by kernel_rfl) (fun _ _ _ h => h) (yieldsIf_row (by rfl) 23 (.tmp 2) rfl w.heap.size rfl _ 23 (0, 0) r1 _ Trym.underlying23 rfl (by kernel_rfl)) hHeld ?_
  refine wpAnyH_take (i := 4) rfl (by kernel_rfl) (by kernel_rfl) (by kernel_rfl) (fun _ _ _ h => h) (yieldsIf_row (by rfl) 23 (.tmp 3) rfl (w.heap.size + 1) rfl _ 23 (0, 0) r2 _ Trym.underlying23 rfl (by kernel_rfl)) hHeld ?_
  simp only [Act.put, List.setIfInBounds_toArray]
  refine wpAnyH_ready (rs := [2]) (by kernel_rfl) (by simp) ?_
  refine AllReadyH.cons rfl (fun K hK => ?_) AllReadyH.nil
  rw [if_pos (by rfl)]
  have R1 : Hid _ := r1; have R2 : Hid _ := r2; have R3 : Hid _ := r3; have R4 : Hid _ := r4
  clear r1 r2 r3 r4
  go_simp
  refine (cmpBytes_any x y _).mono ?_
  rintro e w3 ⟨rfl, hb3⟩
  dsimp only
  refine hK.out _ _ (hHeld.trans hb3) (fun hH3 => ?_)
  clear hK K
  refine wpAnyH_ready (rs := [5]) (by kernel_rfl) (by simp) ?_
  refine AllReadyH.cons rfl (fun K hK => ?_) AllReadyH.nil
  rw [if_pos (by rfl)]
  go_simp
  refine (cmpLimbs_any x y _).mono ?_
  rintro e w4 ⟨rfl, hb4⟩
  dsimp only
  refine hK.out _ _ (hH3.trans (hb4.mono hH3.size)) (fun hH4 => ?_)
  clear hK K
  refine wpAnyH_ready (rs := [6]) (by kernel_rfl) (by simp) ?_
  refine AllReadyH.cons rfl (fun K hK => ?_) AllReadyH.nil
  rw [if_pos (by rfl)]
  have hE := cmp_bytes x y HX.out HY.out
  go_simp
  refine hK.out _ _ hH4 (fun hgone => ?_)
  clear hgone
  refine wpAnyH_done (by kernel_rfl) ?_ _
  refine NoPanic.normal ?_
  clear hb3 hH3 hb4 hHeld hE hK K R2 R4 w3
  have hlt1 : n1 < W.heap.size := by omega
  have s1 : w4.heap[w.heap.size]? = some (.cells #[.int .u64 (x 0), .int .u64 (x 1), .int .u64 (x 2), .int .u64 (x 3)] 23 (0, 0)) := (hH4.block _ (by omega)).trans R1.out
  have s3 : w4.heap[n1]? = some (.cells (brow x 32) 24 (0, 0)) := (hH4.block _ (by omega)).trans R3.out
  have hB4 : Below w.heap.size w w4 := HB.out.trans (hH4.mono (by omega))
  have hz4 : n1 < w4.heap.size := by have := hH4.size; omega
  clear hH4 R1 R3 HB hsz hlt1 hs2
  have hz5 : w.heap.size < w4.heap.size := by omega
  obtain ⟨a0, a1, a2, a3⟩ := cells4 s1
  have S1 : Hid _ := s1; have S3 : Hid _ := s3; have HB4 : Hid _ := hB4
  clear s1 s3 hB4
  go_wp2
  go_loopw [8] (fun i wr => ∃ j : Nat, j ≤ 3 ∧ i = .int .i64 ((j : Int) + 1) ∧ Below w4.heap.size w4 wr ∧ wr.heap[w4.heap.size]? = some (.cells (srow x (j + 1)) 23 (0, 0))) (fun i _ => 5 - (intOf i).toNat)
  case atStart => exact ⟨0, by omega, rfl, (Below.refl _ _).alloc (Nat.le_refl _) _, heap_new_at rfl⟩
  case round =>
    obtain ⟨j, hj, rfl, hI, hR⟩ := hrel
    clear a0 a1 a2 a3
    by_cases hlt : j < 3
    · have hlt' : (j : Int) + 1 < 4 := by omega
      have hge' : (0 : Int) ≤ j := by omega
      have hlt2 : (j : Int) < 4 := by omega
      have hc1 : wr.cell? ⟨w.heap.size, j, none⟩ = some (.int .u64 (x j)) := (hI.cell hz5).trans ((cell_of_row _ _ _ _ _ _ S1.out).trans (limb_get x j (by omega)))
      have hc2 : wr.cell? ⟨w.heap.size, j + 1, none⟩ = some (.int .u64 (x (j + 1))) := (hI.cell hz5).trans ((cell_of_row _ _ _ _ _ _ S1.out).trans (limb_get x (j + 1) (by omega)))
      have hc3 : wr.cell? ⟨w4.heap.size, j + 1, none⟩ = some (.int .u64 0) := (cell_of_row _ _ _ _ _ _ hR).trans (srow_next x j hlt)
      have hf3 : wr.frozen? ⟨w4.heap.size, j + 1, none⟩ = false := frozen_of_row _ _ _ _ _ hR
      have HI : Hid _ := hI; have HR : Hid _ := hR
      clear hI hR
      go_wp2
      go_region
      go_wp2
      go_roundw
      case rel =>
        refine ⟨j + 1, by omega, by go_num, (HI.out.setCell (Nat.le_refl _) _).drew, ?_⟩
        show (wr.setCell _ _).heap[w4.heap.size]? = _
        rw [heap_setCell_same _ _ _ _ _ _ HR.out, srow_set x j hlt]
      case measure => simp [intOf]; omega
    · have ej : j = 3 := by omega
      subst ej
      have hz7 : w4.heap.size < wr.heap.size := (Array.getElem?_eq_some_iff.1 hR).1
      obtain ⟨c0, c1, c2, c3⟩ := cells4 hR
      have S5 : Hid _ := (hI.block _ hz4).trans S3.out
      have HB5 : Hid _ := HB4.out.trans (hI.mono (by omega))
      clear hI hR S1 S3 HB4
      go_wp2_with fail
      refine (zbytes_any (sh x) _).mono ?_
      rintro e w6 ⟨rfl, hb6⟩
      clear c0 c1 c2 c3
      have hn1 : n1 < wr.heap.size := by omega
      have S6 : Hid (w6.heap[n1]? = some (.cells (brow x 32) 24 (0, 0))) := (hb6.block _ hn1).trans S5.out
      have HB6 : Hid (Below w.heap.size w w6) := HB5.out.trans (hb6.mono (by omega))
      have hz8 : n1 < w6.heap.size := by have := hb6.size; omega
      clear hb6 S5 HB5
      go_wp2_with (first
        | ((with_reducible show wpList _ _ _ (_ :: _) _ (World.alloc _ _)); refine wpList_store_new rfl rfl 24 (.tmp 9) (.tmp 43) rfl _ rfl (brow (sh x) 32) rfl rfl 24 _ (by rw [brow_size]; kernel_rfl) (by rw [brow_size]; rfl) (brow_one (sh x) _) ?_))
      go_loopw [10] (fun i wr => ∃ j : Nat, j ≤ 31 ∧ i = .int .i64 (j : Int) ∧ Below w.heap.size w wr ∧ wr.heap[w6.heap.size]? = some (.cells (brow (sh x) 32) 24 (0, 0)) ∧ wr.heap[n1]? = some (.cells (brow x 32) 24 (0, 0))) (fun i _ => 31 - (intOf i).toNat)
      case atStart => exact ⟨0, by omega, rfl, HB6.out.alloc (by omega) _, heap_new_at rfl, heap_old_at hz8 S6.out⟩
      case round =>
        clear S6 HB6 hlt hj
        obtain ⟨j, hj, rfl, hI, hR, hT⟩ := hrel
        have HI : Hid _ := hI; have HR : Hid _ := hR; have HT : Hid _ := hT
        clear hI hR hT
        by_cases hlt : j < 31
        · have hlt' : (j : Int) < 31 := by omega
          have hlt2 : (j : Int) < 32 := by omega
          have hlt3 : (j : Int) + 1 < 32 := by omega
          have hc1 : wr.cell? ⟨w6.heap.size, j, none⟩ = some (.int .u8 (lb x (30 - j))) := by
            rw [cell_of_row _ _ _ _ _ _ HR.out, brow_lb _ _ (by omega), show 31 - j = (30 - j) + 1 by omega, sh_lb x HX.out _ (by omega)]
          have hc2 : wr.cell? ⟨n1, j + 1, none⟩ = some (.int .u8 (lb x (30 - j))) := by
            rw [cell_of_row _ _ _ _ _ _ HT.out, brow_lb _ _ (by omega), show 31 - (j + 1) = 30 - j by omega]
          go_wp2
          go_quiet (fail)
          go_wp2
          go_roundw
          case rel => exact ⟨j + 1, by omega, by go_num, drewN_below HI.out _, HR.out, HT.out⟩
          case measure => simp [intOf]; omega
        · have ej : j = 31 := by omega
          subst ej
          have hc1 : wr.cell? ⟨w6.heap.size, 31, none⟩ = some (.int .u8 0) := by
            rw [cell_of_row _ _ _ _ _ _ HR.out, brow_lb _ _ (by omega), sh_lb0]
          go_wp2
          go_ret
          exact ⟨rfl, HI.out⟩
end Go.Proofs.Qxb6608765aMods
