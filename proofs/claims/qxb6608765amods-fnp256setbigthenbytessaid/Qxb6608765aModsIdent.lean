import Derived.Test.Qxb6608765aModsZSetBig
import Derived.ChangeKeysEq
import Derived.Deep.RegionHeld3
import Derived.Deep.DrawnRows
namespace Go.Proofs.Qxb6608765aMods
open Go.RowKit

theorem setRow_new6 {w : World} {old cells : Array Value} {t : TypeId} : (w.alloc (.cells old t)).setRow w.heap.size cells = w.alloc (.cells cells t) := by
  have : (w.heap.push (.cells old t)).modify w.heap.size (fun | .cells _ elem frozen => .cells cells elem frozen | o => o) = w.heap.push (.cells cells t) := by
    apply Array.ext
    · simp
    · intro i h1 h2
      simp only [Array.getElem_modify, Array.getElem_push]
      by_cases e : w.heap.size = i
      · subst e; simp
      · rw [if_neg e]
        have : i < w.heap.size := by simp at h2; omega
        rw [dif_pos this, dif_pos this]
  show World.setRow { w with heap := w.heap.push (.cells old t) } w.heap.size cells = { w with heap := w.heap.push (.cells cells t) }
  unfold World.setRow
  exact congrArg (fun h => { w with heap := h }) this

theorem wpList_store_new6 {P : Program} {ops : Array Oper} {rest : List Oper} {o : Oper} {a : Act} {w : World} {Q : Exit → Act → World → Prop} (hgd : o.guard = none) (hdst : o.dst = none) (ty : TypeId) (x y : Operand) (ho : o.op = .store ty x y)
    (g : Nat) (hgw : w.heap.size = g) (cells : Array Value) (hx : a.eval x = .pointer (some ⟨g, 0, none⟩)) (hy : a.eval y = .agg cells)
    (t : TypeId) (old : Array Value) (hi : (P.info? ty).map (·.size) = some cells.size)
    (hold : old.size = cells.size) (h1 : cells.all (·.oneCell') = true)
    (h : wpList P ops Q rest a (w.alloc (.cells cells t))) : wpList P ops Q (o :: rest) a (w.alloc (.cells old t)) := by
  subst hgw
  refine wpList_store_row hgd ty x y ho w.heap.size cells hx hy t old (heap_alloc_new w _) hi hold h1 ?_
  rw [setRow_new6, hdst]; exact h



theorem run_eqItems_refl {P : Program} (w : World) (d : Nat) (e : TypeId) (k : IntKind) (xs : Array Value) (he : P.underlying e = some (.int k)) (hc : P.cellsOf e = 1) :
    ∀ is : List Nat, (∀ j ∈ is, ∃ a, xs[j]? = some (.int k a)) → (Op.eqItems (d + 1) e (P.cellsOf e) xs xs is).run P w = .ok true w
  | [], _ => by simp [Op.eqItems]
  | j :: is, h => by
    obtain ⟨a, ha⟩ := h j (by simp)
    have ih := run_eqItems_refl w d e k xs he hc is (fun i hi => h i (by simp [hi]))
    have hp : (part e xs (j * P.cellsOf e)).run P w = .ok (.int k a) w := by
      rw [hc, Nat.mul_one]
      simp [part, isAgg, run_underlying he, ha]
    simp only [Op.eqItems, Sem.run_bind, hp, Result.andThen_ok, run_equalIn_int w d e k k a a he]
    simpa using ih

theorem run_equalIn_refl {P : Program} (w : World) (d : Nat) {t e : TypeId} {n : Nat} {i : TypeInfo} {k : IntKind} (xs : Array Value) (hu : P.underlying t = some (.array n e)) (hi : P.info? e = some i) (he : P.underlying e = some (.int k)) (hc : P.cellsOf e = 1)
    (hx : ∀ j, j < n → ∃ a, xs[j]? = some (.int k a)) : (Op.equalIn (d + 1 + 1) t (.agg xs) (.agg xs)).run P w = .ok true w := by
  rw [run_equalIn_array w (d + 1) xs xs hu hi]
  exact run_eqItems_refl w d e k xs he hc _ (fun j hj => hx j (by simpa using hj))

theorem info22 : ∃ j, Trym.prog.info? 22 = some j := Option.isSome_iff_exists.1 (by kernel_rfl)
theorem info5 : ∃ j, Trym.prog.info? 5 = some j := Option.isSome_iff_exists.1 (by kernel_rfl)

theorem limbs_eq (z : Nat → Int) (w : World) : (Op.equalIn 10000 23 (.agg #[.int .u64 (z 0), .int .u64 (z 1), .int .u64 (z 2), .int .u64 (z 3)]) (.agg #[.int .u64 (z 0), .int .u64 (z 1), .int .u64 (z 2), .int .u64 (z 3)])).run Trym.prog w = .ok true w := by
  obtain ⟨i, hi⟩ := info22
  exact run_equalIn_refl w 9998 _ Trym.underlying23 hi Trym.underlying22 (by kernel_rfl) (fun j hj => ⟨z j, limb_get z j hj⟩)

theorem zsetBig_id (z z0 : Nat → Int) (hz : ∀ i, i < 4 → 0 ≤ z i ∧ z i ≤ 18446744073709551615) (b : Nat) (w : World) (hb : w.heap[b]? = some (.cells (brow z 32) 24 (0, 0))) :
    Calls Trym.prog 12 #[.agg #[.int .u64 (z0 0), .int .u64 (z0 1), .int .u64 (z0 2), .int .u64 (z0 3)], .bool false, .slice (some ⟨b, 0, none⟩) 32 32] w fun e w' => e = .returned (.tuple #[.agg #[.int .u64 (z 0), .int .u64 (z 1), .int .u64 (z 2), .int .u64 (z 3)], .bool true]) ∧ Below w.heap.size w w' := by
  have hw : ∀ i, i < 4 → wd (fun p => if p < 32 then lb z p else 0) i = z i := by
    intro i hi
    rw [← wd_lb z i (hz i hi).1 (hz i hi).2, wd_eq, wd_eq]
    simp only [if_pos (show 8 * i < 32 by omega), if_pos (show 8 * i + 1 < 32 by omega), if_pos (show 8 * i + 2 < 32 by omega), if_pos (show 8 * i + 3 < 32 by omega), if_pos (show 8 * i + 4 < 32 by omega), if_pos (show 8 * i + 5 < 32 by omega), if_pos (show 8 * i + 6 < 32 by omega), if_pos (show 8 * i + 7 < 32 by omega)]
  refine (zsetBig_any (fun p => if p < 32 then lb z p else 0) z0 false (some ⟨b, 0, none⟩) 32 32 w ⟨fun p => ?_, fun p hp => if_neg (by omega), by omega, fun _ => ⟨b, 0, rfl, (Array.getElem?_eq_some_iff.1 hb).1, by omega, fun q hq => ?_⟩⟩).mono ?_
  · by_cases h : p < 32
    · simp only [if_pos h]; exact lb_bd z p
    · simp only [if_neg h]; omega
  · rw [cell_of_row _ _ _ _ _ _ hb, Nat.zero_add, brow_lb z q hq]
    simp only [if_pos (show 32 - 1 - q < 32 by omega)]
  · rintro e w' ⟨L, hL, hp, ht, hB, h⟩
    rcases h with ⟨_, rfl⟩ | ⟨h, _⟩
    · rw [hw 0 (by omega), hw 1 (by omega), hw 2 (by omega), hw 3 (by omega)]
      exact ⟨rfl, hB⟩
    · exfalso
      rw [(accB_iff false L).2 ⟨by omega, by simp⟩] at h
      cases h

theorem bcell {W w1 : World} (hb : Below W.heap.size W w1) : (∀ b o, b < W.heap.size → w1.cell? ⟨b, o, none⟩ = W.cell? ⟨b, o, none⟩) ∧ (∀ b o, b < W.heap.size → w1.frozen? ⟨b, o, none⟩ = W.frozen? ⟨b, o, none⟩) :=
  ⟨fun b o h => hb.cell (p := ⟨b, o, none⟩) h, fun b o h => hb.frozen (p := ⟨b, o, none⟩) h⟩
theorem keep6 (W w : World) (h0 : w.heap.size < W.heap.size) (w' : World) (h : Below W.heap.size W w') {p q r s : Value} (a0 : W.cell? ⟨w.heap.size, 0, none⟩ = some p) (a1 : W.cell? ⟨w.heap.size, 1, none⟩ = some q) (a2 : W.cell? ⟨w.heap.size, 2, none⟩ = some r) (a3 : W.cell? ⟨w.heap.size, 3, none⟩ = some s) :
    Below W.heap.size W w' ∧ w'.cell? ⟨w.heap.size, 0, none⟩ = some p ∧ w'.cell? ⟨w.heap.size, 1, none⟩ = some q ∧ w'.cell? ⟨w.heap.size, 2, none⟩ = some r ∧ w'.cell? ⟨w.heap.size, 3, none⟩ = some s :=
  ⟨h, (h.cell (p := ⟨_, 0, none⟩) h0).trans a0, (h.cell (p := ⟨_, 1, none⟩) h0).trans a1, (h.cell (p := ⟨_, 2, none⟩) h0).trans a2, (h.cell (p := ⟨_, 3, none⟩) h0).trans a3⟩
set_option maxHeartbeats 1000000 in
theorem walk6 (x y : Nat → Int) (hy : ∀ i, i < 4 → 0 ≤ y i ∧ y i ≤ 18446744073709551615) (w : World) :
    Calls Trym.prog 6 #[.agg #[.int .u64 (x 0), .int .u64 (x 1), .int .u64 (x 2), .int .u64 (x 3)], .agg #[.int .u64 (y 0), .int .u64 (y 1), .int .u64 (y 2), .int .u64 (y 3)]] w fun e w' => e = .returned (.bool true) ∧ Below w.heap.size w w' := by
  have HY : Hid _ := hy; clear hy
  go_enter Trym.func6, Trym.ntmps6
  go_wp2_with fail
  refine (zbytes_any y _).mono ?_
  rintro e w1 ⟨rfl, hb1⟩
  have ha1 : w1.heap[w.heap.size]? = some (.cells #[.int .u64 (x 0), .int .u64 (x 1), .int .u64 (x 2), .int .u64 (x 3)] 23 (0, 0)) :=
    (hb1.block w.heap.size (by simp; omega)).trans (heap_alloc2_old _ _ _)
  have ha2 : w1.heap[w.heap.size + 1]? = some (.cells #[.int .u64 (y 0), .int .u64 (y 1), .int .u64 (y 2), .int .u64 (y 3)] 23 (0, 0)) :=
    (hb1.block (w.heap.size + 1) (by simp)).trans (heap_alloc2_new _ _ _)
  have hB1 : Below w.heap.size w w1 := (((Below.refl _ _).alloc (Nat.le_refl _) _).alloc (by simp) _).trans (hb1.mono (by simp; omega))
  have hs1 : w.heap.size + 1 < w1.heap.size := by have := hb1.size; simp at this; omega
  have HB1 : Hid _ := hB1; have HA1 : Hid _ := ha1; have HA2 : Hid _ := ha2
  clear hB1 hb1 ha1 ha2
  go_wp2_with (first
    | ((with_reducible show wpList _ _ _ (_ :: _) _ (World.alloc _ _)); refine wpList_store_new6 rfl rfl 24 (.tmp 5) (.tmp 9) rfl _ rfl (brow y 32) rfl rfl 24 _ (by rw [brow_size]; kernel_rfl) (by rw [brow_size]; rfl) (brow_one y _) ?_))
  have r1 : (w1.alloc (.cells (brow y 32) 24)).heap[w.heap.size]? = _ := heap_old_at (by omega) HA1.out
  have r2 : (w1.alloc (.cells (brow y 32) 24)).heap[w.heap.size + 1]? = _ := heap_old_at (by omega) HA2.out
  have r3 : (w1.alloc (.cells (brow y 32) 24)).heap[w1.heap.size]? = some (.cells (brow y 32) 24 (0, 0)) := heap_new_at rfl
  have hB : Below w.heap.size w (w1.alloc (.cells (brow y 32) 24)) := HB1.out.alloc (by omega) _
  have hsz : w1.heap.size < (w1.alloc (.cells (brow y 32) 24)).heap.size := by simp
  clear HB1 HA1 HA2
  generalize w1.alloc (.cells (brow y 32) 24) = W at *
  generalize w1.heap.size = n1 at *
  clear w1
  obtain ⟨a0, a1, a2, a3⟩ := cells4 r1
  have HR3 : Hid _ := r3; have HR2 : Hid _ := r2; have HB : Hid _ := hB; have HR1 : Hid _ := r1
  clear r1 r2 r3 hB
  have hw0 : w.heap.size < W.heap.size := by omega
  go_region_held3 (fun w' => Below W.heap.size W w' ∧ w'.cell? ⟨w.heap.size, 0, none⟩ = some (.int .u64 (x 0)) ∧ w'.cell? ⟨w.heap.size, 1, none⟩ = some (.int .u64 (x 1)) ∧ w'.cell? ⟨w.heap.size, 2, none⟩ = some (.int .u64 (x 2)) ∧ w'.cell? ⟨w.heap.size, 3, none⟩ = some (.int .u64 (x 3)))
    (first
      | (exact keep6 W w hw0 _ (Below.refl _ _).drew a0 a1 a2 a3)
      | (have hHd := ‹Below W.heap.size W _ ∧ _›
         first
           | (exact keep6 W w hw0 _ (hHd.1.trans (hb3.mono hHd.1.size)) a0 a1 a2 a3)
           | (exact keep6 W w hw0 _ (hHd.1.alloc hHd.1.size _) a0 a1 a2 a3)
           | (exact keep6 W w hw0 _ hHd.1 a0 a1 a2 a3)
           | (exact keep6 W w hw0 _ (hBW3.alloc hBW3.size _) a0 a1 a2 a3)
           | (exact keep6 W w hw0 _ ((((hBW3.setCell (Nat.le_refl _) _).setCell (Nat.le_refl _) _).setCell (Nat.le_refl _) _).setCell (Nat.le_refl _) _) a0 a1 a2 a3)))
    (first
      | (go_at_call 12; refine (zsetBig_id y x HY.out n1 _ ((‹Below W.heap.size W _ ∧ _›.1.block n1 hsz).trans HR3.out)).mono ?_; rintro e w3 ⟨rfl, hb3⟩; obtain ⟨hc3, hf3⟩ := bcell hb3; have hBW3 : Below W.heap.size W w3 := (‹Below W.heap.size W _ ∧ _›).1.trans (hb3.mono (‹Below W.heap.size W _ ∧ _›).1.size)))
  · have hHd := ‹Below W.heap.size W _ ∧ _›
    have hB9 := HB.out.trans (hHd.1.mono (by omega))
    have HB9 : Hid _ := hB9
    clear hB9 hHd
    obtain ⟨d0, d1, d2, d3⟩ := cells4 ((hBW3.block _ (by omega)).trans HR2.out)
    have hz3 : w.heap.size + 1 < w3.heap.size := by have := hBW3.size; omega
    clear hb3 hBW3 hc3 hf3 a0 a1 a2 a3
    have hq := limbs_eq y
    go_wp2_with fail
    go_ret
    exact ⟨rfl, HB9.out⟩
  · have hHd := ‹Below W.heap.size W _ ∧ _›
    have hB9 := HB.out.trans (hHd.1.mono (by omega))
    have HB9 : Hid _ := hB9
    clear hB9 hHd
    obtain ⟨d0, d1, d2, d3⟩ := cells4 ((hBW3.block _ (by omega)).trans HR2.out)
    have rz : w3.heap[W.heap.size]? = _ := (hb3.block W.heap.size (by simp)).trans (heap_new_at rfl)
    obtain ⟨e0, e1, e2, e3⟩ := cells4 rz
    have hne : W.heap.size ≠ w.heap.size + 1 := by omega
    have hne2 : w.heap.size + 1 ≠ W.heap.size := by omega
    clear hb3 hBW3 hc3 hf3 a0 a1 a2 a3 rz
    have hq := limbs_eq y
    go_wp2_with fail
    go_ret
    exact ⟨rfl, HB9.out⟩
end Go.Proofs.Qxb6608765aMods
