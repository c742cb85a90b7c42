import Derived.Test.Qxb6608765aModsUnred
import Derived.LaidEqlPtr
namespace Go.Proofs.Qxb6608765aMods
open Go.RowKit

set_option maxHeartbeats 400000 in
theorem setBytes_zero (a : Option Addr) (cp : Nat) (w : World) :
    Calls Trym.prog 25 #[.slice none 0 0, .slice a 0 cp] w fun e w' => e = .returned (.slice none 0 0) ∧ w' = w := by
  go_enter Trym.func25, Trym.ntmps25
  go_wp2_with fail
  refine (make_zero w).mono ?_
  rintro e w1 ⟨rfl, rfl⟩
  go_wp2
  go_loop [5, 6] (fun i _ => i = .int .i64 0) (fun _ _ => 0)
  case atStart => rfl
  case round =>
    subst hrel
    go_wp2_with fail
    refine (norm_nil _).mono ?_
    rintro e w2 ⟨rfl, rfl⟩
    go_wp2
    go_ret
    exact ⟨rfl, rfl⟩

/-- A slice of n bytes whose byte at weight 256^p is f p. -/
structure BytesAt (f : Nat → Int) (w : World) (a : Option Addr) (n cp : Nat) : Prop where
  isb : IsBytes f
  past : ∀ p, n ≤ p → f p = 0
  short : n ≤ 1048576
  cells : 0 < n → ∃ b off, a = some ⟨b, off, none⟩ ∧ b < w.heap.size ∧ n ≤ cp ∧ ∀ q, q < n → w.cell? ⟨b, off + q, none⟩ = some (.int .u8 (f (n - 1 - q)))

/-- The big integer at block X: its sign, its L words, each f's. -/
structure IntAt (f : Nat → Int) (neg : Bool) (L X : Nat) (w : World) : Prop where
  cells : ∃ a cap, w.heap[X]? = some (.cells #[.bool neg, .slice a L cap] 44 (0, 0)) ∧ (0 < L → ∃ G, a = some ⟨G, 0, none⟩ ∧ X < G ∧ ∀ i, i < L → w.cell? ⟨G, i, none⟩ = some (.int .u64 (wd f i)))
  past : ∀ i, L ≤ i → wd f i = 0
  top : ∀ k, L = k + 1 → wd f k ≠ 0

theorem IntAt.mk2 {f : Nat → Int} {X L : Nat} {w w1 : World} {v : Value} (hX : X + 1 = w.heap.size) (h0 : w.heap[X]? = some (.cells #[.bool false, v] 44 (0, 0))) (hb : Below w.heap.size w w1) (a : Option Addr) (cap : Nat) (hp : ∀ i, L ≤ i → wd f i = 0) (ht : ∀ k, L = k + 1 → wd f k ≠ 0)
    (hc : 0 < L → ∃ G, a = some ⟨G, 0, none⟩ ∧ X < G ∧ ∀ i, i < L → w1.cell? ⟨G, i, none⟩ = some (.int .u64 (wd f i))) :
    IntAt f false L X ((w1.setCell ⟨X, 1, none⟩ (.slice a L cap)).setCell ⟨X, 0, none⟩ (.bool false)) ∧ Below X w ((w1.setCell ⟨X, 1, none⟩ (.slice a L cap)).setCell ⟨X, 0, none⟩ (.bool false)) := by
  have h1 : w1.heap[X]? = some (.cells #[.bool false, v] 44 (0, 0)) := (hb.block X (by omega)).trans h0
  have h2 : (w1.setCell ⟨X, 1, none⟩ (.slice a L cap)).heap[X]? = some (.cells #[.bool false, .slice a L cap] 44 (0, 0)) := by
    rw [heap_setCell_same _ _ _ _ _ _ h1]; rfl
  refine ⟨⟨⟨a, cap, ?_, fun hl => ?_⟩, hp, ht⟩, ((hb.mono (B' := X) (by omega)).setCell (p := ⟨X, 1, none⟩) (Nat.le_refl _) _).setCell (p := ⟨X, 0, none⟩) (Nat.le_refl _) _⟩
  · rw [heap_setCell_same _ _ _ _ _ _ h2]; rfl
  · obtain ⟨G, e, hG, hcell⟩ := hc hl
    refine ⟨G, e, hG, fun i hi => ?_⟩
    rw [World.cell?_setCell_other _ _ _ _ (by intro e; injection e with e1; omega), World.cell?_setCell_other _ _ _ _ (by intro e; injection e with e1; omega)]
    exact hcell i hi

set_option maxHeartbeats 400000 in
theorem intSetBytes_any (f : Nat → Int) (X : Nat) (a : Option Addr) (n cp : Nat) (w : World) (hX : X + 1 = w.heap.size) (h0 : w.heap[X]? = some (.cells #[.bool false, .slice none 0 0] 44 (0, 0))) (hf : BytesAt f w a n cp) :
    Calls Trym.prog 16 #[.pointer (some ⟨X, 0, none⟩), .slice a n cp] w fun e w' => e = .returned (.pointer (some ⟨X, 0, none⟩)) ∧ ∃ L, L ≤ (n + 7) / 8 ∧ IntAt f false L X w' ∧ Below X w w' := by
  have hc0 : w.cell? ⟨X, 0, none⟩ = some (.bool false) := cell_of_row _ _ _ _ _ _ h0
  have hc1 : w.cell? ⟨X, 1, none⟩ = some (.slice none 0 0) := cell_of_row _ _ _ _ _ _ h0
  have hf0 : w.frozen? ⟨X, 0, none⟩ = false := frozen_of_row _ _ _ _ _ h0
  have hf1 : w.frozen? ⟨X, 1, none⟩ = false := frozen_of_row _ _ _ _ _ h0
  have H0 : Hid _ := h0; have HF : Hid _ := hf
  clear h0 hf
  by_cases hn : n = 0
  · subst hn
    go_enter Trym.func16, Trym.ntmps16
    go_wp2_with fail
    refine (setBytes_zero a cp w).mono ?_
    rintro e w1 ⟨rfl, rfl⟩
    go_wp2
    go_ret
    exact ⟨rfl, 0, by omega, IntAt.mk2 hX H0.out (Below.refl _ _) none 0 (fun i _ => wd_zero f i (fun p _ => HF.out.past p (by omega))) (fun k h => by omega) (fun h => by omega)⟩
  · obtain ⟨b, off, rfl, hbw, hncp, hcell⟩ := HF.out.cells (by omega)
    have HC : Hid _ := hcell; clear hcell
    go_enter Trym.func16, Trym.ntmps16
    go_wp2_with fail
    refine (setBytes_any f n b off cp w HF.out.isb HF.out.past (by omega) HF.out.short hncp hbw HC.out).mono ?_
    rintro e w1 ⟨L, cap, rfl, hLc, hLn, hp, ht, hcw, hb, hsz⟩
    have hlt : X < w.heap.size := by omega
    have d0 : w1.cell? ⟨X, 0, none⟩ = some (.bool false) := (hb.cell (p := ⟨X, 0, none⟩) hlt).trans hc0
    have d1 : w1.cell? ⟨X, 1, none⟩ = some (.slice none 0 0) := (hb.cell (p := ⟨X, 1, none⟩) hlt).trans hc1
    have g0 : w1.frozen? ⟨X, 0, none⟩ = false := (hb.frozen (p := ⟨X, 0, none⟩) hlt).trans hf0
    have g1 : w1.frozen? ⟨X, 1, none⟩ = false := (hb.frozen (p := ⟨X, 1, none⟩) hlt).trans hf1
    have HP : Hid _ := hp; have HT : Hid _ := ht; have HW : Hid _ := hcw; have HB : Hid _ := hb
    clear hp ht hcw hb hc0 hc1 hf0 hf1
    go_wp2
    go_ret
    exact ⟨rfl, L, hLn, IntAt.mk2 hX H0.out HB.out _ cap HP.out HT.out (fun _ => ⟨_, rfl, hlt, HW.out⟩)⟩

theorem IntAt.two {f : Nat → Int} {neg : Bool} {L X : Nat} {w : World} (h : IntAt f neg L X w) : ∃ a cap, w.cell? ⟨X, 0, none⟩ = some (.bool neg) ∧ w.cell? ⟨X, 1, none⟩ = some (.slice a L cap) ∧ w.frozen? ⟨X, 0, none⟩ = false ∧ (0 < L → ∃ G, a = some ⟨G, 0, none⟩ ∧ X < G ∧ ∀ i, i < L → w.cell? ⟨G, i, none⟩ = some (.int .u64 (wd f i))) := by
  obtain ⟨a, cap, h0, hc⟩ := h.cells
  exact ⟨a, cap, cell_of_row _ _ _ _ _ _ h0, cell_of_row _ _ _ _ _ _ h0, frozen_of_row _ _ _ _ _ h0, hc⟩

def signOf (neg : Bool) (L : Nat) : Int := if L = 0 then 0 else if neg then -1 else 1

set_option maxHeartbeats 400000 in
theorem sign_any (f : Nat → Int) (neg : Bool) (L X : Nat) (w : World) (h : IntAt f neg L X w) (hL : L ≤ 1000000) :
    Calls Trym.prog 27 #[.pointer (some ⟨X, 0, none⟩)] w fun e w' => e = .returned (.int .i64 (signOf neg L)) ∧ w' = w := by
  obtain ⟨a, cap, c0, c1, _, _⟩ := h.two
  clear h
  by_cases hl : L = 0
  · subst hl
    go_enter Trym.func27, Trym.ntmps27
    go_wp2
    go_ret
    exact ⟨rfl, rfl⟩
  · have hl' : ((L : Int) == 0) = false := by simp; omega
    cases neg with
    | true =>
      go_enter Trym.func27, Trym.ntmps27
      go_wp2
      go_ret
      exact ⟨ret_int (by simp [signOf, hl]), rfl⟩
    | false =>
      go_enter Trym.func27, Trym.ntmps27
      go_wp2
      go_ret
      exact ⟨ret_int (by simp [signOf, hl]), rfl⟩

set_option maxHeartbeats 400000 in
theorem intBitLen_any (f : Nat → Int) (hf : IsBytes f) (neg : Bool) (L X : Nat) (w : World) (h : IntAt f neg L X w) (hL : L ≤ 1000000) :
    Calls Trym.prog 28 #[.pointer (some ⟨X, 0, none⟩)] w fun e w' => ∃ r : Int, e = .returned (.int .i64 r) ∧ (r ≤ 256 ↔ L ≤ 4) ∧ w' = w := by
  obtain ⟨a, cap, c0, c1, _, hc⟩ := h.two
  have HT : Hid _ := h.top
  clear h
  by_cases hl : L = 0
  · subst hl
    go_enter Trym.func28, Trym.ntmps28
    go_wp2_with fail
    refine (bitLen_zero a cap w).mono ?_
    rintro e w1 ⟨rfl, rfl⟩
    go_wp2
    go_ret
    exact ⟨0, rfl, by omega, rfl⟩
  · obtain ⟨L, rfl⟩ : ∃ k, L = k + 1 := ⟨L - 1, by omega⟩
    obtain ⟨G, rfl, hG, hcw⟩ := hc (by omega)
    have hb := wd_bd f hf L
    have hne := HT.out L rfl
    have HCW : Hid _ := hcw L (by omega)
    clear hcw hc
    go_enter Trym.func28, Trym.ntmps28
    go_wp2_with fail
    refine (bitLen_any G L cap (wd f L) w (by omega) HCW.out (by omega) hb.2).mono ?_
    rintro e w1 ⟨r, rfl, h1, h2, rfl⟩
    go_wp2
    go_ret
    exact ⟨r, rfl, by omega, rfl⟩

theorem IntAt.flip {f : Nat → Int} {neg b : Bool} {L X : Nat} {w : World} (h : IntAt f neg L X w) : IntAt f b L X (w.setCell ⟨X, 0, none⟩ (.bool b)) ∧ Below X w (w.setCell ⟨X, 0, none⟩ (.bool b)) := by
  obtain ⟨a, cap, h0, hc⟩ := h.cells
  refine ⟨⟨⟨a, cap, ?_, fun hl => ?_⟩, h.past, h.top⟩, (Below.refl _ _).setCell (p := ⟨X, 0, none⟩) (Nat.le_refl _) _⟩
  · rw [heap_setCell_same _ _ _ _ _ _ h0]; rfl
  · obtain ⟨G, e, hG, hcell⟩ := hc hl
    refine ⟨G, e, hG, fun i hi => ?_⟩
    rw [World.cell?_setCell_other _ _ _ _ (by intro e; injection e with e1; omega)]
    exact hcell i hi

theorem run_neq_ptr_same {P : Program} (w : World) {tp te : TypeId} {j : TypeInfo} (a : Addr) (hp : P.underlying tp = some (.pointer te)) (hte : P.info? te = some j) :
    (binOp .neq tp (.pointer (some a)) (.pointer (some a))).run P w = .ok (.bool false) w := by
  have h : ∀ d : Nat, (Op.equalIn (d + 1) tp (.pointer (some a)) (.pointer (some a))).run P w = .ok true w := fun d => by
    simp [Op.equalIn, run_underlying hp, sizeOf, typeInfo, hte, run_sameAddr_same]
  simp only [binOp]
  simp [Op.equal, Op.maxDepth, h 9999]

theorem info44 : ∃ j, Trym.prog.info? 44 = some j := Option.isSome_iff_exists.1 (by kernel_rfl)

set_option maxHeartbeats 400000 in
theorem intSet_self (X : Nat) (w : World) :
    Calls Trym.prog 26 #[.pointer (some ⟨X, 0, none⟩), .pointer (some ⟨X, 0, none⟩)] w fun e w' => e = .returned (.pointer (some ⟨X, 0, none⟩)) ∧ w' = w := by
  obtain ⟨j, hj⟩ := info44
  have hne := fun w => run_neq_ptr_same (P := Trym.prog) w ⟨X, 0, none⟩ Trym.underlying40 hj
  clear hj
  go_enter Trym.func26, Trym.ntmps26
  go_wp2
  go_ret
  exact ⟨rfl, rfl⟩

set_option maxHeartbeats 400000 in
theorem neg_any (f : Nat → Int) (L X : Nat) (w : World) (h : IntAt f false L X w) (hL : L ≤ 1000000) :
    Calls Trym.prog 17 #[.pointer (some ⟨X, 0, none⟩), .pointer (some ⟨X, 0, none⟩)] w fun e w' => e = .returned (.pointer (some ⟨X, 0, none⟩)) ∧ IntAt f (decide (0 < L)) L X w' ∧ Below X w w' := by
  obtain ⟨a, cap, c0, c1, g0, hc⟩ := h.two
  have H : Hid _ := h
  clear h hc
  go_enter Trym.func17, Trym.ntmps17
  go_wp2_with fail
  refine (intSet_self X w).mono ?_
  rintro e w1 ⟨rfl, rfl⟩
  by_cases hl : L = 0
  · subst hl
    go_wp2
    go_ret
    exact ⟨rfl, H.out.flip⟩
  · have hl' : (0 : Int) < (L : Int) := by omega
    go_wp2
    go_ret
    refine ⟨rfl, ?_⟩
    have := H.out.flip (b := decide (0 < L))
    rw [decide_eq_true (show 0 < L by omega)] at this ⊢
    exact this
end Go.Proofs.Qxb6608765aMods
