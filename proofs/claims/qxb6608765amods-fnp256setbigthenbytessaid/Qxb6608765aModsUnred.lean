import Derived.Test.Qxb6608765aModsFill
import Derived.Test.Qxb6608765aModsCompare
import Derived.RegionTactic
namespace Go.Proofs.Qxb6608765aMods
open Go.RowKit

/-- The first j bytes (from the greatest) of a word. -/
def hs (g : Nat → Int) : Nat → Int
  | 0 => 0
  | j + 1 => hs g j * 256 + g (7 - j)

theorem hs_bd (g : Nat → Int) (hg : IsBytes g) : ∀ j, 0 ≤ hs g j ∧ hs g j < 256 ^ j
  | 0 => ⟨by show (0 : Int) ≤ 0; decide, by show (0 : Int) < 1; decide⟩
  | j + 1 => by
    have ih := hs_bd g hg j
    have h := hg (7 - j)
    have e : (256 : Int) ^ (j + 1) = 256 ^ j * 256 := Int.pow_succ _ _
    show 0 ≤ hs g j * 256 + g (7 - j) ∧ hs g j * 256 + g (7 - j) < 256 ^ (j + 1)
    rw [e]
    omega

theorem hs_wd (f : Nat → Int) (k : Nat) : hs (fun u => f (8 * k + u)) 8 = wd f k := by
  rw [wd_eq]
  show (((((((0 * 256 + f (8 * k + 7)) * 256 + f (8 * k + 6)) * 256 + f (8 * k + 5)) * 256 + f (8 * k + 4)) * 256 + f (8 * k + 3)) * 256 + f (8 * k + 2)) * 256 + f (8 * k + 1)) * 256 + f (8 * k + 0) = _
  simp only [Nat.add_zero]
  omega

theorem hs_step (g : Nat → Int) (hg : IsBytes g) (j : Nat) (hj : j < 8) : bits BinOp.or IntKind.u64 (IntKind.u64.wrap (hs g j * 256)) (g (7 - j)) = hs g (j + 1) := by
  have h := hs_bd g hg j
  have hc := hg (7 - j)
  have hp : (256 : Int) ^ j ≤ 72057594037927936 := by
    match j, hj with
    | 0, _ => decide
    | 1, _ => decide
    | 2, _ => decide
    | 3, _ => decide
    | 4, _ => decide
    | 5, _ => decide
    | 6, _ => decide
    | 7, _ => decide
  show _ = hs g j * 256 + g (7 - j)
  rw [u64_wrap_id _ (by omega) (by omega)]
  exact bits_join .u64 64 (by decide) wraps_u64 8 _ _ (by omega) (by omega) (by omega) (by omega) (by omega) (by omega)

/-- The limbs while they are set: the first k are f's words, the rest as they were. -/
structure UInv (f z0 : Nat → Int) (S : Nat) (w wr : World) (k : Nat) (x : Int) : Prop where
  os : wr.os = w.os
  tape : wr.tape = w.tape
  output : wr.output = w.output
  size : wr.heap.size = w.heap.size
  other : ∀ i, i ≠ S → wr.heap[i]? = w.heap[i]?
  row : wr.heap[S]? = some (.cells (Array.ofFn (n := 4) fun i => .int .u64 (if i.val < k then wd f i else if i.val = k then x else z0 i)) 38 (0, 0))

theorem UInv.cell {f z0 : Nat → Int} {S : Nat} {w wr : World} {k : Nat} {x : Int} (h : UInv f z0 S w wr k x) {p : Addr} (hp : p.block ≠ S) : wr.cell? p = w.cell? p := World.cell?_of_block (w := w) (h.other p.block hp)

theorem UInv.drew {f z0 : Nat → Int} {S : Nat} {w wr : World} {k : Nat} {x : Int} (h : UInv f z0 S w wr k x) : UInv f z0 S w wr.drew k x := ⟨h.os, h.tape, h.output, h.size, h.other, h.row⟩

theorem UInv.at {f z0 : Nat → Int} {S : Nat} {w wr : World} {k : Nat} {x : Int} (h : UInv f z0 S w wr k x) (hk : k < 4) : wr.cell? ⟨S, k, none⟩ = some (.int .u64 x) ∧ wr.frozen? ⟨S, k, none⟩ = false := by
  refine ⟨(cell_of_row _ _ _ _ _ _ h.row).trans ?_, frozen_of_row _ _ _ _ _ h.row⟩
  simp [hk]

theorem UInv.set {f z0 : Nat → Int} {S : Nat} {w wr : World} {k : Nat} {x : Int} (h : UInv f z0 S w wr k x) (y : Int) : UInv f z0 S w (wr.setCell ⟨S, k, none⟩ (.int .u64 y)) k y := by
  refine ⟨h.os, h.tape, h.output, by simp [World.setCell, h.size], fun i hi => by rw [heap_setCell_other _ _ _ _ hi]; exact h.other i hi, ?_⟩
  rw [heap_setCell_same _ _ _ _ _ _ h.row]
  congr 2
  apply Array.ext
  · simp
  · intro i h1 h2
    have hi : i < 4 := by simpa using h2
    rw [Array.getElem_setIfInBounds (by simpa using hi)]
    simp only [Array.getElem_ofFn]
    by_cases e : k = i
    · subst e; simp
    · rw [if_neg e]
      have e' : ¬ i = k := fun h => e h.symm
      simp [e']

theorem UInv.next {f z0 : Nat → Int} {S : Nat} {w wr : World} {k : Nat} {x : Int} (h : UInv f z0 S w wr k x) (hx : x = wd f k) : UInv f z0 S w wr (k + 1) (z0 (k + 1)) := by
  refine ⟨h.os, h.tape, h.output, h.size, h.other, ?_⟩
  rw [h.row]
  congr 2
  apply Array.ext
  · simp
  · intro i h1 h2
    simp only [Array.getElem_ofFn]
    subst hx
    by_cases a : i < k
    · rw [if_pos a, if_pos (by omega)]
    · rw [if_neg a]
      by_cases b : i = k
      · subst b; rw [if_pos rfl, if_pos (by omega)]
      · rw [if_neg b, if_neg (by omega)]
        by_cases c : i = k + 1
        · subst c; rw [if_pos rfl]
        · rw [if_neg c]

set_option maxHeartbeats 400000 in
theorem setUnreduced_any (f z0 : Nat → Int) (hf : IsBytes f) (S B : Nat) (w : World) (hSB : S ≠ B) (hS : w.heap[S]? = some (.cells #[.int .u64 (z0 0), .int .u64 (z0 1), .int .u64 (z0 2), .int .u64 (z0 3)] 38 (0, 0)))
    (hB : w.heap[B]? = some (.cells (brow (wd f) 32) 24 (0, 0))) :
    Calls Trym.prog 29 #[.pointer (some ⟨S, 0, none⟩), .slice (some ⟨B, 0, none⟩) 32 32] w fun e w' => e = .returned (.tuple #[]) ∧ UInv f z0 S w w' 4 (z0 4) := by
  have HF : Hid _ := hf; have HS : Hid _ := hS; have HB : Hid _ := hB
  clear hf hS hB
  go_enter Trym.func29, Trym.ntmps29
  go_wp2
  go_loopw [7] (fun i wr => ∃ k : Nat, k ≤ 4 ∧ i = .int .i64 k ∧ UInv f z0 S w wr k (z0 k)) (fun i _ => 4 - (intOf i).toNat)
  case atStart => exact ⟨0, by omega, rfl, rfl, rfl, rfl, rfl, fun _ _ => rfl, HS.out⟩
  case round =>
    obtain ⟨k, hk, rfl, hI⟩ := hrel
    have HI : Hid _ := hI
    by_cases hlt : k < 4
    · have hlt' : (k : Int) < 4 := by omega
      obtain ⟨hc, hfr⟩ := hI.at hlt
      clear hI
      go_wp2
      rw [show 32 - 8 * k - (32 - 8 * (k + 1)) = 8 by omega]
      go_loopw [24] (fun i wr => ∃ j : Nat, j ≤ 8 ∧ i = .int .i64 j ∧ UInv f z0 S w wr k (hs (fun u => f (8 * k + u)) j)) (fun i _ => 8 - (intOf i).toNat)
      case atStart => exact ⟨0, by omega, rfl, HI.out.set 0⟩
      case round =>
        clear hc hfr HI
        obtain ⟨j, hj, rfl, hI⟩ := hrel
        have HI : Hid _ := hI
        by_cases hjt : j < 8
        · have hjt' : (j : Int) < 8 := by omega
          obtain ⟨hc, hfr⟩ := hI.at hlt
          have hcb : wr.cell? ⟨B, 32 - 8 * (k + 1) + j, none⟩ = some (.int .u8 (f (8 * k + (7 - j)))) := by
            rw [hI.cell (p := ⟨B, 32 - 8 * (k + 1) + j, none⟩) (Ne.symm hSB), cell_of_row _ _ _ _ _ _ HB.out, brow_lb _ _ (by omega), lb_wd f HF.out, show 31 - (32 - 8 * (k + 1) + j) = 8 * k + (7 - j) by omega]
          have hge' : (0 : Int) ≤ k := by omega
          clear hI
          go_wp2
          go_region
          go_wp2
          go_roundw
          case rel =>
            refine ⟨j + 1, by omega, by go_num, ?_⟩
            rw [u64_wrap_id (f (8 * k + (7 - j))) (HF.out _).1 (by have := (HF.out (8 * k + (7 - j))).2; omega), hs_step (fun u => f (8 * k + u)) (fun u => HF.out _) j hjt]
            exact (HI.out.set _).drew
          case measure => simp [intOf]; omega
        · clear hI
          have ej : j = 8 := by omega
          subst ej
          have hjn : ¬ (8 : Int) < 8 := by omega
          go_wp2
          go_roundw
          case rel => exact ⟨k + 1, by omega, by go_num, HI.out.next (hs_wd f k)⟩
          case measure => simp [intOf]; omega
    · clear hI
      have ek : k = 4 := by omega
      subst ek
      go_wp2
      go_end0
      exact ⟨rfl, HI.out⟩
end Go.Proofs.Qxb6608765aMods
