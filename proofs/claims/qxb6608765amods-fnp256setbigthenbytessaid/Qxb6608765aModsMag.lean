import Derived.Test.Qxb6608765aModsIdent
import Derived.Laws.CopyOwn
namespace Go.Proofs.Qxb6608765aMods
open Go.RowKit

set_option maxHeartbeats 400000 in
theorem guard_any (v : Array Value) (neg : Bool) (a : Option Addr) (n cp : Nat) (w : World) (hn : n ≤ 9223372036854775807) :
    Calls Trym.prog 10 #[.agg v, .bool neg, .slice a n cp] w fun e w' => e = .returned (.bool (decide (n ≤ 1048576))) ∧ Below w.heap.size w w' := by
  by_cases h : n ≤ 1048576
  · have h' : ¬ (1048576 : Int) < n := by omega
    go_enter Trym.func10, Trym.ntmps10
    go_wp2
    go_ret
    exact ⟨by simp, (Below.refl _ _).alloc (Nat.le_refl _) _⟩
  · have h' : (1048576 : Int) < n := by omega
    go_enter Trym.func10, Trym.ntmps10
    go_wp2
    go_ret
    exact ⟨by simp [h], (Below.refl _ _).alloc (Nat.le_refl _) _⟩

theorem BytesAt.cell {f : Nat → Int} {w : World} {a : Option Addr} {n cp : Nat} (h : BytesAt f w a n cp) (i : Nat) (hi : i < n) : ∃ b off, a = some ⟨b, off, none⟩ ∧ w.cell? ⟨b, off + i, none⟩ = some (.int .u8 (f (n - 1 - i))) := by
  obtain ⟨b, off, e, _, _, hc⟩ := h.cells (by omega)
  exact ⟨b, off, e, hc i hi⟩

/-- Is one of the first k bytes (from the head) not nought? -/
def nzB (f : Nat → Int) (n : Nat) : Nat → Bool
  | 0 => false
  | k + 1 => nzB f n k || f (n - 1 - k) != 0
/-- Is every one of the first k bytes of weight 256^32 or more nought? -/
def ftB (f : Nat → Int) (n : Nat) : Nat → Bool
  | 0 => true
  | k + 1 => ftB f n k && !(f (n - 1 - k) != 0 && decide (32 ≤ n - 1 - k))

theorem nzB_iff (f : Nat → Int) (n : Nat) (hp : ∀ p, n ≤ p → f p = 0) : ∀ k, k ≤ n → (nzB f n k = true ↔ ∃ p, n - k ≤ p ∧ f p ≠ 0)
  | 0, _ => ⟨fun h => absurd h Bool.false_ne_true, fun ⟨p, h1, h⟩ => absurd (hp p (by omega)) h⟩
  | k + 1, hk => by
    have ih := nzB_iff f n hp k (by omega)
    show (nzB f n k || f (n - 1 - k) != 0) = true ↔ _
    rw [Bool.or_eq_true, ih]
    constructor
    · rintro (⟨p, h1, h2⟩ | h)
      · exact ⟨p, by omega, h2⟩
      · exact ⟨n - 1 - k, by omega, by simpa using h⟩
    · rintro ⟨p, h1, h2⟩
      by_cases e : p = n - 1 - k
      · subst e; exact Or.inr (by simpa using h2)
      · exact Or.inl ⟨p, by omega, h2⟩
theorem ftB_iff (f : Nat → Int) (n : Nat) (hp : ∀ p, n ≤ p → f p = 0) : ∀ k, k ≤ n → (ftB f n k = true ↔ ∀ p, n - k ≤ p → 32 ≤ p → f p = 0)
  | 0, _ => ⟨fun _ p h1 _ => hp p (by omega), fun _ => rfl⟩
  | k + 1, hk => by
    have ih := ftB_iff f n hp k (by omega)
    show (ftB f n k && !(f (n - 1 - k) != 0 && decide (32 ≤ n - 1 - k))) = true ↔ _
    rw [Bool.and_eq_true, ih]
    constructor
    · rintro ⟨h1, h2⟩ p h3 h4
      by_cases e : p = n - 1 - k
      · subst e
        simp only [h4, decide_true, Bool.and_true, Bool.not_eq_true', bne_eq_false_iff_eq] at h2
        exact h2
      · exact h1 p (by omega) h4
    · intro h
      refine ⟨fun p h1 h2 => h p (by omega) h2, ?_⟩
      by_cases e : 32 ≤ n - 1 - k
      · simp [h _ (by omega) e]
      · simp [e]

set_option maxHeartbeats 400000 in
theorem magnitude_any (f : Nat → Int) (a : Option Addr) (n cp : Nat) (w : World) (hf : BytesAt f w a n cp) :
    Calls Trym.prog 11 #[.slice a n cp] w fun e w' => e = .returned (.tuple #[.bool (nzB f n n), .bool (ftB f n n)]) ∧ w' = w := by
  have HF : Hid _ := hf
  have hn := hf.short
  clear hf
  go_enter Trym.func11, Trym.ntmps11
  go_wp2
  go_loop [4, 5, 6] (fun z t i => ∃ k : Nat, k ≤ n ∧ z = .bool (nzB f n k) ∧ t = .bool (ftB f n k) ∧ i = .int .i64 k) (fun _ _ i => n - (intOf i).toNat)
  case atStart => exact ⟨0, by omega, rfl, rfl, rfl⟩
  case round =>
    obtain ⟨k, hk, rfl, rfl, rfl⟩ := hrel
    by_cases hlt : k < n
    · have hlt' : (k : Int) < n := by omega
      obtain ⟨b, off, rfl, hc⟩ := HF.out.cell k hlt
      have e1 : nzB f n (k + 1) = (nzB f n k || f (n - 1 - k) != 0) := rfl
      have e2 : ftB f n (k + 1) = (ftB f n k && !(f (n - 1 - k) != 0 && decide (32 ≤ n - 1 - k))) := rfl
      have E1 : Hid _ := e1; have E2 : Hid _ := e2
      clear e1 e2
      by_cases h0 : f (n - 1 - k) = 0
      · rw [h0] at hc
        have H0 : Hid _ := h0; clear h0
        go_wp2
        go_round
        case rel => exact ⟨k + 1, by omega, by rw [E1.out, H0.out]; simp, by rw [E2.out, H0.out]; simp, by go_num⟩
        case measure => simp [intOf]; omega
      · have hb : (f (n - 1 - k) != 0) = true := by simpa using h0
        clear h0
        by_cases h32 : 32 ≤ n - 1 - k
        · have h32' : (32 : Int) ≤ (n : Int) - 1 - k := by omega
          go_wp2
          go_round
          case rel => exact ⟨k + 1, by omega, by rw [E1.out, hb]; simp, by rw [E2.out, hb]; simp [h32], by go_num⟩
          case measure => simp [intOf]; omega
        · have h32' : ¬ (32 : Int) ≤ (n : Int) - 1 - k := by omega
          go_wp2
          go_round
          case rel => exact ⟨k + 1, by omega, by rw [E1.out, hb]; simp, by rw [E2.out, hb]; simp [h32], by go_num⟩
          case measure => simp [intOf]; omega
    · have ek : k = n := by omega
      subst ek
      have hnn : ¬ (k : Int) < k := by omega
      go_wp2
      go_ret2
      exact ⟨rfl, rfl⟩

theorem BInv.stepB {z : Nat → Int} {w wr : World} {m : Nat} (h : BInv z w wr m) (hm : m < 32) : BInv z w (wr.setCell ⟨w.heap.size + 1, 31 - m, none⟩ (.int .u8 (lb z m))) (m + 1) := by
  have e : m = 8 * (m / 8) + m % 8 := by omega
  have hk : m / 8 < 4 := by omega
  have hj : m % 8 < 8 := by omega
  generalize m / 8 = k at e hk
  generalize m % 8 = j at e hj
  subst e
  have := h.step hk hj
  rw [lb_at z k j hj, show 31 - (8 * k + j) = 31 - 8 * k - j by omega, Nat.add_assoc]
  exact this

theorem brow_pad8 (f : Nat → Int) (hf : IsBytes f) (k : Nat) (hz : ∀ p, k ≤ p → p < 32 → f p = 0) : brow (wd f) k = brow (wd f) 32 := by
  apply Array.ext
  · simp [brow]
  · intro i h1 h2
    have hi : i < 32 := by simpa [brow] using h2
    simp only [brow, Array.getElem_ofFn, bv]
    rw [if_pos (show 31 - i < 32 by omega)]
    by_cases e : 31 - i < k
    · rw [if_pos e]
    · rw [if_neg e, lb_wd f hf, hz _ (by omega) (by omega)]

set_option maxHeartbeats 400000 in
theorem rightAligned_any (f : Nat → Int) (a : Option Addr) (n cp : Nat) (w : World) (hf : BytesAt f w a n cp) :
    Calls Trym.prog 13 #[.slice a n cp] w fun e w' => e = .returned (.agg (brow (wd f) 32)) ∧ Below w.heap.size w w' := by
  have HF : Hid _ := hf
  have hn := hf.short
  clear hf
  go_enter Trym.func13, Trym.ntmps13
  go_wp2
  go_loopw [4] (fun i wr => ∃ k : Nat, k ≤ n ∧ k ≤ 32 ∧ i = .int .i64 k ∧ BInv (wd f) w wr k) (fun i _ => 32 - (intOf i).toNat)
  case atStart => exact ⟨0, by omega, by omega, rfl, by have := BInv.start (wd f) w; rw [brow_zero] at this; exact this⟩
  case round =>
    obtain ⟨k, hk, hk2, rfl, hI⟩ := hrel
    have HI : Hid _ := hI
    by_cases hlt : k < n ∧ k < 32
    · obtain ⟨hlt, hl2⟩ := hlt
      have hlt' : (k : Int) < n := by omega
      have hl2' : (k : Int) < 32 := by omega
      obtain ⟨b, off, rfl, hbw, _, hcs⟩ := HF.out.cells (by omega)
      have hc : wr.cell? ⟨b, off + (n - 1 - k), none⟩ = some (.int .u8 (f k)) := by
        rw [hI.below.cell (p := ⟨b, off + (n - 1 - k), none⟩) hbw, hcs (n - 1 - k) (by omega), show n - 1 - (n - 1 - k) = k by omega]
      have hcell : wr.cell? ⟨w.heap.size + 1, 31 - k, none⟩ = some (.int .u8 (bv (wd f) k (31 - k))) := by
        rw [cell_of_row _ _ _ _ _ _ hI.row, brow_get _ _ _ (by omega)]
      have hfr : wr.frozen? ⟨w.heap.size + 1, 31 - k, none⟩ = false := frozen_of_row _ _ _ _ _ hI.row
      clear hI hcs
      go_wp2
      go_roundw
      case rel => exact ⟨k + 1, by omega, by omega, by go_num, by have h := HI.out.stepB (by omega); rw [lb_wd f HF.out.isb] at h; exact h⟩
      case measure => simp [intOf]; omega
    · have hrow := hI.row
      have hres := hI.res
      have HR : Hid _ := hrow; have HS : Hid _ := hres
      have hpad : brow (wd f) k = brow (wd f) 32 := brow_pad8 f HF.out.isb k (fun p hp h32 => HF.out.past p (by omega))
      have HP : Hid _ := hpad
      clear hI hrow hres hpad
      by_cases hkn : k < n
      · have hkn' : (k : Int) < n := by omega
        have e32 : k = 32 := by omega
        subst e32
        go_wp2_with (first
          | ((with_reducible show wpList _ _ _ (_ :: _) _ _); refine wpList_load_row rfl 24 (.tmp 3) rfl (w.heap.size + 1) rfl 24 (brow (wd f) 32) (0, 0) _ HR.out Trym.underlying24 rfl (by rw [brow_size]; kernel_rfl) ?_)
          | ((with_reducible show wpList _ _ _ (_ :: _) _ _); refine wpList_store_row rfl 24 (.tmp 2) (.tmp 26) rfl w.heap.size (brow (wd f) 32) rfl rfl 24 (brow (wd f) 0) HS.out (by rw [brow_size]; kernel_rfl) (by rw [brow_size, brow_size]) (brow_one _ _) ?_))
        refine bodyPost_ret (v := .agg (brow (wd f) 32)) (results_cell_row Trym.results13 _ _ w.heap.size 24 (brow (wd f) 32) (0, 0) _ rfl (setRow_heap _ _ _ _ _ _ HS.out) Trym.underlying24 rfl (by rw [brow_size]; kernel_rfl)) rfl ⟨rfl, ?_⟩
        exact below_setRow HI.out.below (Nat.le_refl _) _
      · have hkn' : ¬ (k : Int) < n := by omega
        go_wp2_with (first
          | ((with_reducible show wpList _ _ _ (_ :: _) _ _); refine wpList_load_row rfl 24 (.tmp 3) rfl (w.heap.size + 1) rfl 24 (brow (wd f) k) (0, 0) _ HR.out Trym.underlying24 rfl (by rw [brow_size]; kernel_rfl) ?_)
          | ((with_reducible show wpList _ _ _ (_ :: _) _ _); refine wpList_store_row rfl 24 (.tmp 2) (.tmp 26) rfl w.heap.size (brow (wd f) k) rfl rfl 24 (brow (wd f) 0) HS.out (by rw [brow_size]; kernel_rfl) (by rw [brow_size, brow_size]) (brow_one _ _) ?_))
        refine bodyPost_ret (v := .agg (brow (wd f) k)) (results_cell_row Trym.results13 _ _ w.heap.size 24 (brow (wd f) k) (0, 0) _ rfl (setRow_heap _ _ _ _ _ _ HS.out) Trym.underlying24 rfl (by rw [brow_size]; kernel_rfl)) rfl ⟨by rw [HP.out], ?_⟩
        exact below_setRow HI.out.below (Nat.le_refl _) _
end Go.Proofs.Qxb6608765aMods
