import Derived.Test.Qxb6608765aModsMake
import Derived.Test.Qxb6608765aModsPlain2
namespace Go.Proofs.Qxb6608765aMods
open Go.RowKit

/-- The words' row while it is filled: the first k are f's words, the rest nought. -/
structure WInv (f : Nat → Int) (w wr : World) (cap k : Nat) : Prop where
  below : Below w.heap.size w wr
  row : ∃ C : Array Value, wr.heap[w.heap.size]? = some (.cells C 54 (0, 0)) ∧ C.size = cap ∧ (∀ i, i < k → C[i]? = some (.int .u64 (wd f i))) ∧ ∀ i, k ≤ i → i < cap → C[i]? = some (.int .u64 0)

theorem or_step (D c : Int) (t : Nat) (ht : t < 8) (h0 : 0 ≤ D) (h1 : D < 256 ^ t) (c0 : 0 ≤ c) (c1 : c ≤ 255) : bits BinOp.or IntKind.u64 D (IntKind.u64.wrap (c * 2 ^ (8 * t))) = D + c * 256 ^ t := by
  have go : ∀ (P : Int) (i : Nat), P = 2 ^ i → i ≤ 56 → (256 : Int) ^ t = P → (2 : Int) ^ (8 * t) = P → 256 * P ≤ 18446744073709551616 → bits BinOp.or IntKind.u64 D (IntKind.u64.wrap (c * 2 ^ (8 * t))) = D + c * 256 ^ t := by
    intro P i e hi e1 e2 hb
    rw [e1] at h1
    rw [e1, e2]
    have hP : 0 < P := by rw [e]; exact Int.pow_pos (by decide)
    have h2 : 0 ≤ c * P := Int.mul_nonneg c0 (Int.le_of_lt hP)
    have h3 : c * P ≤ 255 * P := Int.mul_le_mul_of_nonneg_right c1 (Int.le_of_lt hP)
    rw [u64_wrap_id _ h2 (by omega)]
    exact bits_join_low .u64 64 (by decide) wraps_u64 i D (c * P) h0 (by omega) (by omega) h2 (by rw [e, Int.mul_comm]; exact Int.mul_emod_right _ _) (by omega)
  match t, ht, go with
  | 0, _, go => exact go 1 0 rfl (by omega) rfl rfl (by omega)
  | 1, _, go => exact go 256 8 rfl (by omega) rfl rfl (by omega)
  | 2, _, go => exact go 65536 16 rfl (by omega) rfl rfl (by omega)
  | 3, _, go => exact go 16777216 24 rfl (by omega) rfl rfl (by omega)
  | 4, _, go => exact go 4294967296 32 rfl (by omega) rfl rfl (by omega)
  | 5, _, go => exact go 1099511627776 40 rfl (by omega) rfl rfl (by omega)
  | 6, _, go => exact go 281474976710656 48 rfl (by omega) rfl rfl (by omega)
  | 7, _, go => exact go 72057594037927936 56 rfl (by omega) rfl rfl (by omega)

theorem beWord_wd (f : Nat → Int) (hf : IsBytes f) (q b off cap : Nat) (w : World) (h : ∀ r, r < 8 → w.cell? ⟨b, off + r, none⟩ = some (.int .u8 (f (8 * q + (7 - r))))) :
    Calls Trym.prog 32 #[.slice (some ⟨b, off, none⟩) 8 cap] w fun e w' => e = .returned (.int .u64 (wd f q)) ∧ ∃ k, w' = w.drewN k := by
  rw [wd_eq]
  exact beWord_any b off cap (f (8 * q + 7)) (f (8 * q + 6)) (f (8 * q + 5)) (f (8 * q + 4)) (f (8 * q + 3)) (f (8 * q + 2)) (f (8 * q + 1)) (f (8 * q)) w (hf _) (hf _) (hf _) (hf _) (hf _) (hf _) (hf _) (hf _)
    (h 0 (by omega)) (h 1 (by omega)) (h 2 (by omega)) (h 3 (by omega)) (h 4 (by omega)) (h 5 (by omega)) (h 6 (by omega)) (h 7 (by omega))

theorem WInv.drewN {f : Nat → Int} {w wr : World} {cap k : Nat} (h : WInv f w wr cap k) (n : Nat) : WInv f w (wr.drewN n) cap k := ⟨drewN_below h.below n, h.row⟩

theorem WInv.set {f : Nat → Int} {w wr : World} {cap k : Nat} (h : WInv f w wr cap k) (hk : k < cap) : WInv f w (wr.setCell ⟨w.heap.size, k, none⟩ (.int .u64 (wd f k))) cap (k + 1) := by
  obtain ⟨C, hC, hs, hlo, hhi⟩ := h.row
  refine ⟨h.below.setCell (Nat.le_refl _) _, _, heap_setCell_same _ _ _ _ _ _ hC, by simp [hs], fun i hi => ?_, fun i h1 h2 => ?_⟩
  · by_cases e : k = i
    · subst e; rw [Array.getElem?_setIfInBounds_self_of_lt (by omega)]
    · rw [Array.getElem?_setIfInBounds_ne e]; exact hlo i (by omega)
  · rw [Array.getElem?_setIfInBounds_ne (by omega)]; exact hhi i (by omega) h2

theorem WInv.cellAt {f : Nat → Int} {w wr : World} {cap k : Nat} (h : WInv f w wr cap k) (i : Nat) (hi : i < cap) : ∃ x, wr.cell? ⟨w.heap.size, i, none⟩ = some (.int .u64 x) ∧ wr.frozen? ⟨w.heap.size, i, none⟩ = false ∧ (i < k → x = wd f i) := by
  obtain ⟨C, hC, hs, hlo, hhi⟩ := h.row
  by_cases e : i < k
  · exact ⟨wd f i, (cell_of_row _ _ _ _ _ _ hC).trans (hlo i e), frozen_of_row _ _ _ _ _ hC, fun _ => rfl⟩
  · exact ⟨0, (cell_of_row _ _ _ _ _ _ hC).trans (hhi i (by omega) hi), frozen_of_row _ _ _ _ _ hC, fun h => absurd h e⟩

theorem setBytes_end {f : Nat → Int} {w wr : World} {cap m n L : Nat} (h : WInv f w wr cap m) (hn : L ≤ (n + 7) / 8) (hc : L ≤ cap) (hL : L ≤ m) (hz : ∀ i, L ≤ i → i < m → wd f i = 0) (hnz : ∀ k, L = k + 1 → wd f k ≠ 0) (hz2 : ∀ i, m ≤ i → wd f i = 0) :
    ∃ L' cap' : Nat, Ending.returned (.slice (some ⟨w.heap.size, 0, none⟩) L cap) = Ending.returned (.slice (some ⟨w.heap.size, 0, none⟩) L' cap') ∧ L' ≤ cap' ∧ L' ≤ (n + 7) / 8 ∧ (∀ i, L' ≤ i → wd f i = 0) ∧ (∀ k, L' = k + 1 → wd f k ≠ 0) ∧ (∀ i, i < L' → wr.cell? ⟨w.heap.size, i, none⟩ = some (.int .u64 (wd f i))) ∧ Below w.heap.size w wr ∧ w.heap.size < wr.heap.size := by
  refine ⟨L, cap, rfl, hc, hn, fun i hi => ?_, hnz, fun i hi => ?_, h.below, ?_⟩
  · by_cases e : i < m
    · exact hz i hi e
    · exact hz2 i (by omega)
  · obtain ⟨x, hx, _, e⟩ := h.cellAt i (by omega)
    rw [hx, e (by omega)]
  · obtain ⟨C, hC, _⟩ := h.row
    exact (Array.getElem?_eq_some_iff.1 hC).1

set_option maxHeartbeats 400000 in
theorem setBytes_any (f : Nat → Int) (n b off cp : Nat) (w : World) (hf : IsBytes f) (hfz : ∀ p, n ≤ p → f p = 0) (hn : 1 ≤ n) (hn1 : n ≤ 1048576) (hcp : n ≤ cp) (hb : b < w.heap.size)
    (hcell : ∀ q, q < n → w.cell? ⟨b, off + q, none⟩ = some (.int .u8 (f (n - 1 - q)))) :
    Calls Trym.prog 25 #[.slice none 0 0, .slice (some ⟨b, off, none⟩) n cp] w fun e w' => ∃ L cap : Nat, e = .returned (.slice (some ⟨w.heap.size, 0, none⟩) L cap) ∧ L ≤ cap ∧ L ≤ (n + 7) / 8 ∧ (∀ i, L ≤ i → wd f i = 0) ∧ (∀ k, L = k + 1 → wd f k ≠ 0) ∧ (∀ i, i < L → w'.cell? ⟨w.heap.size, i, none⟩ = some (.int .u64 (wd f i))) ∧ Below w.heap.size w w' ∧ w.heap.size < w'.heap.size := by
  have HF : Hid _ := hf; have HFZ : Hid _ := hfz; have HC : Hid _ := hcell
  clear hf hfz hcell
  have hq0 : (0 : Int) ≤ (n : Int) + 7 := by omega
  go_enter Trym.func25, Trym.ntmps25
  go_wp2_with fail
  obtain ⟨m, hm⟩ : ∃ m, m = (n + 7) / 8 := ⟨_, rfl⟩
  have em : ((n : Int) + 8 - 1) / 8 = (m : Int) := by omega
  rw [em]
  clear em hq0
  refine (make_any m w (by omega) (by omega)).mono ?_
  rintro e w1 ⟨cap, rfl, hc1, hc2, hw1⟩
  have H1 : Hid (WInv f w w1 cap 0) := ⟨by rw [hw1]; exact (Below.refl _ _).alloc (Nat.le_refl _) _, _, by rw [hw1]; exact heap_new_at rfl, size_madeCells _ _, fun i h => by omega, fun i _ h => madeCells_get _ _ _ h⟩
  clear hw1
  have HM : Hid _ := hm; clear hm
  go_wp2
  go_loopw [5, 6] (fun i k wr => ∃ j q : Nat, j + 8 * q = n ∧ i = .int .i64 j ∧ k = .int .i64 q ∧ WInv f w wr cap q) (fun i _ _ => (intOf i).toNat)
  case atStart => exact ⟨n, 0, by omega, rfl, rfl, H1.out⟩
  case round =>
    clear H1
    obtain ⟨j, q, hjq, rfl, rfl, hI⟩ := hrel
    have HI : Hid _ := hI
    by_cases h8 : 8 ≤ j
    · obtain ⟨j, rfl⟩ : ∃ i, j = i + 8 := ⟨j - 8, by omega⟩
      have hqm : (q : Int) < (m : Int) := by have := HM.out; omega
      have hqc : q < cap := by have := HM.out; omega
      have b0 : (j : Int) + 8 ≤ (n : Int) := by omega
      have cellq : ∀ r, r < 8 → wr.cell? ⟨b, off + j + r, none⟩ = some (.int .u8 (f (8 * q + (7 - r)))) := fun r hr => by
        rw [hI.below.cell hb, show off + j + r = off + (j + r) by omega, HC.out (j + r) (by omega), show n - 1 - (j + r) = 8 * q + (7 - r) by omega]
      obtain ⟨x0, hz0, hzf, _⟩ := hI.cellAt q hqc
      have HQ : Hid _ := cellq
      clear hI cellq
      go_wp2_with fail
      refine (beWord_wd f HF.out q _ _ _ _ HQ.out).mono ?_
      rintro e w2 ⟨rfl, kk, rfl⟩
      clear HQ
      go_wp2
      go_roundw
      case rel => exact ⟨j, q + 1, by omega, by go_num, by go_num, (HI.out.set hqc).drewN _⟩
      case measure => simp [intOf]; omega
    · clear hI
      have h8' : ¬ (8 : Int) ≤ (j : Int) := by omega
      by_cases hj0 : j = 0
      · subst hj0
        have eqm : q = m := by have := HM.out; omega
        subst eqm
        go_wp2_with fail
        refine (norm_any (wd f) w.heap.size q cap wr (by omega) hc1 (fun i hi => by
          obtain ⟨x, hx, _, e⟩ := HI.out.cellAt i (by omega)
          rw [hx, e hi])).mono ?_
        rintro e w5 ⟨L, rfl, hL, hz, hnz, rfl⟩
        have HZ : Hid _ := hz; have HNZ : Hid _ := hnz; clear hz hnz
        go_wp2
        go_ret
        exact setBytes_end HI.out (by rw [← HM.out]; exact hL) (Nat.le_trans hL hc1) hL HZ.out HNZ.out (fun i hi => wd_zero f i (fun p hp => HFZ.out p (by omega)))
      · have hj0' : (0 : Int) < j := by omega
        have hj1 : 0 < j := by omega
        go_wp2
        go_loop [5, 7, 8] (fun i d s => ∃ r t : Nat, r + t = j ∧ i = .int .i64 r ∧ d = .int .u64 (ps (fun u => f (8 * q + u)) t) ∧ s = .int .u64 ((8 : Int) * t)) (fun i _ _ => (intOf i).toNat)
        case atStart => exact ⟨j, 0, by omega, rfl, rfl, rfl⟩
        case round =>
          obtain ⟨r, t, hrt, rfl, rfl, rfl⟩ := hrel
          match r, hrt with
          | 0, hrt =>
            have et : t = j := by omega
            subst et
            obtain rfl : m = q + 1 := by have := HM.out; omega
            obtain ⟨x0, hz0, hzf, _⟩ := HI.out.cellAt q (by omega)
            have ew : ps (fun u => f (8 * q + u)) t = wd f q := by
              have := ps_pad (fun u => f (8 * q + u)) t (fun u hu => HFZ.out _ (by omega)) (8 - t)
              rw [show t + (8 - t) = 8 by omega] at this
              exact this.symm
            rw [ew]
            clear ew
            go_wp2_with fail
            have HI2 : Hid _ := HI.out.set (k := q) (by omega)
            refine (norm_any (wd f) w.heap.size (q + 1) cap _ (by omega) hc1 (fun i hi => by
              obtain ⟨x, hx, _, e⟩ := HI2.out.cellAt i (by omega)
              rw [hx, e hi])).mono ?_
            rintro e w5 ⟨L, rfl, hL, hz, hnz, rfl⟩
            have HZ : Hid _ := hz; have HNZ : Hid _ := hnz; clear hz hnz
            go_wp2
            go_ret
            exact setBytes_end HI2.out (by rw [← HM.out]; exact hL) (Nat.le_trans hL hc1) hL HZ.out HNZ.out (fun i hi => wd_zero f i (fun p hp => HFZ.out p (by omega)))
          | r + 1, hrt =>
            have hcb : wr.cell? ⟨b, off + r, none⟩ = some (.int .u8 (f (8 * q + t))) := by
              rw [HI.out.below.cell hb, HC.out r (by omega), show n - 1 - r = 8 * q + t by omega]
            have hfb := HF.out (8 * q + t)
            have hrn : (r : Int) < n := by omega
            have ht8 : (t : Int) < 8 := by omega
            go_wp2
            go_round
            case rel =>
              refine ⟨r, t + 1, by omega, rfl, ?_, by go_num⟩
              rw [or_step _ _ t (by omega) (ps_bd _ (fun u => HF.out _) t).1 (ps_bd _ (fun u => HF.out _) t).2 hfb.1 hfb.2]
              rfl
            case measure => simp [intOf]
end Go.Proofs.Qxb6608765aMods
