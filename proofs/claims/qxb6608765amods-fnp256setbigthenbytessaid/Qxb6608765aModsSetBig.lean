import Derived.Test.Qxb6608765aModsBig
namespace Go.Proofs.Qxb6608765aMods
open Go.RowKit

set_option maxHeartbeats 400000 in
theorem setBig_no (f : Nat → Int) (hf : IsBytes f) (neg : Bool) (L X S : Nat) (w : World) (h : IntAt f neg L X w) (hL : L ≤ 1000000) (hno : (neg = true ∧ 0 < L) ∨ 4 < L) :
    Calls Trym.prog 18 #[.pointer (some ⟨S, 0, none⟩), .pointer (some ⟨X, 0, none⟩)] w fun e w' => e = .returned (.bool false) ∧ w' = w := by
  have H : Hid _ := h; have HF : Hid _ := hf
  clear h hf
  go_enter Trym.func18, Trym.ntmps18
  go_wp2_with fail
  refine (sign_any f neg L X w H.out hL).mono ?_
  rintro e w1 ⟨rfl, rfl⟩
  by_cases hs : signOf neg L < 0
  · go_wp2
    go_ret
    exact ⟨rfl, rfl⟩
  · have h4 : 4 < L := by
      rcases hno with ⟨rfl, hl⟩ | h
      · exfalso; apply hs; simp [signOf, show ¬ L = 0 by omega]
      · exact h
    clear hno
    go_wp2_with fail
    refine (intBitLen_any f HF.out neg L X _ H.out hL).mono ?_
    rintro e w1 ⟨r, rfl, hr, rfl⟩
    have hr' : 256 < r := by omega
    clear hr
    go_wp2
    go_ret
    exact ⟨rfl, rfl⟩

theorem ofFn4 (f z0 : Nat → Int) (x : Int) : (Array.ofFn (n := 4) fun i => (.int .u64 (if i.val < 4 then wd f i else if i.val = 4 then x else z0 i) : Value)) = #[.int .u64 (wd f 0), .int .u64 (wd f 1), .int .u64 (wd f 2), .int .u64 (wd f 3)] := by
  apply Array.ext
  · simp
  · intro i h1 h2
    have hi : i < 4 := by simpa using h2
    simp only [Array.getElem_ofFn, if_pos hi]
    match i, hi with
    | 0, _ => rfl
    | 1, _ => rfl
    | 2, _ => rfl
    | 3, _ => rfl

theorem brow_pad (f : Nat → Int) (L : Nat) (hz : ∀ i, L ≤ i → wd f i = 0) : brow (wd f) (8 * L) = brow (wd f) 32 := by
  apply Array.ext
  · simp [brow]
  · intro i h1 h2
    have hi : i < 32 := by simpa [brow] using h2
    simp only [brow, Array.getElem_ofFn, bv]
    rw [if_pos (show 31 - i < 32 by omega)]
    by_cases e : 31 - i < 8 * L
    · rw [if_pos e]
    · rw [if_neg e]
      have : wd f ((31 - i) / 8) = 0 := hz _ (by omega)
      simp [lb, this]

set_option maxHeartbeats 400000 in
theorem setBig_yes (f z0 : Nat → Int) (hf : IsBytes f) (neg : Bool) (L X S : Nat) (w : World) (h : IntAt f neg L X w) (hL : L ≤ 4) (hyes : ¬ (neg = true ∧ 0 < L)) (hS : S + 1 = w.heap.size) (hXS : X < S)
    (hrow : w.heap[S]? = some (.cells #[.int .u64 (z0 0), .int .u64 (z0 1), .int .u64 (z0 2), .int .u64 (z0 3)] 38 (0, 0))) :
    Calls Trym.prog 18 #[.pointer (some ⟨S, 0, none⟩), .pointer (some ⟨X, 0, none⟩)] w fun e w' => e = .returned (.bool true) ∧ Below S w w' ∧ w'.heap[S]? = some (.cells #[.int .u64 (wd f 0), .int .u64 (wd f 1), .int .u64 (wd f 2), .int .u64 (wd f 3)] 38 (0, 0)) := by
  have H : Hid _ := h; have HF : Hid _ := hf; have HR : Hid _ := hrow
  clear h hf hrow
  have hs : ¬ signOf neg L < 0 := by
    unfold signOf
    by_cases hl : L = 0
    · simp [hl]
    · cases neg with
      | true => exact absurd ⟨rfl, by omega⟩ hyes
      | false => simp [hl]
  clear hyes
  go_enter Trym.func18, Trym.ntmps18
  go_wp2_with fail
  refine (sign_any f neg L X w H.out (by omega)).mono ?_
  rintro e w1 ⟨rfl, rfl⟩
  go_wp2_with fail
  refine (intBitLen_any f HF.out neg L X _ H.out (by omega)).mono ?_
  rintro e w1 ⟨r, rfl, hr, rfl⟩
  have hr' : ¬ 256 < r := by omega
  clear hr
  go_wp2_with fail
  clear hs hr'
  obtain ⟨a, cap, _, c1, _, hc⟩ := H.out.two
  refine (fillBytes_any (wd f) a X L cap w1.heap.size _ hL (fun i _ => wd_bd f HF.out i) (fun hl => ?_) (by rw [brow_zero]; exact heap_new_at rfl) ?_).mono ?_
  · obtain ⟨G, e, hG, hcw⟩ := hc hl
    have hGl : G < w1.heap.size := World.block_lt_of_cell? w1 ⟨G, 0, none⟩ (hcw 0 hl)
    exact ⟨G, e, by omega, fun i hi => (World.cell?_alloc_lt _ _ _ hGl).trans (hcw i hi)⟩
  · exact (World.cell?_alloc_lt _ _ _ (show X < w1.heap.size by omega)).trans c1
  rintro e w2 ⟨rfl, hI⟩
  have hrowB : w2.heap[w1.heap.size]? = some (.cells (brow (wd f) 32) 24 (0, 0)) := by rw [hI.row, brow_pad f L H.out.past]
  have hrowS : w2.heap[S]? = some (.cells #[.int .u64 (z0 0), .int .u64 (z0 1), .int .u64 (z0 2), .int .u64 (z0 3)] 38 (0, 0)) :=
    (hI.other S (by omega)).trans (heap_old_at (by omega) HR.out)
  have hB2 : Below S w1 w2 := ((Below.refl S w1).alloc (by omega) _).trans ⟨hI.os, hI.tape, hI.output, by rw [hI.size]; exact Nat.le_refl _, fun k hk => hI.other k (by omega)⟩
  have HRB : Hid _ := hrowB; have HRS : Hid _ := hrowS; have HB2 : Hid _ := hB2
  clear hI hrowB hrowS hB2 hc c1
  go_wp2_with fail
  refine (setUnreduced_any f z0 HF.out S w1.heap.size w2 (by omega) HRS.out HRB.out).mono ?_
  rintro e w3 ⟨rfl, hU⟩
  have HU : Hid _ := hU; clear hU
  go_wp2
  go_ret
  refine ⟨rfl, HB2.out.trans ⟨HU.out.os, HU.out.tape, HU.out.output, by rw [HU.out.size]; exact Nat.le_refl _, fun k hk => HU.out.other k (by omega)⟩, ?_⟩
  rw [HU.out.row, ofFn4]
end Go.Proofs.Qxb6608765aMods
