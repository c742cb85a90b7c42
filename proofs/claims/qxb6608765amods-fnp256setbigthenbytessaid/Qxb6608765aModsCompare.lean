/-
  zzCompareBytesB1 and zzCompareLimbsB1, walked.
-/
import Derived.Test.Qxb6608765aModsBytes
namespace Go.Proofs.Qxb6608765aMods
open Go.RowKit

theorem brow_lb (z : Nat → Int) (q : Nat) (h : q < 32) : (brow z 32)[q]? = some (.int .u8 (lb z (31 - q))) := by
  rw [brow_get z 32 q h, bv, if_pos (by omega)]

theorem ret_int {k : IntKind} {a b : Int} (h : a = b) : Ending.returned (.int k a) = .returned (.int k b) := by rw [h]

structure TwoRows (w wr : World) (A B : Array Value) (t : TypeId) : Prop where
  below : Below w.heap.size w wr
  one : wr.heap[w.heap.size]? = some (.cells A t (0, 0))
  two : wr.heap[w.heap.size + 1]? = some (.cells B t (0, 0))

theorem TwoRows.drewN {w wr : World} {A B : Array Value} {t : TypeId} (h : TwoRows w wr A B t) (n : Nat) : TwoRows w (wr.drewN n) A B t :=
  ⟨drewN_below h.below n, h.one, h.two⟩

theorem TwoRows.start (w : World) (A B : Array Value) (t : TypeId) : TwoRows w ((w.alloc (.cells A t)).alloc (.cells B t)) A B t :=
  ⟨((Below.refl _ _).alloc (Nat.le_refl _) _).alloc (by simp) _, heap_alloc2_old _ _ _, heap_alloc2_new _ _ _⟩

set_option maxHeartbeats 400000 in
theorem cmpBytes_any (x y : Nat → Int) (w : World) :
    Calls Trym.prog 8 #[.agg (brow x 32), .agg (brow y 32)] w fun e w' => e = .returned (.int .i64 (cmpDown (lb x) (lb y) 32)) ∧ Below w.heap.size w w' := by
  go_enter Trym.func8, Trym.ntmps8
  go_wp2
  go_loopw [5] (fun i wr => ∃ k : Nat, k ≤ 32 ∧ i = .int .i64 k ∧ TwoRows w wr (brow x 32) (brow y 32) 24 ∧ cmpDown (lb x) (lb y) 32 = cmpDown (lb x) (lb y) (32 - k)) (fun i _ => 32 - (intOf i).toNat)
  case atStart => exact ⟨0, by omega, rfl, TwoRows.start _ _ _ _, rfl⟩
  case round =>
    obtain ⟨k, hk, rfl, hI, hE⟩ := hrel
    have HI : Hid _ := hI
    have HE : Hid _ := hE
    clear hE
    by_cases hlt : k < 32
    · have hlt' : (k : Int) < 32 := by omega
      have hc1 : wr.cell? ⟨w.heap.size, k, none⟩ = some (.int .u8 (lb x (31 - k))) := (cell_of_row _ _ _ _ _ _ hI.one).trans (brow_lb x k hlt)
      have hc2 : wr.cell? ⟨w.heap.size + 1, k, none⟩ = some (.int .u8 (lb y (31 - k))) := (cell_of_row _ _ _ _ _ _ hI.two).trans (brow_lb y k hlt)
      clear hI
      by_cases h1 : lb x (31 - k) < lb y (31 - k)
      · go_wp2
        go_quiet (fail)
        go_wp2
        go_ret
        exact ⟨ret_int (by rw [HE.out, cmpDown_lt (show 32 - k = (31 - k) + 1 by omega) h1]), drewN_below HI.out.below _⟩
      · by_cases h2 : lb y (31 - k) < lb x (31 - k)
        · go_wp2
          go_quiet (fail)
          go_wp2
          go_quiet (fail)
          go_wp2
          go_ret
          exact ⟨ret_int (by rw [HE.out, cmpDown_gt (show 32 - k = (31 - k) + 1 by omega) h2]), drewN_below (drewN_below HI.out.below _) _⟩
        · go_wp2
          go_quiet (fail)
          go_wp2
          go_quiet (fail)
          go_wp2
          go_roundw
          case rel => exact ⟨k + 1, by omega, by go_num, HI.out.drewN _, by rw [HE.out, cmpDown_eq (show 32 - k = (31 - k) + 1 by omega) (by omega) (by omega), show 31 - k = 32 - (k + 1) by omega]⟩
          case measure => simp [intOf]; omega
    · clear hI
      have ek : k = 32 := by omega
      subst ek
      go_wp2
      go_ret
      exact ⟨ret_int HE.out.symm, HI.out.below⟩

theorem limb_get (z : Nat → Int) (n : Nat) (h : n < 4) : (#[.int .u64 (z 0), .int .u64 (z 1), .int .u64 (z 2), .int .u64 (z 3)] : Array Value)[n]? = some (.int .u64 (z n)) := by
  match n, h with
  | 0, _ => rfl
  | 1, _ => rfl
  | 2, _ => rfl
  | 3, _ => rfl

set_option maxHeartbeats 400000 in
theorem cmpLimbs_any (x y : Nat → Int) (w : World) :
    Calls Trym.prog 9 #[.agg #[.int .u64 (x 0), .int .u64 (x 1), .int .u64 (x 2), .int .u64 (x 3)], .agg #[.int .u64 (y 0), .int .u64 (y 1), .int .u64 (y 2), .int .u64 (y 3)]] w fun e w' => e = .returned (.int .i64 (cmpDown x y 4)) ∧ Below w.heap.size w w' := by
  go_enter Trym.func9, Trym.ntmps9
  go_wp2
  go_loopw [5] (fun i wr => ∃ v : Int, i = .int .i64 v ∧ TwoRows w wr #[.int .u64 (x 0), .int .u64 (x 1), .int .u64 (x 2), .int .u64 (x 3)] #[.int .u64 (y 0), .int .u64 (y 1), .int .u64 (y 2), .int .u64 (y 3)] 23 ∧ ((∃ n : Nat, v = n ∧ n < 4 ∧ cmpDown x y 4 = cmpDown x y (n + 1)) ∨ (v = -1 ∧ cmpDown x y 4 = 0))) (fun i _ => (intOf i + 1).toNat)
  case atStart => exact ⟨3, rfl, TwoRows.start _ _ _ _, Or.inl ⟨3, rfl, by omega, rfl⟩⟩
  case round =>
    obtain ⟨v, rfl, hI, h⟩ := hrel
    have HI : Hid _ := hI
    rcases h with ⟨k, rfl, hlt, hE⟩ | ⟨rfl, hE⟩
    · have HE : Hid _ := hE
      clear hE
      have hlt' : (k : Int) < 4 := by omega
      have hge' : (0 : Int) ≤ k := by omega
      have hc1 : wr.cell? ⟨w.heap.size, k, none⟩ = some (.int .u64 (x k)) := (cell_of_row _ _ _ _ _ _ hI.one).trans (limb_get x k hlt)
      have hc2 : wr.cell? ⟨w.heap.size + 1, k, none⟩ = some (.int .u64 (y k)) := (cell_of_row _ _ _ _ _ _ hI.two).trans (limb_get y k hlt)
      clear hI
      by_cases h1 : x k < y k
      · go_wp2
        go_quiet (fail)
        go_wp2
        go_ret
        exact ⟨ret_int (by rw [HE.out, cmpDown_lt rfl h1]), drewN_below HI.out.below _⟩
      · by_cases h2 : y k < x k
        · go_wp2
          go_quiet (fail)
          go_wp2
          go_quiet (fail)
          go_wp2
          go_ret
          exact ⟨ret_int (by rw [HE.out, cmpDown_gt rfl h2]), drewN_below (drewN_below HI.out.below _) _⟩
        · go_wp2
          go_quiet (fail)
          go_wp2
          go_quiet (fail)
          go_wp2
          go_roundw
          case rel =>
            refine ⟨_, rfl, HI.out.drewN _, ?_⟩
            have e := HE.out.trans (cmpDown_eq (f := x) (g := y) (n := k) rfl (by omega) (by omega))
            match k, e, hlt with
            | 0, e, _ => exact Or.inr ⟨rfl, e⟩
            | n + 1, e, hlt => exact Or.inl ⟨n, by omega, by omega, e⟩
          case measure => simp [intOf]
    · have HE : Hid _ := hE
      clear hI hE
      go_wp2
      go_ret
      exact ⟨ret_int HE.out.symm, HI.out.below⟩
end Go.Proofs.Qxb6608765aMods
