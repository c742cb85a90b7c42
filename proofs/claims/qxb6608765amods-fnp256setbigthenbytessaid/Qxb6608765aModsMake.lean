import Derived.Test.Qxb6608765aModsWords
import Derived.Deep.OwnRows
namespace Go.Proofs.Qxb6608765aMods
open Go.RowKit

/-- 'make([]T, n, m)', n and m variables, T of one cell. -/
theorem wpList_make_two {P : Program} (w : World) {ops : Array Oper} {rest : List Oper} {o : Oper} {a : Act} {Q : Exit → Act → World → Prop}
    (hg : o.guard = none) (l c : Operand) (t : TypeId) (hop : o.op = Op.makeSlice t l c)
    (e : TypeId) (z : Value) (B : Nat) (ht : P.underlying t = some (.slice e)) (hi : (P.info? e).map (fun i => (i.zero, i.size, i.bytes)) = some (some z, 1, B)) (hz1 : z.cells = #[z])
    (kl kc : IntKind) (L C : Int) (n m : Nat) (hl : a.eval l = .int kl L) (hc : a.eval c = .int kc C) (hL : L = (n : Int)) (hC : C = (m : Int)) (hnm : n ≤ m) (hbytes : B * m ≤ 281474976710656) (h63 : m ≤ 9223372036854775807)
    (hK : wpList P ops Q rest (a.put o.dst (.slice (some ⟨w.heap.size, 0, none⟩) n m)) (w.alloc (.cells (madeCells #[z] m) e))) :
    wpList P ops Q (o :: rest) a w := by
  subst hL hC
  obtain ⟨i, hi2, hzz⟩ := Option.map_eq_some_iff.1 hi
  simp only [Prod.mk.injEq] at hzz
  obtain ⟨hz, hs, rfl⟩ := hzz
  refine wpList_plain hg fun K hK' => ?_
  have hb : ((i.bytes * m : Nat) : Int) ≤ 281474976710656 := by omega
  rw [Int.natCast_mul] at hb
  have hrun := run_make (P := P) w t e i z ht hi2 hz kl kc n m (by omega) (by omega) hb (by omega)
  simp only [Int.toNat_natCast, hs, hz1, Nat.mul_one] at hrun
  unfold Oper.wp
  simp [execOp, hop, hl, hc, hrun, Result.andThen]
  exact hK' _ _ hK

theorem madeCells_get (z : Value) (m i : Nat) (h : i < m) : (madeCells #[z] m)[i]? = some z := by
  simp [madeCells, h, Nat.mod_one]

set_option maxHeartbeats 400000 in
theorem make_zero (w : World) :
    Calls Trym.prog 31 #[.slice none 0 0, .int .i64 0] w fun e w' => e = .returned (.slice none 0 0) ∧ w' = w := by
  go_enter Trym.func31, Trym.ntmps31
  go_wp2
  go_ret
  exact ⟨rfl, rfl⟩

set_option maxHeartbeats 400000 in
theorem make_any (n : Nat) (w : World) (h1 : 1 ≤ n) (h2 : n ≤ 1000000) :
    Calls Trym.prog 31 #[.slice none 0 0, .int .i64 n] w fun e w' => ∃ (cap : Nat), e = .returned (.slice (some ⟨w.heap.size, 0, none⟩) n cap) ∧ n ≤ cap ∧ cap ≤ n + 4 ∧ w' = w.alloc (.cells (madeCells #[.int .u64 0] cap) 54) := by
  have hn2 : ¬ (n : Int) ≤ 0 := by omega
  by_cases hn : n = 1
  · subst hn
    go_enter Trym.func31, Trym.ntmps31
    go_wp2_with (at_make; refine wpList_make_two _ rfl _ _ 42 rfl 54 (.int .u64 0) 8 Trym.underlying42 (by kernel_rfl) rfl .i64 .i64 1 1 1 1 rfl rfl rfl rfl (by omega) (by omega) (by omega) ?_)
    go_ret
    exact ⟨1, rfl, by omega, by omega, rfl⟩
  · have hn1 : ((n : Int) == 1) = false := by simp; omega
    go_enter Trym.func31, Trym.ntmps31
    go_wp2_with (at_make; refine wpList_make_two _ rfl _ _ 42 rfl 54 (.int .u64 0) 8 Trym.underlying42 (by kernel_rfl) rfl .i64 .i64 n (n + 4) n (n + 4) rfl rfl rfl rfl (by omega) (by omega) (by omega) ?_)
    go_ret
    exact ⟨n + 4, rfl, by omega, by omega, rfl⟩

set_option maxHeartbeats 400000 in
theorem norm_nil (w : World) :
    Calls Trym.prog 33 #[.slice none 0 0] w fun e w' => e = .returned (.slice none 0 0) ∧ w' = w := by
  go_enter Trym.func33, Trym.ntmps33
  go_wp2
  go_loop [3] (fun i => i = .int .i64 0) (fun _ => 0)
  case atStart => rfl
  case round =>
    subst hrel
    go_wp2
    go_ret
    exact ⟨rfl, rfl⟩

set_option maxHeartbeats 400000 in
theorem norm_any (f : Nat → Int) (g L cap : Nat) (w : World) (hL : L ≤ 1000000) (hLc : L ≤ cap) (hcell : ∀ i, i < L → w.cell? ⟨g, i, none⟩ = some (.int .u64 (f i))) :
    Calls Trym.prog 33 #[.slice (some ⟨g, 0, none⟩) L cap] w fun e w' => ∃ n : Nat, e = .returned (.slice (some ⟨g, 0, none⟩) n cap) ∧ n ≤ L ∧ (∀ i, n ≤ i → i < L → f i = 0) ∧ (∀ k, n = k + 1 → f k ≠ 0) ∧ w' = w := by
  go_enter Trym.func33, Trym.ntmps33
  go_wp2
  go_loop [3] (fun i => ∃ k : Nat, k ≤ L ∧ i = .int .i64 k ∧ ∀ i, k ≤ i → i < L → f i = 0) (fun i => (intOf i).toNat)
  case atStart => exact ⟨L, Nat.le_refl _, rfl, fun i h1 h2 => by omega⟩
  case round =>
    obtain ⟨k, hk, rfl, hz⟩ := hrel
    have HZ : Hid _ := hz; clear hz
    have HC : Hid _ := hcell; clear hcell
    match k, hk, HZ with
    | 0, hk, HZ =>
      go_wp2
      go_ret
      exact ⟨0, rfl, by omega, HZ.out, fun k h => by omega, rfl⟩
    | k + 1, hk, HZ =>
      have hc := HC.out k (by omega)
      have hk' : (k : Int) < (L : Int) := by omega
      by_cases e : f k = 0
      · have hc0 : w.cell? ⟨g, k, none⟩ = some (.int .u64 0) := by rw [hc, e]
        clear hc
        have E : Hid _ := e; clear e
        go_wp2
        go_round
        case rel =>
          refine ⟨k, by omega, by go_num, fun i h1 h2 => ?_⟩
          by_cases h : i = k
          · subst h; exact E.out
          · exact HZ.out i (by omega) h2
        case measure => simp [intOf]
      · have hb : (f k == 0) = false := by simpa using e
        have E : Hid _ := e; clear e
        go_wp2
        go_ret
        exact ⟨k + 1, rfl, hk, HZ.out, fun j h => by have : j = k := by omega
                                                     subst this; exact E.out, rfl⟩
end Go.Proofs.Qxb6608765aMods
