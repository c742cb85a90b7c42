import Derived.Test.Qxb6608765aModsSetBytes
namespace Go.Proofs.Qxb6608765aMods
open Go.RowKit

theorem setRow_self (w : World) (g : Nat) (C : Array Value) (t : TypeId) (fr : Nat × Nat) (h : w.heap[g]? = some (.cells C t fr)) : w.setRow g C = w := by
  have : (w.heap.modify g fun | .cells _ elem frozen => .cells C elem frozen | o => o) = w.heap := by
    apply Array.ext
    · simp
    · intro i h1 h2
      simp only [Array.getElem_modify]
      by_cases e : g = i
      · subst e
        have hv : w.heap[g] = .cells C t fr := (Array.getElem?_eq_some_iff.1 h).2
        rw [if_pos rfl, hv]
      · rw [if_neg e]
  show World.setRow w g C = { w with heap := w.heap }
  unfold World.setRow
  exact congrArg (fun h => { w with heap := h }) this

/-- 'clear(s)' where s is a whole row of one-cell zeros already: nothing turns. -/
theorem wpList_clear_zero {P : Program} {w : World} {ops : Array Oper} {rest : List Oper} {o : Oper} {a : Act} {Q : Exit → Act → World → Prop}
    (hgd : o.guard = none) (hdst : o.dst = none) (x : Operand) (t e : TypeId) (hop : o.op = Op.call { callee := Callee.builtin Builtin.clear, args := #[x], argTypes := #[t] })
    (ht : P.underlying t = some (.slice e)) (z : Value) (hz0 : (P.info? e).map (·.zero) = some (some z)) (hz : z.cells = #[z]) (h1 : z.oneCell' = true)
    (g n c : Nat) (C : Array Value) (tt : TypeId) (hx : a.eval x = .slice (some ⟨g, 0, none⟩) (n + 1) c) (hrow : w.heap[g]? = some (.cells C tt (0, 0))) (hC : C = Array.replicate (n + 1) z)
    (h : wpList P ops Q rest a w) : wpList P ops Q (o :: rest) a w := by
  have hzc : (Builtin.zeroCells z.cells (n + 1)).toList = List.replicate (n + 1) z := by
    rw [hz]
    simp [Builtin.zeroCells]
    apply List.ext_getElem
    · simp
    · intro i h1 h2
      simp [Nat.mod_one]
  have hst := run_storeCells_from (P := P) g tt (List.replicate (n + 1) z) 0 C w hrow (by simp [hC]) (by intro v hv; rw [List.eq_of_mem_replicate hv]; exact h1)
  have hzv : (zeroValue e).run P w = .ok z w := by
    cases hq : P.info? e with
    | none => simp [hq] at hz0
    | some i => simp [hq] at hz0; simp [zeroValue, typeInfo, hq, hz0]
  have hrun : (Builtin.clear_ #[t] o.type #[.slice (some ⟨g, 0, none⟩) (n + 1) c]).run P w = .ok (.tuple #[]) w := by
    have e2 : (C.toList.take 0 ++ List.replicate (n + 1) z).toArray = C := by simp [hC]
    rw [e2, setRow_self w g C tt (0, 0) hrow] at hst
    simp [Builtin.clear_, run_underlying ht, hzv, hzc, hst]
  refine wpList_plain hgd fun K hK => ?_
  unfold Oper.wp
  simp [execOp, hop, resolve, invoke, builtin, hx, hrun, Result.andThen]
  have e3 : a.put o.dst (.tuple #[]) = a := by rw [hdst]; rfl
  exact hK _ _ (by rw [e3]; exact h)

theorem brow_zero_rep (z : Nat → Int) : brow z 0 = Array.replicate (31 + 1) (.int .u8 0) := by kernel_rfl

/-- The buffer while the words' bytes are laid into it. -/
structure FInv (z : Nat → Int) (B : Nat) (w wr : World) (m : Nat) : Prop where
  os : wr.os = w.os
  tape : wr.tape = w.tape
  output : wr.output = w.output
  size : wr.heap.size = w.heap.size
  other : ∀ k, k ≠ B → wr.heap[k]? = w.heap[k]?
  row : wr.heap[B]? = some (.cells (brow z m) 24 (0, 0))

theorem FInv.step {z : Nat → Int} {B : Nat} {w wr : World} {k j : Nat} (h : FInv z B w wr (8 * k + j)) (hk : k < 4) (hj : j < 8) :
    FInv z B w (wr.setCell ⟨B, 31 - 8 * k - j, none⟩ (.int .u8 (z k / 2 ^ (8 * j) % 256))) (8 * k + (j + 1)) := by
  refine ⟨h.os, h.tape, h.output, by simp [World.setCell, h.size], fun i hi => ?_, ?_⟩
  · rw [heap_setCell_other _ _ _ _ hi]; exact h.other i hi
  · rw [heap_setCell_same _ _ _ _ _ _ h.row, brow_set z k j hk hj]

theorem FInv.cell {z : Nat → Int} {B : Nat} {w wr : World} {m : Nat} (h : FInv z B w wr m) {p : Addr} (hp : p.block ≠ B) : wr.cell? p = w.cell? p := World.cell?_of_block (w := w) (h.other p.block hp)

theorem shift_more (x : Int) (j : Nat) : x / 2 ^ (8 * j) / 256 = x / 2 ^ (8 * (j + 1)) := by
  rw [Int.ediv_ediv_of_nonneg (Int.le_of_lt (Int.pow_pos (by decide))), show 8 * (j + 1) = 8 * j + 8 by omega, Int.pow_add]
  rfl

set_option maxHeartbeats 400000 in
theorem natBytes_any (z : Nat → Int) (a : Option Addr) (L cap B : Nat) (w : World) (hL : L ≤ 4) (hz : ∀ i, i < L → 0 ≤ z i ∧ z i ≤ 18446744073709551615)
    (ha : 0 < L → ∃ G, a = some ⟨G, 0, none⟩ ∧ G ≠ B ∧ ∀ i, i < L → w.cell? ⟨G, i, none⟩ = some (.int .u64 (z i))) (hrow : w.heap[B]? = some (.cells (brow z 0) 24 (0, 0))) :
    Calls Trym.prog 36 #[.slice a L cap, .slice (some ⟨B, 0, none⟩) 32 32] w fun e w' => (∃ r : Int, e = .returned (.int .i64 r)) ∧ FInv z B w w' (8 * L) := by
  have HA : Hid _ := ha; have HZ : Hid _ := hz; have HR : Hid _ := hrow
  clear ha hz hrow
  go_enter Trym.func36, Trym.ntmps36
  go_wp2
  go_loopw [4, 12] (fun i x wr => ∃ k r : Nat, k ≤ L ∧ r + 8 * k = 32 ∧ i = .int .i64 r ∧ x = .int .i64 k ∧ FInv z B w wr (8 * k)) (fun _ x _ => L - (intOf x).toNat)
  case atStart => exact ⟨0, 32, by omega, by omega, rfl, rfl, rfl, rfl, rfl, rfl, fun _ _ => rfl, HR.out⟩
  case round =>
    obtain ⟨k, r, hk, hkr, rfl, rfl, hI⟩ := hrel
    have HI : Hid _ := hI; clear hI
    by_cases hlt : k < L
    · have hlt' : (k : Int) < (L : Int) := by omega
      obtain ⟨G, rfl, hGB, hcw⟩ := HA.out (by omega)
      have hc1 : wr.cell? ⟨G, k, none⟩ = some (.int .u64 (z k)) := (HI.out.cell hGB).trans (hcw k hlt)
      have hzk := HZ.out k hlt
      clear hcw
      go_wp2
      go_loopw [4, 6, 7] (fun i d x wr => ∃ j s : Nat, j ≤ 8 ∧ s + 8 * k + j = 32 ∧ i = .int .i64 s ∧ d = .int .u64 (z k / 2 ^ (8 * j)) ∧ x = .int .i64 j ∧ FInv z B w wr (8 * k + j)) (fun _ _ x _ => 8 - (intOf x).toNat)
      case atStart => exact ⟨0, r, by omega, by omega, rfl, by simp, rfl, HI.out⟩
      case round =>
        clear HI hc1
        obtain ⟨j, s, hj, hs, rfl, rfl, rfl, hI⟩ := hrel
        have HI : Hid _ := hI
        by_cases hjt : j < 8
        · obtain ⟨s, rfl⟩ : ∃ i, s = i + 1 := ⟨s - 1, by omega⟩
          have hjt' : (j : Int) < 8 := by omega
          have hs32 : (s : Int) < 32 := by omega
          have es : s = 31 - 8 * k - j := by omega
          have hcell : wr.cell? ⟨B, s, none⟩ = some (.int .u8 (bv z (8 * k + j) s)) := by
            rw [cell_of_row _ _ _ _ _ _ hI.row, brow_get _ _ _ (by omega)]
          have hfr : wr.frozen? ⟨B, s, none⟩ = false := frozen_of_row _ _ _ _ _ hI.row
          have ES : Hid _ := es
          clear hI es
          go_wp2
          go_roundw
          case rel =>
            refine ⟨j + 1, s, by omega, by omega, rfl, ?_, by go_num, ?_⟩
            · rw [shift_more]
            · have h := HI.out.step (by omega) hjt
              rw [← ES.out] at h
              exact h
          case measure => simp [intOf]; omega
        · clear hI
          have ej : j = 8 := by omega
          subst ej
          go_wp2
          go_roundw
          case rel => exact ⟨k + 1, s, by omega, by omega, rfl, by go_num, HI.out⟩
          case measure => simp [intOf]; omega
    · have ek : k = L := by omega
      subst ek
      have hr0 : (0 : Int) ≤ r := by omega
      have hnk : ¬ (k : Int) < (k : Int) := by omega
      go_wp2
      go_loop [4] (fun i => ∃ s : Nat, s ≤ 32 ∧ i = .int .i64 s) (fun i => 32 - (intOf i).toNat)
      case atStart => exact ⟨r, by omega, rfl⟩
      case round =>
        obtain ⟨s, hs, rfl⟩ := hrel
        by_cases hst : s < 32
        · have hst' : (s : Int) < 32 := by omega
          have hcell : wr.cell? ⟨B, s, none⟩ = some (.int .u8 (bv z (8 * k) s)) := by
            rw [cell_of_row _ _ _ _ _ _ HI.out.row, brow_get _ _ _ (by omega)]
          by_cases hb : bv z (8 * k) s = 0
          · rw [hb] at hcell
            clear hb
            go_wp2
            go_round
            case rel => exact ⟨s + 1, by omega, by go_num⟩
            case measure => simp [intOf]; omega
          · have hb' : (bv z (8 * k) s == 0) = false := by simpa using hb
            clear hb
            go_wp2
            go_ret
            exact ⟨⟨_, rfl⟩, HI.out⟩
        · have hst' : ¬ (s : Int) < 32 := by omega
          go_wp2
          go_ret
          exact ⟨⟨_, rfl⟩, HI.out⟩

set_option maxHeartbeats 400000 in
theorem fillBytes_any (z : Nat → Int) (a : Option Addr) (X L cap B : Nat) (w : World) (hL : L ≤ 4) (hz : ∀ i, i < L → 0 ≤ z i ∧ z i ≤ 18446744073709551615)
    (ha : 0 < L → ∃ G, a = some ⟨G, 0, none⟩ ∧ G ≠ B ∧ ∀ i, i < L → w.cell? ⟨G, i, none⟩ = some (.int .u64 (z i))) (hrow : w.heap[B]? = some (.cells (brow z 0) 24 (0, 0)))
    (hX : w.cell? ⟨X, 1, none⟩ = some (.slice a L cap)) :
    Calls Trym.prog 30 #[.pointer (some ⟨X, 0, none⟩), .slice (some ⟨B, 0, none⟩) 32 32] w fun e w' => e = .returned (.slice (some ⟨B, 0, none⟩) 32 32) ∧ FInv z B w w' (8 * L) := by
  have HA : Hid _ := ha; have HZ : Hid _ := hz; have HR : Hid _ := hrow
  clear ha hz hrow
  go_enter Trym.func30, Trym.ntmps30
  go_wp2_with (first
    | ((with_reducible show wpList _ _ _ (_ :: _) _ _); refine wpList_clear_zero rfl rfl (.tmp 5) 30 5 rfl Trym.underlying30 (.int .u8 0) (by kernel_rfl) rfl rfl B 31 32 (brow z 0) 24 rfl HR.out (brow_zero_rep z) ?_))
  refine (natBytes_any z a L cap B _ hL HZ.out HA.out HR.out).mono ?_
  rintro e w1 ⟨⟨r, rfl⟩, hI⟩
  have HI : Hid _ := hI; clear hI
  go_wp2
  go_ret
  exact ⟨rfl, HI.out⟩
end Go.Proofs.Qxb6608765aMods
