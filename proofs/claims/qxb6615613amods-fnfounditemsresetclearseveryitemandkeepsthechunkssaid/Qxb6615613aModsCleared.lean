/-
  zzClearedKeepingChunks (function 20), walked.
-/
import Derived.Test.Qxb6615613aModsChunks
import Derived.LaidEqlPtr
import Derived.Laws.StructEq
import Derived.Deep.QuietTactic
import Derived.BigQuiet
namespace Go.Proofs.Qxb6615613aMods
open Go.RowKit

theorem run_neq_ptr_same {P : Program} (w : World) {tp te : TypeId} {j : TypeInfo} (a : Addr) (hp : P.underlying tp = some (.pointer te)) (hte : P.info? te = some j) :
    (binOp .neq tp (.pointer (some a)) (.pointer (some a))).run P w = .ok (.bool false) w := by
  have h : ∀ d : Nat, (Op.equalIn (d + 1) tp (.pointer (some a)) (.pointer (some a))).run P w = .ok true w := fun d => by
    simp [Op.equalIn, run_underlying hp, sizeOf, typeInfo, hte, run_sameAddr_same]
  simp only [binOp]
  simp [Op.equal, Op.maxDepth, h 9999]

theorem info57 : ∃ j, Trym.prog.info? 57 = some j := Option.isSome_iff_exists.1 (by kernel_rfl)

/-- The zero item. -/
abbrev Z4 : Array Value := #[.string ⟨#[]⟩, .pointer none, .bool false, .pointer none]
theorem stood57 : Trym.prog.stoodInHeld 57 = false := by kernel_rfl
theorem stood49 : Trym.prog.stoodInHeld 49 = false := by kernel_rfl
theorem zero_neq (w : World) : (binOp .neq 57 (.agg Z4) (.agg Z4)).run Trym.prog w = .ok (.bool false) w := by
  have h49 : ∀ d : Nat, (Op.equalIn (d + 2) 49 (.agg #[.pointer none, .bool false]) (.agg #[.pointer none, .bool false])).run Trym.prog w = .ok true w := fun d => by
    rw [run_equalIn_struct w (d + 1) 49 _ _ (by simp [Program.fieldsOf, Trym.underlying49]) stood49]
    simp [Program.fieldsOf, Trym.underlying49, Op.eqFields, part, isAgg, Op.equalIn]
  have h9 : ∀ d : Nat, (Op.equalIn (d + 2) 9 (.string ⟨#[]⟩) (.string ⟨#[]⟩)).run Trym.prog w = .ok true w := fun d => by
    simp [Op.equalIn]
    rfl
  have h55 : ∀ d : Nat, (Op.equalIn (d + 2) 55 (.pointer none) (.pointer none)).run Trym.prog w = .ok true w := fun d => by
    simp [Op.equalIn]
  have h : ∀ d : Nat, (Op.equalIn (d + 3) 57 (.agg Z4) (.agg Z4)).run Trym.prog w = .ok true w := fun d => by
    rw [run_equalIn_struct w (d + 2) 57 _ _ (by simp [Program.fieldsOf, Trym.underlying57]) stood57]
    simp [Program.fieldsOf, Trym.underlying57, Op.eqFields, part, isAgg, h49, h9, h55]
  simp only [binOp]
  simp [Op.equal, Op.maxDepth, h 9997]

theorem belowN {n : Nat} {w w' : World} (h : Below n w w') (q : Nat) : Below n w (w'.drewN q) := ⟨h.os, h.tape, h.output, h.size, h.block⟩

set_option maxHeartbeats 800000 in
theorem cleared_any (g : Nat) (a a2 : Option Addr) (K cp cp2 : Nat) (B : Nat → Nat) (w : World)
    (hF0 : w.cell? ⟨g, 0, none⟩ = some (.slice a K cp)) (hF1 : w.cell? ⟨g, 1, none⟩ = some (.int .i64 0))
    (hC : RowAt w a K cp (chunkV B)) (hf : RowAt w a2 K cp2 (firstV B)) (hz : ∀ k, k < K → Blk w (B k) 0) :
    Calls Trym.prog 20 #[.pointer (some ⟨g, 0, none⟩), .slice a2 K cp2] w fun e w' => e = .returned (.bool true) ∧ Below w.heap.size w w' := by
  have hK := hC.len
  have HC : Hid _ := hC; have HF : Hid _ := hf; have HZ : Hid _ := hz
  have HF0 : Hid _ := hF0; have HF1 : Hid _ := hF1
  clear hC hf hz hF0 hF1
  go_enter Trym.func20, Trym.ntmps20
  go_wp2_with fail
  refine (foundN_any g 0 w HF1.out).mono ?_
  rintro e w1 ⟨rfl, rfl⟩
  go_wp2_with fail
  refine (foundChunks_any g a K cp _ HF0.out).mono ?_
  rintro e w1 ⟨rfl, rfl⟩
  go_wp2_with fail
  have hB0 : Below w1.heap.size w1 (w1.alloc (.cells #[.string ⟨#[]⟩, .pointer none, .bool false, .pointer none] 57)) := (Below.refl _ _).alloc (Nat.le_refl _) _
  have HB0 : Hid _ := hB0; clear hB0
  go_loopw [7] (fun i wr => ∃ k : Nat, k ≤ K ∧ i = .int .i64 k ∧ Below (w1.heap.size + 1) (w1.alloc (.cells #[.string ⟨#[]⟩, .pointer none, .bool false, .pointer none] 57)) wr) (fun i _ => K - (intOf i).toNat)
  case atStart => exact ⟨0, by omega, rfl, Below.refl _ _⟩
  case round =>
    obtain ⟨k, hk, rfl, hb⟩ := hrel
    have hBw : Below w1.heap.size w1 wr := HB0.out.trans (hb.mono (by omega))
    have HB : Hid _ := hb; have HBW : Hid _ := hBw
    by_cases hlt : k < K
    · have hlt' : (k : Int) < K := by omega
      obtain ⟨gc, rfl, _, hc⟩ := (HC.out.later hBw).cells k hlt
      obtain ⟨gf, rfl, _, hcf⟩ := (HF.out.later hBw).cells k hlt
      simp only [chunkV, firstV] at hc hcf
      obtain ⟨j57, hj57⟩ := info57
      have hne := fun w => run_neq_ptr_same (P := Trym.prog) w ⟨B k, 0, none⟩ Trym.underlying54 hj57
      have hq : ((1024 : Int) != 1024) = false := rfl
      clear hb hBw hj57
      go_wp2_with fail
      go_quiet (fail)
      go_wp2_with fail
      clear hne hcf
      go_loopw [8] (fun i wx => ∃ j : Nat, j ≤ 1024 ∧ i = .int .i64 j ∧ Below (w1.heap.size + 1) (w1.alloc (.cells #[.string ⟨#[]⟩, .pointer none, .bool false, .pointer none] 57)) wx) (fun i _ => 1024 - (intOf i).toNat)
      case atStart => exact ⟨0, by omega, rfl, belowN HB.out _⟩
      case round =>
        clear hc
        obtain ⟨j, hj, rfl, hb⟩ := hrel
        have hBw : Below w1.heap.size w1 _ := HB0.out.trans (hb.mono (by omega))
        have HB1 : Hid _ := hb; have HBW1 : Hid _ := hBw
        obtain ⟨gc', e', _, hc⟩ := (HC.out.later hBw).cells k hlt
        injection e' with e'
        injection e' with e1 _ _
        subst e1
        simp only [chunkV] at hc
        by_cases hjl : j < 1024
        · have hjl' : (j : Int) < 1024 := by omega
          obtain ⟨i0, i1, i2, i3⟩ := ((HZ.out k hlt).same (hBw.block _ (HZ.out k hlt).lt)).item j hjl
          have hw0 : wr.heap[w1.heap.size]? = _ := (hb.block w1.heap.size (by omega)).trans (heap_new_at rfl)
          have z0 := cell_of_row _ _ 0 _ _ _ hw0
          have z1 := cell_of_row _ _ 1 _ _ _ hw0
          have z2 := cell_of_row _ _ 2 _ _ _ hw0
          have z3 := cell_of_row _ _ 3 _ _ _ hw0
          simp at z0 z1 z2 z3
          have hzz := zero_neq
          simp only [Z4] at hzz
          clear hb hBw hw0
          go_wp2_with fail
          go_quiet (fail)
          go_wp2_with fail
          go_roundw
          case rel => exact ⟨j + 1, by omega, by go_num, belowN HB1.out _⟩
          case measure => simp [intOf]; omega
        · have hjl' : ¬ (j : Int) < 1024 := by omega
          clear hb hBw
          go_wp2_with fail
          go_roundw
          case rel => exact ⟨k + 1, by omega, by go_num, HB1.out⟩
          case measure => simp [intOf]; omega
    · have hlt' : ¬ (k : Int) < K := by omega
      clear hb hBw
      go_wp2_with fail
      go_ret
      exact ⟨rfl, HBW.out⟩
end Go.Proofs.Qxb6615613aMods
