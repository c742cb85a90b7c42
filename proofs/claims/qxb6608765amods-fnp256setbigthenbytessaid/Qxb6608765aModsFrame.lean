/-
  A [4]uint64 by value, as it comes in: four numbers of 64 bits.
-/
import Derived.Test.Qxb6608765aModsRows
import Derived.WalkKit
import Derived.ProofKit
import Derived.OpenShut
import Derived.ShutString
import Derived.ChangeOld
import Derived.Below
import Derived.Laws.IdiomArrays
namespace Go.Proofs.Qxb6608765aMods
open Go.ChangeShapes Go.WideShapes Go.ChangeAt Go.RowKit

theorem own : ownKnob Trym.prog.godebug = none := by kernel_rfl
theorem laidOut : laidOutB Trym.prog = true := by kernel_rfl
theorem cells23 : Trym.prog.cellsOf 23 = 4 := by kernel_rfl
theorem cells22 : Trym.prog.cellsOf 22 = 1 := by kernel_rfl

theorem list4 {α : Type} (l : List α) (h : (⟨l⟩ : Array α).size = 4) : ∃ a b c d, l = [a, b, c, d] := by
  match l, h with
  | [a, b, c, d], _ => exact ⟨a, b, c, d, rfl⟩

/-- Four numbers as a function of the place. -/
def at4 (a b c d : Int) : Nat → Int
  | 0 => a
  | 1 => b
  | 2 => c
  | _ => d

theorem wf_u64 {n : Int} (h : (Lit.int .u64 n).wf = true) : 0 ≤ n ∧ n ≤ 18446744073709551615 := by
  have := bounds_u64 h
  omega

theorem open_limbs {H : Type} {enc : TypeId × Value → H} {W : World} {base : Nat} {v : Value} {d : DataW H} {p : List MemPlace}
    (hv : Value.okWide Trym.prog W .any base 23 v) (h : DataW.Trod enc Trym.prog W 0 (fun _ => true) true 23 v d p) :
    ∃ z : Nat → Int, (∀ i, i < 4 → 0 ≤ z i ∧ z i ≤ 18446744073709551615) ∧ v = .agg #[.int .u64 (z 0), .int .u64 (z 1), .int .u64 (z 2), .int .u64 (z 3)] := by
  obtain ⟨cs, rfl, hsz, _⟩ : ∃ cs, v = .agg cs ∧ cs.size = Trym.prog.cellsOf 23 ∧ Row.okWide Trym.prog W .any base 23 cs := by
    simpa [Value.okWide, Trym.underlying23] using hv
  rw [cells23] at hsz
  obtain ⟨l⟩ := cs
  obtain ⟨c0, c1, c2, c3, rfl⟩ := list4 l hsz
  obtain ⟨fuel, hf⟩ := h
  obtain ⟨y0, y1, y2, y3, m, hx, hy0, hy1, hy2, hy3⟩ := trod_array4 Trym.underlying23 cells22 hf
  obtain ⟨x0, e0, rfl, w0⟩ := DataW.trod_int Trym.underlying22 hy0
  obtain ⟨x1, e1, rfl, w1⟩ := DataW.trod_int Trym.underlying22 hy1
  obtain ⟨x2, e2, rfl, w2⟩ := DataW.trod_int Trym.underlying22 hy2
  obtain ⟨x3, e3, rfl, w3⟩ := DataW.trod_int Trym.underlying22 hy3
  simp at e0 e1 e2 e3
  subst e0 e1 e2 e3
  refine ⟨at4 x0 x1 x2 x3, fun i hi => ?_, rfl⟩
  match i, hi with
  | 0, _ => exact wf_u64 w0
  | 1, _ => exact wf_u64 w1
  | 2, _ => exact wf_u64 w2
  | 3, _ => exact wf_u64 w3
end Go.Proofs.Qxb6608765aMods
