/-
  The small functions: a new chunk, a new item, a new foundItems and its two fields.
-/
import Derived.Test.Qxb6615613aModsGuard
namespace Go.Proofs.Qxb6615613aMods
open Go.RowKit

theorem heap_new_at {w : World} {o : Obj} {n : Nat} (h : w.heap.size = n) : (w.alloc o).heap[n]? = some o := by
  subst h; exact heap_alloc_new w o
theorem heap_old_at {w : World} {o x : Obj} {n : Nat} (h : n < w.heap.size) (hx : w.heap[n]? = some x) : (w.alloc o).heap[n]? = some x :=
  (Below.heap_alloc w o n h).trans hx

/-- Cell c of a row of zero items. -/
def zc (c : Nat) : Value := if c % 4 = 0 then .string ⟨#[]⟩ else if c % 4 = 2 then .bool false else .pointer none

/-- 1024 zero items. -/
def zeros : Array Value := madeCells #[.string ⟨#[]⟩, .pointer none, .bool false, .pointer none] 4096
theorem zeros_size : zeros.size = 4096 := size_madeCells _ _
theorem zero4_get (c : Nat) : (#[.string ⟨#[]⟩, .pointer none, .bool false, .pointer none] : Array Value)[c % 4]? = some (zc c) := by
  unfold zc
  have h : c % 4 < 4 := Nat.mod_lt _ (by omega)
  generalize c % 4 = r at h ⊢
  match r, h with
  | 0, _ => rfl
  | 1, _ => rfl
  | 2, _ => rfl
  | 3, _ => rfl
theorem zeros_get (c : Nat) (h : c < 4096) : zeros[c]? = some (zc c) := by
  have := zero4_get c
  have h4 : c % 4 < 4 := Nat.mod_lt _ (by omega)
  rw [Array.getElem?_eq_getElem (by simpa using h4)] at this
  injection this with this
  unfold zeros
  rw [Array.getElem?_eq_getElem (by rw [size_madeCells]; exact h)]
  simp only [madeCells, Array.getElem_map, Array.getElem_range]
  rw [← this]
  simp [h4]

/-- 'make([]T, n, n)' with constants. -/
theorem wpList_make_const {P : Program} (w : World) {ops : Array Oper} {rest : List Oper} {o : Oper} {a : Act} {Q : Exit → Act → World → Prop}
    (hg : o.guard = none) (l c : Operand) (t : TypeId) (hop : o.op = Op.makeSlice t l c)
    (e : TypeId) (z : Value) (S B : Nat) (ht : P.underlying t = some (.slice e)) (hi : (P.info? e).map (fun i => (i.zero, i.size, i.bytes)) = some (some z, S, B))
    (kl kc : IntKind) (n : Nat) (hl : a.eval l = .int kl n) (hc : a.eval c = .int kc n) (hbytes : B * n ≤ 281474976710656) (h63 : n ≤ 9223372036854775807) (C : Array Value) (hC : C = madeCells z.cells (n * S))
    (hK : wpList P ops Q rest (a.put o.dst (.slice (some ⟨w.heap.size, 0, none⟩) n n)) (w.alloc (.cells C e))) :
    wpList P ops Q (o :: rest) a w := by
  subst hC
  obtain ⟨i, hi2, hzz⟩ := Option.map_eq_some_iff.1 hi
  simp only [Prod.mk.injEq] at hzz
  obtain ⟨hz, rfl, rfl⟩ := hzz
  refine wpList_plain hg fun K hK' => ?_
  have hb : ((i.bytes * n : Nat) : Int) ≤ 281474976710656 := by omega
  rw [Int.natCast_mul] at hb
  have hrun := run_make (P := P) w t e i z ht hi2 hz kl kc n n (by omega) (by omega) hb (by omega)
  simp only [Int.toNat_natCast] at hrun
  unfold Oper.wp
  simp [execOp, hop, hl, hc, hrun, Result.andThen]
  exact hK' _ _ hK

theorem zeros_eq : zeros = madeCells (Value.agg #[.string ⟨#[]⟩, .pointer none, .bool false, .pointer none]).cells (1024 * 4) := rfl

set_option maxHeartbeats 400000 in
theorem newChunk_any (w : World) :
    Calls Trym.prog 16 #[] w fun e w' => e = .returned (.slice (some ⟨w.heap.size, 0, none⟩) 1024 1024) ∧ w' = w.alloc (.cells zeros 57) := by
  go_enter Trym.func16, Trym.ntmps16
  go_wp2_with (first
    | (at_make; refine wpList_make_const w rfl _ _ 52 rfl 57 (.agg #[.string ⟨#[]⟩, .pointer none, .bool false, .pointer none]) 4 40 Trym.underlying52 (by kernel_rfl) .i64 .i64 1024 rfl rfl (by omega) (by omega) zeros zeros_eq ?_))
  go_ret
  exact ⟨rfl, rfl⟩

set_option maxHeartbeats 400000 in
theorem newItem_any (p : ByteArray) (r : Option Addr) (t : Bool) (w : World) :
    Calls Trym.prog 17 #[.string p, .agg #[.pointer r, .bool t]] w fun e w' => e = .returned (.agg #[.string p, .pointer r, .bool t, .pointer none]) ∧ Below w.heap.size w w' := by
  have hB : Below w.heap.size w ((w.alloc (.cells #[.pointer r, .bool t] 49)).alloc (.cells #[.string p, .pointer r, .bool t, .pointer none] 57)) := ((Below.refl _ _).alloc (Nat.le_refl _) _).alloc (by simp) _
  have HB : Hid _ := hB; clear hB
  go_enter Trym.func17, Trym.ntmps17
  go_wp2
  refine bodyPost_ret (v := .agg #[.string p, .pointer r, .bool t, .pointer none]) (results_cell_row Trym.results17 _ _ (w.heap.size + 1) 57 #[.string p, .pointer r, .bool t, .pointer none] (0, 0) _ rfl (heap_new_at (by simp)) Trym.underlying57 rfl (by kernel_rfl)) rfl ⟨rfl, ?_⟩
  exact HB.out

set_option maxHeartbeats 400000 in
theorem newFound_any (a : Option Addr) (l c : Nat) (n : Int) (w : World) :
    Calls Trym.prog 18 #[.slice a l c, .int .i64 n] w fun e w' => e = .returned (.pointer (some ⟨w.heap.size, 0, none⟩)) ∧ w' = w.alloc (.cells #[.slice a l c, .int .i64 n] 85) := by
  go_enter Trym.func18, Trym.ntmps18
  go_wp2
  go_ret
  exact ⟨rfl, rfl⟩

set_option maxHeartbeats 400000 in
theorem foundN_any (g : Nat) (n : Int) (w : World) (h : w.cell? ⟨g, 1, none⟩ = some (.int .i64 n)) :
    Calls Trym.prog 30 #[.pointer (some ⟨g, 0, none⟩)] w fun e w' => e = .returned (.int .i64 n) ∧ w' = w := by
  go_enter Trym.func30, Trym.ntmps30
  go_wp2
  go_ret
  exact ⟨rfl, rfl⟩

set_option maxHeartbeats 400000 in
theorem foundChunks_any (g : Nat) (ad : Option Addr) (l c : Nat) (w : World) (h : w.cell? ⟨g, 0, none⟩ = some (.slice ad l c)) :
    Calls Trym.prog 21 #[.pointer (some ⟨g, 0, none⟩)] w fun e w' => e = .returned (.slice ad l c) ∧ w' = w := by
  go_enter Trym.func21, Trym.ntmps21
  go_wp2
  go_ret
  exact ⟨rfl, rfl⟩
end Go.Proofs.Qxb6615613aMods
