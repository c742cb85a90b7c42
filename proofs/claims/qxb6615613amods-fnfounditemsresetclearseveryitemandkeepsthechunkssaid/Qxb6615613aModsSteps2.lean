/-
  reset and zzClearedKeepingChunks, as the law's own function meets them.
-/
import Derived.Test.Qxb6615613aModsSteps
namespace Go.Proofs.Qxb6615613aMods
open Go.RowKit

theorem Hold.crowAt {W w : World} {B : Nat → Nat} {K n : Nat} {a : Option Addr} {cp : Nat} {fv : Value} (h : Hold W w B K n (.slice a K cp) fv) : RowAt w a K cp (chunkV B) := by
  obtain ⟨a2, cp2, e, hr, _⟩ := row_of_owns h.crow
  injection e with e1 _ e2
  subst e1 e2
  exact hr

theorem Hold.frowAt {W w : World} {B : Nat → Nat} {K n : Nat} {a : Option Addr} {cp : Nat} {cv : Value} (h : Hold W w B K n cv (.slice a K cp)) : RowAt w a K cp (firstV B) := by
  obtain ⟨a2, cp2, e, hr, _⟩ := row_of_owns h.frow
  injection e with e1 _ e2
  subst e1 e2
  exact hr

theorem Hold.resets {W w : World} {B : Nat → Nat} {K n : Nat} {a : Option Addr} {cp : Nat} {fv : Value} (h : Hold W w B K n (.slice a K cp) fv) (hn : n ≤ K * 1024) (hK : K ≤ 1000000) :
    Calls Trym.prog 19 #[.pointer (some ⟨w.heap.size, 0, none⟩)] (w.alloc (.cells #[.slice a K cp, .int .i64 n] 85)) fun e w' => e = .returned (.tuple #[]) ∧ Hold W w' B K 0 (.slice a K cp) fv ∧ w'.heap[w.heap.size]? = some (.cells #[.slice a K cp, .int .i64 0] 85 (0, 0)) := by
  have h2 := h.later ((Below.refl w.heap.size w).alloc (Nat.le_refl _) (.cells #[.slice a K cp, .int .i64 n] 85))
  refine (zreset_any w.heap.size a K cp n B _ (heap_new_at rfl) hn hK h2.crowAt (fun g hg k hk => h2.cne (by subst hg; rfl) k hk) h.inj h2.blk).mono ?_
  rintro e w' ⟨rfl, hp⟩
  exact ⟨rfl, h.reset hp, hp.found⟩

theorem Hold.clears {W w : World} {B : Nat → Nat} {K F : Nat} {a a2 : Option Addr} {cp cp2 : Nat} (h : Hold W w B K 0 (.slice a K cp) (.slice a2 K cp2)) (hF : w.heap[F]? = some (.cells #[.slice a K cp, .int .i64 0] 85 (0, 0))) :
    Calls Trym.prog 20 #[.pointer (some ⟨F, 0, none⟩), .slice a2 K cp2] w fun e w' => e = .returned (.bool true) ∧ Hold W w' B K 0 (.slice a K cp) (.slice a2 K cp2) ∧ w'.heap[F]? = some (.cells #[.slice a K cp, .int .i64 0] 85 (0, 0)) := by
  refine (cleared_any F a a2 K cp cp2 B w (cell_of_row _ _ 0 _ _ _ hF) (cell_of_row _ _ 1 _ _ _ hF) h.crowAt h.frowAt (fun k hk => (h.blk k hk).mono (by omega))).mono ?_
  rintro e w' ⟨rfl, hb⟩
  exact ⟨rfl, h.later hb, (hb.block F (Array.getElem?_eq_some_iff.1 hF).1).trans hF⟩

/-- The length that a slice says. -/
def lenV : Value → Nat
  | .slice _ l _ => l
  | _ => 0
end Go.Proofs.Qxb6615613aMods
