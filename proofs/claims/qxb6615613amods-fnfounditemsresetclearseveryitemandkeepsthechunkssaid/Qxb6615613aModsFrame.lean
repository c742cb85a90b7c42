/-
  A slice of strings as it comes in.
-/
import Derived.Test.Qxb6615613aModsGuard
import Derived.ProofKit
import Derived.OpenShut
import Derived.ShutString
import Derived.ChangeOld
import Derived.SliceStrings
import Derived.Deep.MidRow
namespace Go.Proofs.Qxb6615613aMods
open Go.ChangeShapes Go.WideShapes Go.ChangeAt Go.RowKit
open Go.ChangeMaps (open_string shut_string)

theorem own : ownKnob Trym.prog.godebug = none := by kernel_rfl
theorem laidOut : laidOutB Trym.prog = true := by kernel_rfl

theorem open_names {H : Type} {enc : TypeId × Value → H} {W : World} {a : Option Addr} {len cap : Nat} {d : DataW H} {p : List MemPlace}
    (h : DataW.Trod enc Trym.prog W 0 (fun _ => true) true 27 (.slice a len cap) d p) :
    ∃ ss : Nat → ByteArray, NamesAt ss W a len cap := by
  obtain ⟨fuel, hf⟩ := h
  rcases open_strings Trym.underlying27 Trym.underlying9 (by kernel_rfl) hf with ⟨hcs, _⟩ | ⟨x, l, c, ss, hcs, _, hl, hm, hz, _, hcell, hws⟩
  · simp [Value.cells] at hcs
    obtain ⟨rfl, rfl, rfl⟩ := hcs
    exact ⟨fun _ => ByteArray.empty, ⟨by omega, fun i h => by omega, fun h => by omega⟩⟩
  · simp [Value.cells] at hcs
    obtain ⟨rfl, rfl, rfl⟩ := hcs
    unfold maxLen at hm
    have hz' : ss.length = cap := by simpa using hz
    refine ⟨fun q => ss.getD q ByteArray.empty, ⟨by omega, fun i hi => ?_, fun hn => ?_⟩⟩
    · have := hws (ss.getD i ByteArray.empty) (by
        rw [List.getD_eq_getElem?_getD, List.getElem?_eq_getElem (by omega)]
        exact List.getElem_mem _)
      unfold maxLen at this
      exact this
    · obtain ⟨b, off, spot⟩ := x
      have hc := hcell 0 (by omega)
      have hspot : spot = none := by simpa [Addr.add] using World.cell?_spot hc
      subst hspot
      have hb : b < W.heap.size := World.block_lt_of_cell? W _ hc
      refine ⟨b, off, rfl, hb, hl, fun q hq => ?_⟩
      have := hcell q (by omega)
      rw [Addr.add_mid] at this
      exact this
end Go.Proofs.Qxb6615613aMods
