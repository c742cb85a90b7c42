/-
  THE STATEMENT 'Rows.FnFoundItemsResetClearsEveryItemAndKeepsTheChunksSaid', proved.
-/
import Derived.Test.Qxb6615613aModsFrame
import Derived.Test.Qxb6615613aModsWalkF
import Derived.Test.Qxb6615613aModsWalkT
namespace Go.Proofs.Qxb6615613aMods
open Go.ChangeShapes Go.WideShapes Go.ChangeAt Go.RowKit
open Go.ChangeMaps (open_string shut_string)

theorem walk5 (ss ts : Nat → ByteArray) (a a' : Option Addr) (n cp m cp' : Nat) (tr : Bool) (x : ByteArray) (v : Int) (w : World) (h : NamesAt ss w a n cp) (h' : NamesAt ts w a' m cp') (hx : x.size ≤ 9223372036854775807) :
    Calls Trym.prog 5 #[.slice a n cp, .bool tr, .string x, .int .i64 v, .slice a' m cp'] w fun e w' => e = .returned (.bool true) ∧ Below w.heap.size w w' := by
  cases tr
  · exact walk5F ss ts a a' n cp m cp' x v w h h' hx
  · exact walk5T ss ts a a' n cp m cp' x v w h h' hx

set_option maxRecDepth 100000 in
theorem reset_lifted (os : Os) (started : os.Started) (H : Type) (enc : TypeId × Value → H) :
    ReturnsInHanded {} Trym.checked os 5 .any (Rows.fnFoundItemsResetClearsEveryItemAndKeepsTheChunksSpec.pre6 enc Trym.prog Trym.f5 Rows.fnFoundItemsResetClearsEveryItemAndKeepsTheChunksRow.domain false) (Rows.fnFoundItemsResetClearsEveryItemAndKeepsTheChunksSpec.post enc Trym.prog Trym.f5 false true false false) := by
  refine returnsInHanded_of_change (C := Trym.checked) own started (by kernel_rfl) Trym.func5
    (ChangeSpec.witness6 (enc := enc) (C := Trym.checked) false ⟨#[], #[.slice none 0 0, .bool false, .string ⟨#[]⟩, .int .i64 0, .slice none 0 0], []⟩ 8 (by kernel_rfl) (by kernel_rfl) (by kernel_rfl) (by kernel_rfl)) ?_
  intro W base args ds gs before hval0 hW hcnd _
  have hval : ∀ (j : Nat) t v, Trym.f5.params[j]? = some t → args[j]? = some v → Value.okWide Trym.prog W .any base t v := hval0
  have hW' := hW
  obtain ⟨p, q, hA0, hV, rfl, hfz, hnd⟩ := hW
  have hA : DataW.TrodAll enc Trym.prog W 0 (fun _ => true) true Trym.f5.params.toList args.toList ds p := hA0
  rw [Trym.params5] at hA hval
  obtain ⟨v0, vs0, d0, ds0, p0, q0, hargs, rfl, rfl, h0, r0⟩ := trodAll_cons hA
  obtain ⟨v1, vs1, d1, ds1, p1, q1, rfl, rfl, rfl, h1, r1⟩ := trodAll_cons r0
  obtain ⟨v2, vs2, d2, ds2, p2, q2, rfl, rfl, rfl, h2, r2⟩ := trodAll_cons r1
  obtain ⟨v3, vs3, d3, ds3, p3, q3, rfl, rfl, rfl, h3, r3⟩ := trodAll_cons r2
  obtain ⟨v4, vs4, d4, ds4, p4, q4, rfl, rfl, rfl, h4, r4⟩ := trodAll_cons r3
  obtain ⟨rfl, rfl, rfl⟩ := trodAll_nil r4
  obtain rfl : args = #[v0, v1, v2, v3, v4] := by cases args; simp_all
  obtain ⟨rfl, rfl⟩ := trodVars_none hV
  have lt0 : ∀ x ∈ p0, x.block < W.heap.size := by obtain ⟨m, hm⟩ := h0; exact DataW.trod_lt m _ _ _ hm
  have lt4 : ∀ x ∈ p4, x.block < W.heap.size := by obtain ⟨m, hm⟩ := h4; exact DataW.trod_lt m _ _ _ hm
  obtain ⟨a0, len0, cap0, rfl⟩ := okWide_slice Trym.underlying27 (hval 0 27 v0 rfl rfl)
  obtain ⟨a4, len4, cap4, rfl⟩ := okWide_slice Trym.underlying27 (hval 4 27 v4 rfl rfl)
  obtain ⟨ss, hss⟩ := open_names h0
  obtain ⟨ts, hts⟩ := open_names h4
  obtain ⟨b, rfl, rfl, rfl⟩ := open_bool Trym.underlying4 (hval 1 4 v1 rfl rfl) h1
  obtain ⟨x, rfl, rfl, rfl, hx⟩ := open_string Trym.underlying9 (hval 2 9 v2 rfl rfl) h2
  obtain ⟨v, rfl, rfl, rfl, wv⟩ := open_int Trym.underlying3 (hval 3 3 v3 rfl rfl) h3
  have hx' := hx
  unfold maxLen at hx'
  clear hA0 hval0
  refine (walk5 ss ts a0 a4 len0 cap0 len4 cap4 b x v W hss hts hx').mono fun e W' ⟨he, bel⟩ => ?_
  subst he
  exact ⟨_, rfl, _, _, _, [], _, [], hW', trodAll_mk1 (shut_bool Trym.underlying4 _), (trodAll_cons_mk (Below.trod laidOut (by kernel_rfl) (of_decide_eq_true (by kernel_rfl)) h0 bel lt0) (trodAll_cons_mk (shut_bool Trym.underlying4 _) (trodAll_cons_mk (shut_string Trym.underlying9 hx) (trodAll_cons_mk (shut_int Trym.underlying3 wv) (trodAll_cons_mk (Below.trod laidOut (by kernel_rfl) (of_decide_eq_true (by kernel_rfl)) h4 bel lt4) trodAll_mk0))))), rfl, bel.frame _, fun h => by cases h⟩

/-- THE STATEMENT. -/
theorem reset_proved : Rows.FnFoundItemsResetClearsEveryItemAndKeepsTheChunksSaid :=
  OpenClaim.holds_of_wide 5 Trym.f5 rfl rfl rfl rfl rfl rfl rfl ⟨rfl, rfl, rfl, rfl, rfl⟩ rfl rfl rfl rfl rfl (by kernel_rfl) Trym.func5 (by kernel_rfl)
    (of_decide_eq_true (by kernel_rfl)) (by unfold Func.isWrapper; first | (rw [if_pos (by decide +kernel)]; kernel_rfl) | (rw [if_neg (by decide +kernel)]; exact ⟨rfl, rfl⟩))
    (fun os started H enc _ => reset_lifted os started H enc)
end Go.Proofs.Qxb6615613aMods
