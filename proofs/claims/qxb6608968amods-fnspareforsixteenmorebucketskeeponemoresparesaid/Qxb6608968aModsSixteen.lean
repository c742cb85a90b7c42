/-
  THE STATEMENT 'Rows.FnSpareForSixteenMoreBucketsKeepOneMoreSpareSaid', proved; the frame after the shell that the kit's tool wrote for this function.
-/
import Derived.Test.Qxb6608968aModsSpare
import Derived.WalkKit
import Derived.ProofKit
import Derived.OpenShut
import Derived.ShutString
namespace Go.Proofs.Qxb6608968aMods.fnSpareForSixteenMoreBucketsKeepOneMoreSpare
open Go.ChangeShapes Go.WideShapes Go.ChangeAt Go.RowKit
open Go.ChangeMaps (open_string shut_string)
set_option linter.unusedVariables false      -- a walk need not use every 'w<i>' (that an integer argument fits its kind)

theorem own : ownKnob Trym.prog.godebug = none := by kernel_rfl

set_option maxHeartbeats 1000000 in
theorem walk (a0 : Int) (w0 : (Lit.int .i64 a0).wf = true) (w : World) :
    Calls Trym.prog 3 #[.int .i64 a0] w fun e w' => e = .returned (.bool true) ∧ Grown w w' := by
  have hb := bounds_i64 w0
  obtain ⟨hb0, hb1⟩ := hb
  clear w0
  by_cases h1 : a0 < 64
  · go_enter Trym.func3, Trym.ntmps3
    go_wp2
    go_ret
    exact ⟨rfl, Grown.refl _⟩
  · by_cases h2 : 9223372036854775791 < a0
    · go_enter Trym.func3, Trym.ntmps3
      go_wp2
      go_ret
      exact ⟨rfl, Grown.refl _⟩
    · go_enter Trym.func3, Trym.ntmps3
      go_wp2_with fail
      refine (zspare_any a0 w hb0 hb1).mono ?_
      rintro e w1 ⟨⟨s, hs, rfl⟩, rfl⟩
      have HS : Hid _ := hs; clear hs
      go_wp2_with fail
      refine (zspare_any (a0 + 16) _ (by omega) (by omega)).mono ?_
      rintro e w1 ⟨⟨m, hm, rfl⟩, rfl⟩
      rcases HS.out with ⟨x1, rfl⟩ | ⟨x1, x2, x3, x4⟩ | ⟨x1, rfl⟩
      · exfalso; omega
      · rcases hm with ⟨y1, rfl⟩ | ⟨y1, y2, y3, y4⟩ | ⟨y1, rfl⟩
        · exfalso; omega
        · have e : m = s + 1 := by omega
          subst e
          clear HS
          go_wp2
          go_ret
          exact ⟨rfl, Grown.refl _⟩
        · have e : s = 62 := by omega
          subst e
          clear HS
          go_wp2
          go_ret
          exact ⟨rfl, Grown.refl _⟩
      · rcases hm with ⟨y1, rfl⟩ | ⟨y1, y2, y3, y4⟩ | ⟨y1, rfl⟩
        · exfalso; omega
        · exfalso; omega
        · clear HS
          go_wp2
          go_ret
          exact ⟨rfl, Grown.refl _⟩

set_option maxRecDepth 100000 in
theorem lifted (os : Os) (started : os.Started) (H : Type) (enc : TypeId × Value → H) :
    ReturnsInHanded {} Trym.checked os 3 .any (Rows.fnSpareForSixteenMoreBucketsKeepOneMoreSpareSpec.pre6 enc Trym.prog Trym.f3 Rows.fnSpareForSixteenMoreBucketsKeepOneMoreSpareRow.domain false) (Rows.fnSpareForSixteenMoreBucketsKeepOneMoreSpareSpec.post enc Trym.prog Trym.f3 false true false false) := by
  refine returnsInHanded_of_change (C := Trym.checked) own started (by kernel_rfl) Trym.func3
    (ChangeSpec.witness6 (enc := enc) (C := Trym.checked) false ⟨#[], #[.int .i64 0], []⟩ 8 (by kernel_rfl) (by kernel_rfl) (by kernel_rfl) (by kernel_rfl)) ?_
  intro W base args ds gs before hval0 hW hcnd _
  have hval : ∀ (j : Nat) t v, Trym.f3.params[j]? = some t → args[j]? = some v → Value.okWide Trym.prog W .any base t v := hval0
  have hW' := hW
  obtain ⟨p, q, hA0, hV, rfl, hfz, hnd⟩ := hW
  have hA : DataW.TrodAll enc Trym.prog W 0 (fun _ => true) true Trym.f3.params.toList args.toList ds p := hA0
  rw [Trym.params3] at hA hval
  obtain ⟨v0, vs0, d0, ds0, p0, q0, hargs, rfl, rfl, h0, r0⟩ := trodAll_cons hA
  obtain ⟨rfl, rfl, rfl⟩ := trodAll_nil r0
  obtain rfl : args = #[v0] := by cases args; simp_all
  obtain ⟨rfl, rfl⟩ := trodVars_none hV
  obtain ⟨a0, rfl, rfl, rfl, w0⟩ := open_int Trym.underlying3 (hval 0 3 v0 rfl rfl) h0
  clear hA0 hval0
  simp only [List.append_nil] at hW'
  refine (walk a0 w0 W).mono fun e W' ⟨he, hg⟩ => ?_
  subst he
  exact ⟨_, rfl, post_of_same (pa := []) (pv := []) hW' (fun _ _ _ => (trodAll_cons_mk (shut_bool Trym.underlying4 _) trodAll_mk0)) (fun sp _ => (trodAll_cons_mk (shut_int Trym.underlying3 w0) trodAll_mk0)) (fun _ _ => rfl) rfl
    (hg.frame _) hg.2.1 (ok_one (by kernel_rfl) rfl (okWide_bool_mk Trym.underlying4 _))⟩

theorem over : Rows.fnSpareForSixteenMoreBucketsKeepOneMoreSpareRow.holds Trym.pinned (OpenSpec.ofChange Rows.fnSpareForSixteenMoreBucketsKeepOneMoreSpareSpec) :=
  OpenClaim.holds_of_wide 3 Trym.f3 rfl rfl rfl rfl rfl rfl rfl ⟨rfl, rfl, rfl, rfl, rfl⟩ rfl rfl rfl rfl rfl (by kernel_rfl) Trym.func3 (by kernel_rfl)
    (of_decide_eq_true (by kernel_rfl)) (by unfold Func.isWrapper; first | (rw [if_pos (by decide +kernel)]; kernel_rfl) | (rw [if_neg (by decide +kernel)]; exact ⟨rfl, rfl⟩))
    (fun os started H enc _ => lifted os started H enc)

/-- THE STATEMENT. -/
theorem proved : Rows.FnSpareForSixteenMoreBucketsKeepOneMoreSpareSaid :=
  over
end Go.Proofs.Qxb6608968aMods.fnSpareForSixteenMoreBucketsKeepOneMoreSpare

namespace Go.Proofs.Qxb6608968aMods
/-- THE STATEMENT, under a short name. -/
theorem sixteen_proved : Rows.FnSpareForSixteenMoreBucketsKeepOneMoreSpareSaid := fnSpareForSixteenMoreBucketsKeepOneMoreSpare.proved
end Go.Proofs.Qxb6608968aMods
