/-
  THE STATEMENT 'Rows.FnSpareForGrowsWithTheListAndIsZeroExactlyForShortOnesSaid', proved; the frame after the shell that the kit's tool wrote for this function.
-/
import Derived.Test.Qxb6608968aModsSpare
import Derived.WalkKit
import Derived.ProofKit
import Derived.OpenShut
import Derived.ShutString
namespace Go.Proofs.Qxb6608968aMods.fnSpareForGrowsWithTheListAndIsZeroExactlyForShortOnes
open Go.ChangeShapes Go.WideShapes Go.ChangeAt Go.RowKit
open Go.ChangeMaps (open_string shut_string)
set_option linter.unusedVariables false      -- a walk need not use every 'w<i>' (that an integer argument fits its kind)

theorem own : ownKnob Trym.prog.godebug = none := by kernel_rfl

set_option maxHeartbeats 1000000 in
theorem walk (a0 : Int) (a1 : Int) (w0 : (Lit.int .i64 a0).wf = true) (w1 : (Lit.int .i64 a1).wf = true) (w : World) :
    Calls Trym.prog 4 #[.int .i64 a0, .int .i64 a1] w fun e w' => e = .returned (.bool true) ∧ Grown w w' := by
  obtain ⟨p0, p1⟩ := bounds_i64 w0
  obtain ⟨q0, q1⟩ := bounds_i64 w1
  clear w0 w1
  by_cases hab : a1 < a0
  · go_enter Trym.func4, Trym.ntmps4
    go_wp2_with fail
    refine (zspare_any a1 w q0 q1).mono ?_
    rintro e w1 ⟨⟨s, hs, rfl⟩, rfl⟩
    have HS : Hid _ := hs; clear hs
    go_wp2_with fail
    refine (zspare_any a0 _ p0 p1).mono ?_
    rintro e w1 ⟨⟨m, hm, rfl⟩, rfl⟩
    have HM : Hid _ := hm; clear hm
    rcases HS.out with ⟨x1, rfl⟩ | ⟨x1, x2, x3, x4⟩ | ⟨x1, rfl⟩
    · rcases HM.out with ⟨y1, rfl⟩ | ⟨y1, y2, y3, y4⟩ | ⟨y1, rfl⟩
      · clear HS HM
        go_wp2
        go_ret
        exact ⟨rfl, Grown.refl _⟩
      · clear HS HM
        have hm0 : (m == 0) = false := by simp; omega
        go_wp2
        go_ret
        exact ⟨rfl, Grown.refl _⟩
      · clear HS HM
        go_wp2
        go_ret
        exact ⟨rfl, Grown.refl _⟩
    · have hs0 : (s == 0) = false := by simp; omega
      rcases HM.out with ⟨y1, rfl⟩ | ⟨y1, y2, y3, y4⟩ | ⟨y1, rfl⟩
      · exfalso; omega
      · clear HS HM
        have hm0 : (m == 0) = false := by simp; omega
        have hsm : s ≤ m := by omega
        go_wp2
        go_ret
        exact ⟨rfl, Grown.refl _⟩
      · clear HS HM
        have hsm : s ≤ 63 := by omega
        go_wp2
        go_ret
        exact ⟨rfl, Grown.refl _⟩
    · rcases HM.out with ⟨y1, rfl⟩ | ⟨y1, y2, y3, y4⟩ | ⟨y1, rfl⟩
      · exfalso; omega
      · exfalso; omega
      · clear HS HM
        go_wp2
        go_ret
        exact ⟨rfl, Grown.refl _⟩
  · go_enter Trym.func4, Trym.ntmps4
    go_wp2_with fail
    refine (zspare_any a0 w p0 p1).mono ?_
    rintro e w1 ⟨⟨s, hs, rfl⟩, rfl⟩
    have HS : Hid _ := hs; clear hs
    go_wp2_with fail
    refine (zspare_any a1 _ q0 q1).mono ?_
    rintro e w1 ⟨⟨m, hm, rfl⟩, rfl⟩
    have HM : Hid _ := hm; clear hm
    rcases HS.out with ⟨x1, rfl⟩ | ⟨x1, x2, x3, x4⟩ | ⟨x1, rfl⟩
    · rcases HM.out with ⟨y1, rfl⟩ | ⟨y1, y2, y3, y4⟩ | ⟨y1, rfl⟩
      · clear HS HM
        go_wp2
        go_ret
        exact ⟨rfl, Grown.refl _⟩
      · clear HS HM
        have hm0 : (m == 0) = false := by simp; omega
        go_wp2
        go_ret
        exact ⟨rfl, Grown.refl _⟩
      · clear HS HM
        go_wp2
        go_ret
        exact ⟨rfl, Grown.refl _⟩
    · have hs0 : (s == 0) = false := by simp; omega
      rcases HM.out with ⟨y1, rfl⟩ | ⟨y1, y2, y3, y4⟩ | ⟨y1, rfl⟩
      · exfalso; omega
      · clear HS HM
        have hm0 : (m == 0) = false := by simp; omega
        have hsm : s ≤ m := by omega
        go_wp2
        go_ret
        exact ⟨rfl, Grown.refl _⟩
      · clear HS HM
        have hsm : s ≤ 63 := by omega
        go_wp2
        go_ret
        exact ⟨rfl, Grown.refl _⟩
    · rcases HM.out with ⟨y1, rfl⟩ | ⟨y1, y2, y3, y4⟩ | ⟨y1, rfl⟩
      · exfalso; omega
      · exfalso; omega
      · clear HS HM
        go_wp2
        go_ret
        exact ⟨rfl, Grown.refl _⟩

set_option maxRecDepth 100000 in
theorem lifted (os : Os) (started : os.Started) (H : Type) (enc : TypeId × Value → H) :
    ReturnsInHanded {} Trym.checked os 4 .any (Rows.fnSpareForGrowsWithTheListAndIsZeroExactlyForShortOnesSpec.pre6 enc Trym.prog Trym.f4 Rows.fnSpareForGrowsWithTheListAndIsZeroExactlyForShortOnesRow.domain false) (Rows.fnSpareForGrowsWithTheListAndIsZeroExactlyForShortOnesSpec.post enc Trym.prog Trym.f4 false true false false) := by
  refine returnsInHanded_of_change (C := Trym.checked) own started (by kernel_rfl) Trym.func4
    (ChangeSpec.witness6 (enc := enc) (C := Trym.checked) false ⟨#[], #[.int .i64 0, .int .i64 0], []⟩ 8 (by kernel_rfl) (by kernel_rfl) (by kernel_rfl) (by kernel_rfl)) ?_
  intro W base args ds gs before hval0 hW hcnd _
  have hval : ∀ (j : Nat) t v, Trym.f4.params[j]? = some t → args[j]? = some v → Value.okWide Trym.prog W .any base t v := hval0
  have hW' := hW
  obtain ⟨p, q, hA0, hV, rfl, hfz, hnd⟩ := hW
  have hA : DataW.TrodAll enc Trym.prog W 0 (fun _ => true) true Trym.f4.params.toList args.toList ds p := hA0
  rw [Trym.params4] at hA hval
  obtain ⟨v0, vs0, d0, ds0, p0, q0, hargs, rfl, rfl, h0, r0⟩ := trodAll_cons hA
  obtain ⟨v1, vs1, d1, ds1, p1, q1, rfl, rfl, rfl, h1, r1⟩ := trodAll_cons r0
  obtain ⟨rfl, rfl, rfl⟩ := trodAll_nil r1
  obtain rfl : args = #[v0, v1] := by cases args; simp_all
  obtain ⟨rfl, rfl⟩ := trodVars_none hV
  obtain ⟨a0, rfl, rfl, rfl, w0⟩ := open_int Trym.underlying3 (hval 0 3 v0 rfl rfl) h0
  obtain ⟨a1, rfl, rfl, rfl, w1⟩ := open_int Trym.underlying3 (hval 1 3 v1 rfl rfl) h1
  clear hA0 hval0
  simp only [List.append_nil] at hW'
  refine (walk a0 a1 w0 w1 W).mono fun e W' ⟨he, hg⟩ => ?_
  subst he
  exact ⟨_, rfl, post_of_same (pa := []) (pv := []) hW' (fun _ _ _ => (trodAll_cons_mk (shut_bool Trym.underlying4 _) trodAll_mk0)) (fun sp _ => (trodAll_cons_mk (shut_int Trym.underlying3 w0) (trodAll_cons_mk (shut_int Trym.underlying3 w1) trodAll_mk0))) (fun _ _ => rfl) rfl
    (hg.frame _) hg.2.1 (ok_one (by kernel_rfl) rfl (okWide_bool_mk Trym.underlying4 _))⟩

theorem over : Rows.fnSpareForGrowsWithTheListAndIsZeroExactlyForShortOnesRow.holds Trym.pinned (OpenSpec.ofChange Rows.fnSpareForGrowsWithTheListAndIsZeroExactlyForShortOnesSpec) :=
  OpenClaim.holds_of_wide 4 Trym.f4 rfl rfl rfl rfl rfl rfl rfl ⟨rfl, rfl, rfl, rfl, rfl⟩ rfl rfl rfl rfl rfl (by kernel_rfl) Trym.func4 (by kernel_rfl)
    (of_decide_eq_true (by kernel_rfl)) (by unfold Func.isWrapper; first | (rw [if_pos (by decide +kernel)]; kernel_rfl) | (rw [if_neg (by decide +kernel)]; exact ⟨rfl, rfl⟩))
    (fun os started H enc _ => lifted os started H enc)

/-- THE STATEMENT. -/
theorem proved : Rows.FnSpareForGrowsWithTheListAndIsZeroExactlyForShortOnesSaid :=
  over
end Go.Proofs.Qxb6608968aMods.fnSpareForGrowsWithTheListAndIsZeroExactlyForShortOnes

namespace Go.Proofs.Qxb6608968aMods
/-- THE STATEMENT, under a short name. -/
theorem grows_proved : Rows.FnSpareForGrowsWithTheListAndIsZeroExactlyForShortOnesSaid := fnSpareForGrowsWithTheListAndIsZeroExactlyForShortOnes.proved
end Go.Proofs.Qxb6608968aMods
