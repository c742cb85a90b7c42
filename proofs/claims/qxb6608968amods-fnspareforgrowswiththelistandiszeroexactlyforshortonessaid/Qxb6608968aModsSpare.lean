/-
  spareFor and ZZspareFor, walked.
-/
import Derived.Test.Qxb6608968aModsRows
import Derived.WalkKit
import Derived.WalkSpells
import Derived.WalkLawsBesides
namespace Go.Proofs.Qxb6608968aMods
open Go.RowKit

/-- What spareFor answers: none up to 63 buckets; a sixteenth; at most 63. -/
def SpPost (b s : Int) : Prop := (b ≤ 63 ∧ s = 0) ∨ (64 ≤ b ∧ b < 1008 ∧ 16 * s ≤ b ∧ b < 16 * s + 16) ∨ (1008 ≤ b ∧ s = 63)

set_option maxHeartbeats 400000 in
theorem spare_any (b : Int) (w : World) (_h0 : -9223372036854775808 ≤ b) (_h1 : b ≤ 9223372036854775807) :
    Calls Trym.prog 16 #[.int .i64 b] w fun e w' => (∃ s, SpPost b s ∧ e = .returned (.int .i64 s)) ∧ w' = w := by
  by_cases hb : b ≤ 63
  · go_enter Trym.func16, Trym.ntmps16
    go_wp2
    go_ret
    exact ⟨⟨0, Or.inl ⟨hb, rfl⟩, rfl⟩, rfl⟩
  · have hb0 : 0 ≤ b := by omega
    by_cases hc : b < 1008
    · have hq : b / 16 ≤ 63 := by omega
      go_enter Trym.func16, Trym.ntmps16
      go_wp2
      go_ret
      exact ⟨⟨b / 16, Or.inr (Or.inl (by omega)), rfl⟩, rfl⟩
    · go_enter Trym.func16, Trym.ntmps16
      go_wp2
      · go_ret
        exact ⟨⟨63, Or.inr (Or.inr (by omega)), rfl⟩, rfl⟩
      · go_ret
        exact ⟨⟨b / 16, Or.inr (Or.inr (by omega)), rfl⟩, rfl⟩

set_option maxHeartbeats 400000 in
theorem zspare_any (b : Int) (w : World) (h0 : -9223372036854775808 ≤ b) (h1 : b ≤ 9223372036854775807) :
    Calls Trym.prog 6 #[.int .i64 b] w fun e w' => (∃ s, SpPost b s ∧ e = .returned (.int .i64 s)) ∧ w' = w := by
  go_enter Trym.func6, Trym.ntmps6
  go_wp2_with fail
  refine (spare_any b w h0 h1).mono ?_
  rintro e w1 ⟨⟨s, hs, rfl⟩, rfl⟩
  have HS : Hid _ := hs; clear hs
  go_wp2
  go_ret
  exact ⟨⟨s, HS.out, rfl⟩, rfl⟩
end Go.Proofs.Qxb6608968aMods
