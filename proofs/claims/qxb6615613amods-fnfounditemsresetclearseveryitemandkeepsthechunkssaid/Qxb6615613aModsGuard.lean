/-
  The bound on lengths (function 15), walked; a slice of strings.
-/
import Derived.Test.Qxb6615613aModsRows
import Derived.WalkKit
import Derived.WalkSpells
import Derived.WalkLawsBesides
namespace Go.Proofs.Qxb6615613aMods
open Go.RowKit

/-- A slice of n strings: string q is ss q. -/
structure NamesAt (ss : Nat → ByteArray) (w : World) (a : Option Addr) (n cp : Nat) : Prop where
  len : n ≤ 9223372036854775807
  sizes : ∀ i, i < n → (ss i).size ≤ 9223372036854775807
  cells : 0 < n → ∃ b off, a = some ⟨b, off, none⟩ ∧ b < w.heap.size ∧ n ≤ cp ∧ ∀ q, q < n → w.cell? ⟨b, off + q, none⟩ = some (.string (ss q))

theorem NamesAt.cell {ss : Nat → ByteArray} {w : World} {a : Option Addr} {n cp : Nat} (h : NamesAt ss w a n cp) (i : Nat) (hi : i < n) : ∃ b off, a = some ⟨b, off, none⟩ ∧ b < w.heap.size ∧ w.cell? ⟨b, off + i, none⟩ = some (.string (ss i)) := by
  obtain ⟨b, off, e, hb, _, hc⟩ := h.cells (by omega)
  exact ⟨b, off, e, hb, hc i hi⟩

theorem NamesAt.later {ss : Nat → ByteArray} {w w' : World} {a : Option Addr} {n cp : Nat} (h : NamesAt ss w a n cp) (hb : Below w.heap.size w w') : NamesAt ss w' a n cp := by
  refine ⟨h.len, h.sizes, fun hn => ?_⟩
  obtain ⟨b, off, e, hbl, hcp, hc⟩ := h.cells hn
  exact ⟨b, off, e, Nat.lt_of_lt_of_le hbl hb.size, hcp, fun q hq => (hb.cell (p := ⟨b, off + q, none⟩) hbl).trans (hc q hq)⟩

/-- The bound holds. -/
structure Short (ss : Nat → ByteArray) (n : Nat) : Prop where
  num : n ≤ 1048576
  each : ∀ i, i < n → (ss i).size ≤ 1048576

def GuardPost (ss : Nat → ByteArray) (n : Nat) (ts : Nat → ByteArray) (m : Nat) (e : Ending) : Prop := e = .returned (.bool false) ∨ (e = .returned (.bool true) ∧ Short ss n ∧ Short ts m)

set_option maxHeartbeats 800000 in
theorem guard15_any (ss ts : Nat → ByteArray) (a a' : Option Addr) (n cp m cp' : Nat) (tr : Bool) (x : ByteArray) (v : Int) (w : World) (h : NamesAt ss w a n cp) (h' : NamesAt ts w a' m cp') (hx : x.size ≤ 9223372036854775807) :
    Calls Trym.prog 15 #[.slice a n cp, .bool tr, .string x, .int .i64 v, .slice a' m cp'] w fun e w' => GuardPost ss n ts m e ∧ w' = w := by
  have hn := h.len
  have hm := h'.len
  have H : Hid _ := h; have H' : Hid _ := h'
  clear h h'
  by_cases hb : n ≤ 1048576
  · have hb' : ¬ (1048576 : Int) < n := by omega
    go_enter Trym.func15, Trym.ntmps15
    go_wp2
    go_loop [11, 12] (fun z i => ∃ (k : Nat) (s : Int), k ≤ n ∧ 0 ≤ s ∧ s ≤ 1048576 ∧ z = .int .i64 s ∧ i = .int .i64 k ∧ ∀ j, j < k → (ss j).size ≤ 1048576) (fun _ i => n - (intOf i).toNat)
    case atStart => exact ⟨0, n, by omega, by omega, by omega, rfl, rfl, fun j hj => by omega⟩
    case round =>
      obtain ⟨k, s, hk, hs0, hs1, rfl, rfl, hall⟩ := hrel
      have HA : Hid _ := hall; clear hall
      by_cases hlt : k < n
      · have hlt' : (k : Int) < n := by omega
        obtain ⟨b, off, rfl, _, hc⟩ := H.out.cell k hlt
        have hsz := H.out.sizes k hlt
        by_cases hl : (ss k).size ≤ 1048576
        · by_cases hm : s + (ss k).size ≤ 1048576
          · go_wp2
            go_round
            case rel => exact ⟨k + 1, s + (ss k).size, by omega, by omega, hm, by go_num, by go_num, fun j hj => by
              by_cases e : j = k
              · subst e; exact hl
              · exact HA.out j (by omega)⟩
            case measure => simp [intOf]; omega
          · go_wp2
            go_ret
            exact ⟨Or.inl rfl, rfl⟩
        · go_wp2
          go_ret
          exact ⟨Or.inl rfl, rfl⟩
      · have hlt' : ¬ (k : Int) < n := by omega
        have HS : Hid (Short ss n) := ⟨hb, fun j hj => HA.out j (by omega)⟩
        clear HA H
        by_cases hl : x.size ≤ 1048576
        · by_cases hm : s + x.size ≤ 1048576
          · by_cases hb2 : m ≤ 1048576
            · have hb2' : ¬ (1048576 : Int) < m := by omega
              by_cases hm3 : s + x.size + m ≤ 1048576
              · go_wp2
                go_loop [11, 13] (fun z i => ∃ (k : Nat) (s : Int), k ≤ m ∧ 0 ≤ s ∧ s ≤ 1048576 ∧ z = .int .i64 s ∧ i = .int .i64 k ∧ ∀ j, j < k → (ts j).size ≤ 1048576) (fun _ i => m - (intOf i).toNat)
                case atStart => exact ⟨0, s + x.size + m, by omega, by omega, by omega, rfl, rfl, fun j hj => by omega⟩
                case round =>
                  clear hlt hlt' hm3 hm hs0 hs1 hk
                  obtain ⟨k, s, hk, hs0, hs1, rfl, rfl, hall⟩ := hrel
                  have HA : Hid _ := hall; clear hall
                  by_cases hlt : k < m
                  · have hlt' : (k : Int) < m := by omega
                    obtain ⟨b, off, rfl, _, hc⟩ := H'.out.cell k hlt
                    have hsz := H'.out.sizes k hlt
                    by_cases hl : (ts k).size ≤ 1048576
                    · by_cases hm : s + (ts k).size ≤ 1048576
                      · go_wp2
                        go_round
                        case rel => exact ⟨k + 1, s + (ts k).size, by omega, by omega, hm, by go_num, by go_num, fun j hj => by
                          by_cases e : j = k
                          · subst e; exact hl
                          · exact HA.out j (by omega)⟩
                        case measure => simp [intOf]; omega
                      · go_wp2
                        go_ret
                        exact ⟨Or.inl rfl, rfl⟩
                    · go_wp2
                      go_ret
                      exact ⟨Or.inl rfl, rfl⟩
                  · have hlt' : ¬ (k : Int) < m := by omega
                    go_wp2
                    go_ret
                    exact ⟨Or.inr ⟨rfl, HS.out, hb2, fun j hj => HA.out j (by omega)⟩, rfl⟩
              · go_wp2
                go_ret
                exact ⟨Or.inl rfl, rfl⟩
            · have hb2' : (1048576 : Int) < m := by omega
              go_wp2
              go_ret
              exact ⟨Or.inl rfl, rfl⟩
          · go_wp2
            go_ret
            exact ⟨Or.inl rfl, rfl⟩
        · go_wp2
          go_ret
          exact ⟨Or.inl rfl, rfl⟩
  · have hb' : (1048576 : Int) < n := by omega
    go_enter Trym.func15, Trym.ntmps15
    go_wp2
    go_ret
    exact ⟨Or.inl rfl, rfl⟩
end Go.Proofs.Qxb6615613aMods
