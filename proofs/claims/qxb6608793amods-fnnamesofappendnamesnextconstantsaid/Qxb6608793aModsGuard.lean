import Derived.Test.Qxb6608793aModsRows
import Derived.WalkKit
import Derived.WalkSpells
import Derived.WalkLawsBesides
namespace Go.Proofs.Qxb6608793aMods
open Go.RowKit

/-- A slice of n strings: string q is ss q. -/
structure NamesAt (ss : Nat → ByteArray) (w : World) (a : Option Addr) (n cp : Nat) : Prop where
  len : n ≤ 9223372036854775807
  sizes : ∀ i, i < n → (ss i).size ≤ 9223372036854775807
  cells : 0 < n → ∃ b off, a = some ⟨b, off, none⟩ ∧ b < w.heap.size ∧ n ≤ cp ∧ ∀ q, q < n → w.cell? ⟨b, off + q, none⟩ = some (.string (ss q))

theorem NamesAt.cell {ss : Nat → ByteArray} {w : World} {a : Option Addr} {n cp : Nat} (h : NamesAt ss w a n cp) (i : Nat) (hi : i < n) : ∃ b off, a = some ⟨b, off, none⟩ ∧ w.cell? ⟨b, off + i, none⟩ = some (.string (ss i)) := by
  obtain ⟨b, off, e, _, _, hc⟩ := h.cells (by omega)
  exact ⟨b, off, e, hc i hi⟩

def GuardPost (n : Nat) (e : Ending) : Prop := e = .returned (.bool false) ∨ (e = .returned (.bool true) ∧ n ≤ 1048576)

set_option maxHeartbeats 400000 in
theorem guard7_any (ss : Nat → ByteArray) (a : Option Addr) (n cp : Nat) (x : ByteArray) (v : Int) (w : World) (h : NamesAt ss w a n cp) (hx : x.size ≤ 9223372036854775807) :
    Calls Trym.prog 7 #[.slice a n cp, .string x, .int .i64 v] w fun e w' => GuardPost n e ∧ w' = w := by
  have hn := h.len
  have H : Hid _ := h
  clear h
  by_cases hb : n ≤ 1048576
  · have hb' : ¬ (1048576 : Int) < n := by omega
    go_enter Trym.func7, Trym.ntmps7
    go_wp2
    go_loop [7, 8] (fun z i => ∃ (k : Nat) (s : Int), k ≤ n ∧ 0 ≤ s ∧ s ≤ 1048576 ∧ z = .int .i64 s ∧ i = .int .i64 k) (fun _ i => n - (intOf i).toNat)
    case atStart => exact ⟨0, n, by omega, by omega, by omega, rfl, rfl⟩
    case round =>
      obtain ⟨k, s, hk, hs0, hs1, rfl, rfl⟩ := hrel
      by_cases hlt : k < n
      · have hlt' : (k : Int) < n := by omega
        obtain ⟨b, off, rfl, hc⟩ := H.out.cell k hlt
        have hsz := H.out.sizes k hlt
        by_cases hl : (ss k).size ≤ 1048576
        · by_cases hm : s + (ss k).size ≤ 1048576
          · go_wp2
            go_round
            case rel => exact ⟨k + 1, s + (ss k).size, by omega, by omega, hm, by go_num, by go_num⟩
            case measure => simp [intOf]; omega
          · go_wp2
            go_ret
            exact ⟨Or.inl rfl, rfl⟩
        · go_wp2
          go_ret
          exact ⟨Or.inl rfl, rfl⟩
      · have hlt' : ¬ (k : Int) < n := by omega
        by_cases hl : x.size ≤ 1048576
        · by_cases hm : s + x.size ≤ 1048576
          · go_wp2
            go_ret
            exact ⟨Or.inr ⟨rfl, hb⟩, rfl⟩
          · go_wp2
            go_ret
            exact ⟨Or.inl rfl, rfl⟩
        · go_wp2
          go_ret
          exact ⟨Or.inl rfl, rfl⟩
  · have hb' : (1048576 : Int) < n := by omega
    go_enter Trym.func7, Trym.ntmps7
    go_wp2
    go_ret
    exact ⟨Or.inl rfl, rfl⟩
set_option maxHeartbeats 400000 in
theorem guard10_any (ss : Nat → ByteArray) (a : Option Addr) (n cp : Nat) (x : ByteArray) (v : Int) (w : World) (h : NamesAt ss w a n cp) (hx : x.size ≤ 9223372036854775807) :
    Calls Trym.prog 10 #[.slice a n cp, .string x, .int .i64 v] w fun e w' => GuardPost n e ∧ w' = w := by
  have hn := h.len
  have H : Hid _ := h
  clear h
  by_cases hb : n ≤ 1048576
  · have hb' : ¬ (1048576 : Int) < n := by omega
    go_enter Trym.func10, Trym.ntmps10
    go_wp2
    go_loop [7, 8] (fun z i => ∃ (k : Nat) (s : Int), k ≤ n ∧ 0 ≤ s ∧ s ≤ 1048576 ∧ z = .int .i64 s ∧ i = .int .i64 k) (fun _ i => n - (intOf i).toNat)
    case atStart => exact ⟨0, n, by omega, by omega, by omega, rfl, rfl⟩
    case round =>
      obtain ⟨k, s, hk, hs0, hs1, rfl, rfl⟩ := hrel
      by_cases hlt : k < n
      · have hlt' : (k : Int) < n := by omega
        obtain ⟨b, off, rfl, hc⟩ := H.out.cell k hlt
        have hsz := H.out.sizes k hlt
        by_cases hl : (ss k).size ≤ 1048576
        · by_cases hm : s + (ss k).size ≤ 1048576
          · go_wp2
            go_round
            case rel => exact ⟨k + 1, s + (ss k).size, by omega, by omega, hm, by go_num, by go_num⟩
            case measure => simp [intOf]; omega
          · go_wp2
            go_ret
            exact ⟨Or.inl rfl, rfl⟩
        · go_wp2
          go_ret
          exact ⟨Or.inl rfl, rfl⟩
      · have hlt' : ¬ (k : Int) < n := by omega
        by_cases hl : x.size ≤ 1048576
        · by_cases hm : s + x.size ≤ 1048576
          · go_wp2
            go_ret
            exact ⟨Or.inr ⟨rfl, hb⟩, rfl⟩
          · go_wp2
            go_ret
            exact ⟨Or.inl rfl, rfl⟩
        · go_wp2
          go_ret
          exact ⟨Or.inl rfl, rfl⟩
  · have hb' : (1048576 : Int) < n := by omega
    go_enter Trym.func10, Trym.ntmps10
    go_wp2
    go_ret
    exact ⟨Or.inl rfl, rfl⟩

def IntPost (e : Ending) : Prop := ∃ r : Int, 0 ≤ r ∧ r ≤ 10000000 ∧ e = .returned (.int .i64 r)

set_option maxHeartbeats 400000 in
theorem addString_any (x : ByteArray) (w : World) (hx : x.size ≤ 9223372036854775807) :
    Calls Trym.prog 20 #[.int .i64 0, .string x] w fun e w' => IntPost e ∧ w' = w := by
  by_cases hl : x.size ≤ 1048576
  · go_enter Trym.func20, Trym.ntmps20
    go_wp2
    go_ret
    exact ⟨⟨_, by omega, by omega, rfl⟩, rfl⟩
  · go_enter Trym.func20, Trym.ntmps20
    go_wp2
    go_ret
    exact ⟨⟨_, by omega, by omega, rfl⟩, rfl⟩

set_option maxHeartbeats 400000 in
theorem addStrings_any (ss : Nat → ByteArray) (a : Option Addr) (n cp : Nat) (c : Int) (w : World) (h : NamesAt ss w a n cp) (h0 : 0 ≤ c) (h1 : c ≤ 10000000) :
    Calls Trym.prog 19 #[.int .i64 c, .slice a n cp] w fun e w' => IntPost e ∧ w' = w := by
  have hn := h.len
  have H : Hid _ := h
  clear h
  by_cases hc : c ≤ 1048576
  · by_cases hb : n ≤ 1048576
    · have hb' : ¬ (1048576 : Int) < n := by omega
      go_enter Trym.func19, Trym.ntmps19
      go_wp2
      go_loop [0, 5] (fun z i => ∃ (k : Nat) (s : Int), k ≤ n ∧ 0 ≤ s ∧ s ≤ 10000000 ∧ z = .int .i64 s ∧ i = .int .i64 k) (fun _ i => n - (intOf i).toNat)
      case atStart => exact ⟨0, c + 8 * n, by omega, by omega, by omega, rfl, rfl⟩
      case round =>
        obtain ⟨k, s, hk, hs0, hs1, rfl, rfl⟩ := hrel
        by_cases hlt : k < n
        · have hlt' : (k : Int) < n := by omega
          obtain ⟨b, off, rfl, hcell⟩ := H.out.cell k hlt
          have hsz := H.out.sizes k hlt
          by_cases hs : s ≤ 1048576
          · by_cases hl : (ss k).size ≤ 1048576
            · go_wp2
              go_round
              case rel => exact ⟨k + 1, s + (ss k).size, by omega, by omega, by omega, by go_num, by go_num⟩
              case measure => simp [intOf]; omega
            · go_wp2
              go_ret
              exact ⟨⟨_, by omega, by omega, rfl⟩, rfl⟩
          · go_wp2
            go_ret
            exact ⟨⟨_, by omega, by omega, rfl⟩, rfl⟩
        · have hlt' : ¬ (k : Int) < n := by omega
          go_wp2
          go_ret
          exact ⟨⟨_, hs0, hs1, rfl⟩, rfl⟩
    · have hb' : (1048576 : Int) < n := by omega
      go_enter Trym.func19, Trym.ntmps19
      go_wp2
      go_ret
      exact ⟨⟨_, by omega, by omega, rfl⟩, rfl⟩
  · go_enter Trym.func19, Trym.ntmps19
    go_wp2
    go_ret
    exact ⟨⟨_, by omega, by omega, rfl⟩, rfl⟩

set_option maxHeartbeats 400000 in
theorem namesBytes_any (ss : Nat → ByteArray) (a : Option Addr) (n cp : Nat) (x : ByteArray) (w : World) (h : NamesAt ss w a n cp) (hx : x.size ≤ 9223372036854775807) :
    Calls Trym.prog 8 #[.slice a n cp, .string x] w fun e w' => IntPost e ∧ w' = w := by
  have H : Hid _ := h
  clear h
  go_enter Trym.func8, Trym.ntmps8
  go_wp2_with fail
  refine (addString_any x w hx).mono ?_
  rintro e w1 ⟨⟨r, h0, h1, rfl⟩, rfl⟩
  go_wp2_with fail
  refine (addStrings_any ss a n cp r _ H.out h0 h1).mono ?_
  rintro e w1 ⟨⟨q, g0, g1, rfl⟩, rfl⟩
  go_wp2
  go_ret
  exact ⟨⟨_, g0, g1, rfl⟩, rfl⟩

set_option maxHeartbeats 400000 in
theorem of_no (a : Option Addr) (n cp : Nat) (v : Int) (w : World) (_hn : n ≤ 9223372036854775807) (hv : v < 1 ∨ (n : Int) ≤ v) :
    Calls Trym.prog 21 #[.slice a n cp, .int .i64 v] w fun e w' => e = .returned (.tuple #[.string ByteArray.empty, .bool false]) ∧ w' = w := by
  by_cases h1 : v < 1
  · go_enter Trym.func21, Trym.ntmps21
    go_wp2
    go_ret2
    exact ⟨rfl, rfl⟩
  · have h2 : (n : Int) ≤ v := by omega
    clear hv
    go_enter Trym.func21, Trym.ntmps21
    go_wp2
    go_ret2
    exact ⟨rfl, rfl⟩

set_option maxHeartbeats 400000 in
theorem of_yes (ss : Nat → ByteArray) (a : Option Addr) (n cp : Nat) (k : Nat) (w : World) (h : NamesAt ss w a n cp) (h1 : 1 ≤ k) (h2 : k < n) :
    Calls Trym.prog 21 #[.slice a n cp, .int .i64 k] w fun e w' => e = .returned (.tuple #[.string (ss k), .bool true]) ∧ w' = w := by
  obtain ⟨b, off, rfl, hc⟩ := h.cell k h2
  have hn := h.len
  clear h
  have h1' : ¬ (k : Int) < 1 := by omega
  have h2' : ¬ (n : Int) ≤ k := by omega
  have h3' : (k : Int) < n := by omega
  go_enter Trym.func21, Trym.ntmps21
  go_wp2
  go_ret2
  exact ⟨rfl, rfl⟩

set_option maxHeartbeats 400000 in
theorem zof_no (a : Option Addr) (n cp : Nat) (v : Int) (w : World) (hn : n ≤ 9223372036854775807) (hv : v < 1 ∨ (n : Int) ≤ v) :
    Calls Trym.prog 9 #[.slice a n cp, .int .i64 v] w fun e w' => e = .returned (.tuple #[.string ByteArray.empty, .bool false]) ∧ w' = w := by
  have HV : Hid _ := hv; clear hv
  go_enter Trym.func9, Trym.ntmps9
  go_wp2_with fail
  refine (of_no a n cp v w hn HV.out).mono ?_
  rintro e w1 ⟨rfl, rfl⟩
  go_wp2
  go_ret2
  exact ⟨rfl, rfl⟩

set_option maxHeartbeats 400000 in
theorem zof_yes (ss : Nat → ByteArray) (a : Option Addr) (n cp : Nat) (k : Nat) (w : World) (h : NamesAt ss w a n cp) (h1 : 1 ≤ k) (h2 : k < n) :
    Calls Trym.prog 9 #[.slice a n cp, .int .i64 k] w fun e w' => e = .returned (.tuple #[.string (ss k), .bool true]) ∧ w' = w := by
  have H : Hid _ := h; clear h
  go_enter Trym.func9, Trym.ntmps9
  go_wp2_with fail
  refine (of_yes ss a n cp k w H.out h1 h2).mono ?_
  rintro e w1 ⟨rfl, rfl⟩
  go_wp2
  go_ret2
  exact ⟨rfl, rfl⟩
end Go.Proofs.Qxb6608793aMods
