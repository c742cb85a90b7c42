import Derived.Test.Qxb6608765aModsBytes
import Derived.Test.Qxb6608765aModsLen
import Derived.Lib.EndianBits
namespace Go.Proofs.Qxb6608765aMods
open Go.RowKit

set_option maxHeartbeats 400000 in
theorem be64_any (b off cap : Nat) (c0 c1 c2 c3 c4 c5 c6 c7 : Int) (w : World)
    (h0 : 0 ≤ c0 ∧ c0 ≤ 255) (h1 : 0 ≤ c1 ∧ c1 ≤ 255) (h2 : 0 ≤ c2 ∧ c2 ≤ 255) (h3 : 0 ≤ c3 ∧ c3 ≤ 255) (h4 : 0 ≤ c4 ∧ c4 ≤ 255) (h5 : 0 ≤ c5 ∧ c5 ≤ 255) (h6 : 0 ≤ c6 ∧ c6 ≤ 255) (h7 : 0 ≤ c7 ∧ c7 ≤ 255)
    (e0 : w.cell? ⟨b, off, none⟩ = some (.int .u8 c0)) (e1 : w.cell? ⟨b, off + 1, none⟩ = some (.int .u8 c1)) (e2 : w.cell? ⟨b, off + 2, none⟩ = some (.int .u8 c2)) (e3 : w.cell? ⟨b, off + 3, none⟩ = some (.int .u8 c3))
    (e4 : w.cell? ⟨b, off + 4, none⟩ = some (.int .u8 c4)) (e5 : w.cell? ⟨b, off + 5, none⟩ = some (.int .u8 c5)) (e6 : w.cell? ⟨b, off + 6, none⟩ = some (.int .u8 c6)) (e7 : w.cell? ⟨b, off + 7, none⟩ = some (.int .u8 c7)) :
    Calls Trym.prog 37 #[.slice (some ⟨b, off, none⟩) 8 cap] w fun e w' => e = .returned (.int .u64 (c7 + c6 * 256 + c5 * 65536 + c4 * 16777216 + c3 * 4294967296 + c2 * 1099511627776 + c1 * 281474976710656 + c0 * 72057594037927936)) ∧ ∃ k, w' = w.drewN k := by
  go_enter Trym.func37, Trym.ntmps37
  go_wp2
  go_quiet (fail)
  go_wp2
  go_ret
  refine ⟨?_, _, rfl⟩
  simp (disch := omega) only [u64_or8, u64_or16, u64_or24, u64_or32, u64_or40, u64_or48, u64_or56]
  rfl

set_option maxHeartbeats 400000 in
theorem beWord_any (b off cap : Nat) (c0 c1 c2 c3 c4 c5 c6 c7 : Int) (w : World)
    (h0 : 0 ≤ c0 ∧ c0 ≤ 255) (h1 : 0 ≤ c1 ∧ c1 ≤ 255) (h2 : 0 ≤ c2 ∧ c2 ≤ 255) (h3 : 0 ≤ c3 ∧ c3 ≤ 255) (h4 : 0 ≤ c4 ∧ c4 ≤ 255) (h5 : 0 ≤ c5 ∧ c5 ≤ 255) (h6 : 0 ≤ c6 ∧ c6 ≤ 255) (h7 : 0 ≤ c7 ∧ c7 ≤ 255)
    (e0 : w.cell? ⟨b, off, none⟩ = some (.int .u8 c0)) (e1 : w.cell? ⟨b, off + 1, none⟩ = some (.int .u8 c1)) (e2 : w.cell? ⟨b, off + 2, none⟩ = some (.int .u8 c2)) (e3 : w.cell? ⟨b, off + 3, none⟩ = some (.int .u8 c3))
    (e4 : w.cell? ⟨b, off + 4, none⟩ = some (.int .u8 c4)) (e5 : w.cell? ⟨b, off + 5, none⟩ = some (.int .u8 c5)) (e6 : w.cell? ⟨b, off + 6, none⟩ = some (.int .u8 c6)) (e7 : w.cell? ⟨b, off + 7, none⟩ = some (.int .u8 c7)) :
    Calls Trym.prog 32 #[.slice (some ⟨b, off, none⟩) 8 cap] w fun e w' => e = .returned (.int .u64 (c7 + c6 * 256 + c5 * 65536 + c4 * 16777216 + c3 * 4294967296 + c2 * 1099511627776 + c1 * 281474976710656 + c0 * 72057594037927936)) ∧ ∃ k, w' = w.drewN k := by
  go_enter Trym.func32, Trym.ntmps32
  go_wp2_with (go_at_call 37; refine (be64_any b off cap c0 c1 c2 c3 c4 c5 c6 c7 _ h0 h1 h2 h3 h4 h5 h6 h7 e0 e1 e2 e3 e4 e5 e6 e7).mono ?_; rintro e w' ⟨rfl, k, rfl⟩)
  go_ret
  exact ⟨rfl, _, rfl⟩

theorem or_pos (a b : Int) (ha : 0 < a) (ha1 : a ≤ 18446744073709551615) (hb : 0 ≤ b) (hb1 : b ≤ 18446744073709551615) : 0 < bits BinOp.or IntKind.u64 a b ∧ bits BinOp.or IntKind.u64 a b ≤ 18446744073709551615 := by
  obtain ⟨x, rfl⟩ := Int.eq_ofNat_of_zero_le (Int.le_of_lt ha)
  obtain ⟨y, rfl⟩ := Int.eq_ofNat_of_zero_le hb
  rw [bits_or_u64_nat x y (by omega) (by omega)]
  have h1 : x ||| y < 2 ^ 64 := Nat.or_lt_two_pow (by omega) (by omega)
  have h2 : x ≤ x ||| y := Nat.left_le_or
  omega

theorem bitLen_bd (x : Nat) (h0 : 0 < x) (h1 : x ≤ 18446744073709551615) : 1 ≤ Lib.bitLen x ∧ Lib.bitLen x ≤ 64 := by
  have a := Lib.bitLen_le x 64 (by omega) (by omega)
  have b := Lib.bitLen_half x (by omega) (by omega)
  omega

set_option maxHeartbeats 400000 in
theorem bitLen_zero (a : Option Addr) (cap : Nat) (w : World) :
    Calls Trym.prog 35 #[.slice a 0 cap] w fun e w' => e = .returned (.int .i64 0) ∧ w' = w := by
  go_enter Trym.func35, Trym.ntmps35
  go_wp2
  go_ret
  exact ⟨rfl, rfl⟩

set_option maxHeartbeats 400000 in
theorem bitLen_any (g L cap : Nat) (T : Int) (w : World) (hL : L + 1 ≤ 1000000000) (hc : w.cell? ⟨g, L, none⟩ = some (.int .u64 T)) (hT : 0 < T) (hT1 : T ≤ 18446744073709551615) :
    Calls Trym.prog 35 #[.slice (some ⟨g, 0, none⟩) (L + 1) cap] w fun e w' => ∃ r : Int, e = .returned (.int .i64 r) ∧ 64 * (L : Int) < r ∧ r ≤ 64 * (L : Int) + 64 ∧ w' = w := by
  go_enter Trym.func35, Trym.ntmps35
  go_wp2_with fail
  have s1 := or_pos T (T / 2) hT hT1 (by omega) (by omega)
  generalize bits BinOp.or IntKind.u64 T (T / 2) = T1 at *
  have s2 := or_pos T1 (T1 / 4) (by omega) (by omega) (by omega) (by omega)
  generalize bits BinOp.or IntKind.u64 T1 (T1 / 4) = T2 at *
  have s3 := or_pos T2 (T2 / 16) (by omega) (by omega) (by omega) (by omega)
  generalize bits BinOp.or IntKind.u64 T2 (T2 / 16) = T3 at *
  have s4 := or_pos T3 (T3 / 256) (by omega) (by omega) (by omega) (by omega)
  generalize bits BinOp.or IntKind.u64 T3 (T3 / 256) = T4 at *
  have s5 := or_pos T4 (T4 / 65536) (by omega) (by omega) (by omega) (by omega)
  generalize bits BinOp.or IntKind.u64 T4 (T4 / 65536) = T5 at *
  have s6 := or_pos T5 (T5 / 65536 / 65536) (by omega) (by omega) (by omega) (by omega)
  generalize bits BinOp.or IntKind.u64 T5 (T5 / 65536 / 65536) = T6 at *
  clear s1 s2 s3 s4 s5 hT hT1 hc
  refine (len_any T6 _ (by omega) (by omega)).mono ?_
  rintro e w' ⟨rfl, rfl⟩
  have hb := bitLen_bd T6.toNat (by omega) (by omega)
  clear s6
  generalize Lib.bitLen T6.toNat = r at *
  go_wp2
  go_ret
  exact ⟨_, rfl, by omega, by omega, rfl⟩
end Go.Proofs.Qxb6608765aMods
