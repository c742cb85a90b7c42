/-
  The plain mathematics of the P-256 laws: the bytes of four limbs, their order, their shift. No Go text.
-/
namespace Go.Proofs.Qxb6608765aMods

/-- Byte p (from the least) of the number whose 64-bit limbs, least first, are z. -/
def lb (z : Nat → Int) (p : Nat) : Int := z (p / 8) / 2 ^ (8 * (p % 8)) % 256

/-- Compare f and g from place n - 1 down to 0. -/
def cmpDown (f g : Nat → Int) : Nat → Int
  | 0 => 0
  | n + 1 => if f n < g n then -1 else if g n < f n then 1 else cmpDown f g n

theorem cmpDown_lt {f g : Nat → Int} {n m : Nat} (h : m = n + 1) (hl : f n < g n) : cmpDown f g m = -1 := by
  subst h; simp [cmpDown, hl]
theorem cmpDown_gt {f g : Nat → Int} {n m : Nat} (h : m = n + 1) (hl : g n < f n) : cmpDown f g m = 1 := by
  subst h; rw [cmpDown, if_neg (by omega), if_pos hl]
theorem cmpDown_eq {f g : Nat → Int} {n m : Nat} (h : m = n + 1) (h1 : ¬ f n < g n) (h2 : ¬ g n < f n) : cmpDown f g m = cmpDown f g n := by
  subst h; rw [cmpDown, if_neg h1, if_neg h2]

theorem lb_at (z : Nat → Int) (k j : Nat) (hj : j < 8) : lb z (8 * k + j) = z k / 2 ^ (8 * j) % 256 := by
  unfold lb
  have e1 : (8 * k + j) / 8 = k := by omega
  have e2 : (8 * k + j) % 8 = j := by omega
  rw [e1, e2]

theorem lb_bd (z : Nat → Int) (p : Nat) : 0 ≤ lb z p ∧ lb z p ≤ 255 := by
  unfold lb; omega

/-- A limb is the sum of its bytes. -/
theorem limb_sum (X : Int) (h0 : 0 ≤ X) (h1 : X ≤ 18446744073709551615) :
    X = X / 2 ^ (8 * 0) % 256 + 256 * (X / 2 ^ (8 * 1) % 256) + 65536 * (X / 2 ^ (8 * 2) % 256) + 16777216 * (X / 2 ^ (8 * 3) % 256) + 4294967296 * (X / 2 ^ (8 * 4) % 256)
      + 1099511627776 * (X / 2 ^ (8 * 5) % 256) + 281474976710656 * (X / 2 ^ (8 * 6) % 256) + 72057594037927936 * (X / 2 ^ (8 * 7) % 256) := by
  omega

theorem cmp_block (x y : Nat → Int) (k : Nat) (hx : 0 ≤ x k ∧ x k ≤ 18446744073709551615) (hy : 0 ≤ y k ∧ y k ≤ 18446744073709551615) :
    cmpDown (lb x) (lb y) (8 * k + 8) = if x k < y k then -1 else if y k < x k then 1 else cmpDown (lb x) (lb y) (8 * k) := by
  have ex := limb_sum (x k) hx.1 hx.2
  have ey := limb_sum (y k) hy.1 hy.2
  rw [← lb_at x k 0 (by omega), ← lb_at x k 1 (by omega), ← lb_at x k 2 (by omega), ← lb_at x k 3 (by omega), ← lb_at x k 4 (by omega), ← lb_at x k 5 (by omega), ← lb_at x k 6 (by omega), ← lb_at x k 7 (by omega)] at ex
  rw [← lb_at y k 0 (by omega), ← lb_at y k 1 (by omega), ← lb_at y k 2 (by omega), ← lb_at y k 3 (by omega), ← lb_at y k 4 (by omega), ← lb_at y k 5 (by omega), ← lb_at y k 6 (by omega), ← lb_at y k 7 (by omega)] at ey
  have x0 := lb_bd x (8 * k + 0); have x1 := lb_bd x (8 * k + 1); have x2 := lb_bd x (8 * k + 2); have x3 := lb_bd x (8 * k + 3)
  have x4 := lb_bd x (8 * k + 4); have x5 := lb_bd x (8 * k + 5); have x6 := lb_bd x (8 * k + 6); have x7 := lb_bd x (8 * k + 7)
  have y0 := lb_bd y (8 * k + 0); have y1 := lb_bd y (8 * k + 1); have y2 := lb_bd y (8 * k + 2); have y3 := lb_bd y (8 * k + 3)
  have y4 := lb_bd y (8 * k + 4); have y5 := lb_bd y (8 * k + 5); have y6 := lb_bd y (8 * k + 6); have y7 := lb_bd y (8 * k + 7)
  show cmpDown (lb x) (lb y) (8 * k + 0 + 1 + 1 + 1 + 1 + 1 + 1 + 1 + 1) = _
  simp only [cmpDown]
  simp only [Nat.add_zero] at ex ey x0 y0 ⊢
  repeat' split
  all_goals first | rfl | omega

/-- THE ORDER: the bytes compare as the limbs do. -/
theorem cmp_bytes (x y : Nat → Int) (hx : ∀ i, i < 4 → 0 ≤ x i ∧ x i ≤ 18446744073709551615) (hy : ∀ i, i < 4 → 0 ≤ y i ∧ y i ≤ 18446744073709551615) :
    cmpDown (lb x) (lb y) 32 = cmpDown x y 4 := by
  have s : ∀ k, k ≤ 4 → cmpDown (lb x) (lb y) (8 * k) = cmpDown x y k := by
    intro k
    induction k with
    | zero => intro _; rfl
    | succ k ih =>
      intro h
      rw [show 8 * (k + 1) = 8 * k + 8 by omega, cmp_block x y k (hx k (by omega)) (hy k (by omega)), ih (by omega), cmpDown]
  exact s 4 (by omega)
end Go.Proofs.Qxb6608765aMods
