/-
  Words out of bytes: the plain mathematics. No Go text.
-/
import Derived.Test.Qxb6608765aModsPlain
namespace Go.Proofs.Qxb6608765aMods

/-- The sum of the first t bytes of g, least first. -/
def ps (g : Nat → Int) : Nat → Int
  | 0 => 0
  | t + 1 => ps g t + g t * 256 ^ t

/-- Word i of the number whose bytes, least first, are f. -/
def wd (f : Nat → Int) (i : Nat) : Int := ps (fun u => f (8 * i + u)) 8

theorem wd_eq (f : Nat → Int) (i : Nat) : wd f i = f (8 * i) + f (8 * i + 1) * 256 + f (8 * i + 2) * 65536 + f (8 * i + 3) * 16777216 + f (8 * i + 4) * 4294967296 + f (8 * i + 5) * 1099511627776 + f (8 * i + 6) * 281474976710656 + f (8 * i + 7) * 72057594037927936 := by
  show (((((((0 + f (8 * i + 0) * 256 ^ 0) + f (8 * i + 1) * 256 ^ 1) + f (8 * i + 2) * 256 ^ 2) + f (8 * i + 3) * 256 ^ 3) + f (8 * i + 4) * 256 ^ 4) + f (8 * i + 5) * 256 ^ 5) + f (8 * i + 6) * 256 ^ 6) + f (8 * i + 7) * 256 ^ 7 = _
  simp only [Nat.add_zero]
  omega

/-- Each byte of f is a byte. -/
def IsBytes (f : Nat → Int) : Prop := ∀ p, 0 ≤ f p ∧ f p ≤ 255

theorem wd_bd (f : Nat → Int) (hf : IsBytes f) (i : Nat) : 0 ≤ wd f i ∧ wd f i ≤ 18446744073709551615 := by
  rw [wd_eq]
  have h0 := hf (8 * i); have h1 := hf (8 * i + 1); have h2 := hf (8 * i + 2); have h3 := hf (8 * i + 3)
  have h4 := hf (8 * i + 4); have h5 := hf (8 * i + 5); have h6 := hf (8 * i + 6); have h7 := hf (8 * i + 7)
  omega

/-- The bytes of the words are the bytes. -/
theorem lb_wd (f : Nat → Int) (hf : IsBytes f) (p : Nat) : lb (wd f) p = f p := by
  have e : p = 8 * (p / 8) + p % 8 := by omega
  generalize p / 8 = k at e
  have hj : p % 8 < 8 := by omega
  generalize p % 8 = j at e hj
  subst e
  rw [lb_at _ _ _ hj, wd_eq]
  have h0 := hf (8 * k); have h1 := hf (8 * k + 1); have h2 := hf (8 * k + 2); have h3 := hf (8 * k + 3)
  have h4 := hf (8 * k + 4); have h5 := hf (8 * k + 5); have h6 := hf (8 * k + 6); have h7 := hf (8 * k + 7)
  match j, hj with
  | 0, _ => simp only [Nat.add_zero]; omega
  | 1, _ => omega
  | 2, _ => omega
  | 3, _ => omega
  | 4, _ => omega
  | 5, _ => omega
  | 6, _ => omega
  | 7, _ => omega

/-- The word of a limb's bytes is the limb. -/
theorem wd_lb (z : Nat → Int) (i : Nat) (h0 : 0 ≤ z i) (h1 : z i ≤ 18446744073709551615) : wd (lb z) i = z i := by
  have e := limb_sum (z i) h0 h1
  rw [← lb_at z i 0 (by omega), ← lb_at z i 1 (by omega), ← lb_at z i 2 (by omega), ← lb_at z i 3 (by omega), ← lb_at z i 4 (by omega), ← lb_at z i 5 (by omega), ← lb_at z i 6 (by omega), ← lb_at z i 7 (by omega)] at e
  rw [wd_eq]
  simp only [Nat.add_zero] at e
  omega

theorem wd_zero (f : Nat → Int) (i : Nat) (h : ∀ p, 8 * i ≤ p → f p = 0) : wd f i = 0 := by
  rw [wd_eq, h _ (by omega), h _ (by omega), h _ (by omega), h _ (by omega), h _ (by omega), h _ (by omega), h _ (by omega), h _ (by omega)]; rfl

/-- A word is nought just where its eight bytes are. -/
theorem wd_eq_zero (f : Nat → Int) (hf : IsBytes f) (i : Nat) (h : wd f i = 0) (j : Nat) (hj : j < 8) : f (8 * i + j) = 0 := by
  rw [wd_eq] at h
  have h0 := hf (8 * i); have h1 := hf (8 * i + 1); have h2 := hf (8 * i + 2); have h3 := hf (8 * i + 3)
  have h4 := hf (8 * i + 4); have h5 := hf (8 * i + 5); have h6 := hf (8 * i + 6); have h7 := hf (8 * i + 7)
  match j, hj with
  | 0, _ => simp only [Nat.add_zero]; omega
  | 1, _ => omega
  | 2, _ => omega
  | 3, _ => omega
  | 4, _ => omega
  | 5, _ => omega
  | 6, _ => omega
  | 7, _ => omega

theorem ps_pad (g : Nat → Int) (t : Nat) (hz : ∀ u, t ≤ u → g u = 0) : ∀ d, ps g (t + d) = ps g t
  | 0 => rfl
  | d + 1 => by
    show ps g (t + d) + g (t + d) * 256 ^ (t + d) = _
    rw [hz (t + d) (by omega), ps_pad g t hz d]; simp

theorem ps_bd (g : Nat → Int) (hg : IsBytes g) : ∀ t, 0 ≤ ps g t ∧ ps g t < 256 ^ t
  | 0 => ⟨by show (0 : Int) ≤ 0; decide, by show (0 : Int) < 1; decide⟩
  | t + 1 => by
    have ih := ps_bd g hg t
    have h := hg t
    have hp : (0 : Int) < 256 ^ t := Int.pow_pos (by decide)
    have h1 : 0 ≤ g t * 256 ^ t := Int.mul_nonneg h.1 (Int.le_of_lt hp)
    have h2 : g t * 256 ^ t ≤ 255 * 256 ^ t := Int.mul_le_mul_of_nonneg_right h.2 (Int.le_of_lt hp)
    have e : (256 : Int) ^ (t + 1) = 256 ^ t * 256 := Int.pow_succ _ _
    show 0 ≤ ps g t + g t * 256 ^ t ∧ ps g t + g t * 256 ^ t < 256 ^ (t + 1)
    rw [e]
    omega
end Go.Proofs.Qxb6608765aMods
