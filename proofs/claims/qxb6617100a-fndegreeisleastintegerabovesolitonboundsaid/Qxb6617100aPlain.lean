/-
  THE PLAIN LAWS OF THIS SEAT: SplitMix64's step and mixer on numbers below 2^64, and what undoes the mixer. No Go in sight.
-/
import Derived.Laws.Bits64
namespace Go.Proofs.Qxb6617100a.Mix

def stepI (s : Int) : Int := IntKind.u64.wrap (s + 11400714819323198485)
def xsI (k z : Int) : Int := bits .xor .u64 z (z / k)
def mulI (c z : Int) : Int := IntKind.u64.wrap (z * c)
def mixI (z : Int) : Int := xsI 2147483648 (mulI 10723151780598845931 (xsI 134217728 (mulI 13787848793156543929 (xsI 1073741824 z))))

def unxsI (k k2 y : Int) : Int := bits .xor .u64 (bits .xor .u64 y (y / k)) (y / k2)

def newtI (c v : Int) : Int := IntKind.u64.wrap (v * IntKind.u64.wrap (2 - IntKind.u64.wrap (c * v)))
def newtN (c : Int) : Nat → Int
  | 0 => c
  | n + 1 => newtI c (newtN c n)
def invI (c : Int) : Int := newtN c 6

def unmixI (z : Int) : Int :=
  unxsI 1073741824 1152921504606846976 (mulI (invI 13787848793156543929) (unxsI 134217728 18014398509481984 (mulI (invI 10723151780598845931) (unxsI 2147483648 4611686018427387904 z))))

/-- A word. -/
def Word (x : Int) : Prop := 0 ≤ x ∧ x < 18446744073709551616

theorem wrap_word (x : Int) : Word (IntKind.u64.wrap x) := by
  rw [IntKind.wrap_u64]; unfold Word; omega

theorem bits_word (x y : Int) : Word (bits .xor .u64 x y) := wrap_word _

theorem step_word (s : Int) : Word (stepI s) := wrap_word _
theorem xs_word (k z : Int) : Word (xsI k z) := bits_word _ _
theorem mul_word (c z : Int) : Word (mulI c z) := wrap_word _
theorem mix_word (z : Int) : Word (mixI z) := bits_word _ _
theorem unxs_word (k k2 y : Int) : Word (unxsI k k2 y) := bits_word _ _
theorem newt_word (c : Int) (hc : Word c) (n : Nat) : Word (newtN c n) := by
  cases n with
  | zero => exact hc
  | succ n => exact wrap_word _
theorem inv_word (c : Int) (hc : Word c) : Word (invI c) := newt_word c hc 6

theorem xor_un (Z r : Nat) (h : Z < 2 ^ (r + (r + r))) :
    ((Z ^^^ Z >>> r) ^^^ (Z ^^^ Z >>> r) >>> r) ^^^ (Z ^^^ Z >>> r) >>> (r + r) = Z := by
  have hz : Z >>> (r + (r + r)) = 0 := by
    rw [Nat.shiftRight_eq_div_pow]; exact Nat.div_eq_of_lt h
  rw [Nat.shiftRight_xor_distrib, Nat.shiftRight_xor_distrib, ← Nat.shiftRight_add, ← Nat.shiftRight_add, hz, Nat.xor_zero]
  have : ∀ a b c : Nat, ((a ^^^ b) ^^^ (b ^^^ c)) ^^^ c = a := by
    intro a b c
    rw [Nat.xor_assoc a b, ← Nat.xor_assoc b b, Nat.xor_self, Nat.zero_xor, Nat.xor_assoc, Nat.xor_self, Nat.xor_zero]
  exact this _ _ _

theorem unxs_xs (z : Int) (hz : Word z) (r k k2 : Nat) (hk : k = 2 ^ r) (hk2 : k2 = 2 ^ (r + r)) (hr : 64 ≤ r + (r + r)) : unxsI k k2 (xsI k z) = z := by
  obtain ⟨h0, h1⟩ := hz
  obtain ⟨Z, rfl⟩ := Int.eq_ofNat_of_zero_le h0
  have hZ : Z < 18446744073709551616 := by omega
  have hd : ∀ a : Nat, a / k = a >>> r := fun a => by rw [hk, Nat.shiftRight_eq_div_pow]
  have hd2 : ∀ a : Nat, a / k2 = a >>> (r + r) := fun a => by rw [hk2, Nat.shiftRight_eq_div_pow]
  have hY : Z ^^^ Z / k < 18446744073709551616 := by
    have : Z ^^^ Z / k < 2 ^ 64 := Nat.xor_lt_two_pow (by omega) (Nat.lt_of_le_of_lt (Nat.div_le_self _ _) (by omega))
    omega
  have e1 : xsI k (Z : Int) = ((Z ^^^ Z / k : Nat) : Int) := xorShift_u64 Z k hZ
  unfold unxsI
  rw [e1]
  generalize hYd : Z ^^^ Z / k = Y at hY
  rw [xorShift_u64 Y k hY]
  have hY2 : Y ^^^ Y / k < 18446744073709551616 := by
    have : Y ^^^ Y / k < 2 ^ 64 := Nat.xor_lt_two_pow (by omega) (Nat.lt_of_le_of_lt (Nat.div_le_self _ _) (by omega))
    omega
  have hY3 : Y / k2 < 18446744073709551616 := Nat.lt_of_le_of_lt (Nat.div_le_self _ _) hY
  have ed : ((Y : Int) / (k2 : Int)) = ((Y / k2 : Nat) : Int) := by simp
  rw [ed, bits_xor_u64_nat _ _ hY2 hY3]
  congr 1
  rw [hd, hd2, ← hYd, hd]
  exact xor_un Z r (Nat.lt_of_lt_of_le hZ (by
    have : (2 : Nat) ^ 64 ≤ 2 ^ (r + (r + r)) := Nat.pow_le_pow_right (by omega) hr
    omega))

theorem inv_B : (10723151780598845931 * invI 10723151780598845931) % 18446744073709551616 = 1 := by decide
theorem inv_A : (13787848793156543929 * invI 13787848793156543929) % 18446744073709551616 = 1 := by decide

theorem mul_inv (z c : Int) (hz : Word z) (d : Int) (h : (c * d) % 18446744073709551616 = 1) : mulI d (mulI c z) = z := by
  unfold mulI
  rw [IntKind.wrap_u64, IntKind.wrap_u64]
  obtain ⟨h0, h1⟩ := hz
  rw [Int.mul_emod, Int.emod_emod_of_dvd _ (Int.dvd_refl _), ← Int.mul_emod, Int.mul_assoc, Int.mul_emod, h]
  simp
  omega

theorem unmix_mix (z : Int) (hz : Word z) : unmixI (mixI z) = z := by
  unfold unmixI mixI
  have a : unxsI 2147483648 4611686018427387904 (xsI 2147483648 (mulI 10723151780598845931 (xsI 134217728 (mulI 13787848793156543929 (xsI 1073741824 z))))) = _ := unxs_xs (mulI 10723151780598845931 (xsI 134217728 (mulI 13787848793156543929 (xsI 1073741824 z)))) (mul_word _ _) 31 2147483648 4611686018427387904 (by decide) (by decide) (by decide)
  have b : unxsI 134217728 18014398509481984 (xsI 134217728 (mulI 13787848793156543929 (xsI 1073741824 z))) = _ := unxs_xs (mulI 13787848793156543929 (xsI 1073741824 z)) (mul_word _ _) 27 134217728 18014398509481984 (by decide) (by decide) (by decide)
  have c : unxsI 1073741824 1152921504606846976 (xsI 1073741824 z) = z := unxs_xs z hz 30 1073741824 1152921504606846976 (by decide) (by decide) (by decide)
  rw [a, mul_inv _ _ (xs_word _ _) _ inv_B, b, mul_inv _ _ (xs_word _ _) _ inv_A, c]

end Go.Proofs.Qxb6617100a.Mix
