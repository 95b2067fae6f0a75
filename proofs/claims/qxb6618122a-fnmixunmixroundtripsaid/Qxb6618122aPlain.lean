/-
  THE PLAIN LAWS of SplitMix64's finalizer over Nat: no Go in sight.
-/
import Derived.WalkKit
import Derived.Laws.Bits64
namespace Go.Proofs.Qxb6618122a.Plain
set_option linter.unusedVariables false

/-- x ^ (x >> s), the shift written as the division by d = 2^s -/
def xsh (d x : Nat) : Nat := x ^^^ x / d
/-- its inverse where d^3 is beyond the word: two rounds -/
def unx (d x : Nat) : Nat := (x ^^^ x / d) ^^^ x / (d * d)
def mulc (c x : Nat) : Nat := x * c % 18446744073709551616
def mixN (x : Nat) : Nat := xsh 2147483648 (mulc 10723151780598845931 (xsh 134217728 (mulc 13787848793156543929 (xsh 1073741824 x))))
def unmixN (y : Nat) : Nat := unx 1073741824 (mulc 10871156337175269513 (unx 134217728 (mulc 3573116690164977347 (unx 2147483648 y))))

theorem xsh_lt (d x : Nat) (h : x < 18446744073709551616) : xsh d x < 18446744073709551616 := by
  unfold xsh
  exact Nat.xor_lt_two_pow (n := 64) h (Nat.lt_of_le_of_lt (Nat.div_le_self _ _) h)
theorem unx_lt (d x : Nat) (h : x < 18446744073709551616) : unx d x < 18446744073709551616 := by
  unfold unx
  exact Nat.xor_lt_two_pow (n := 64) (xsh_lt d x h) (Nat.lt_of_le_of_lt (Nat.div_le_self _ _) h)
theorem mulc_lt (c x : Nat) : mulc c x < 18446744073709551616 := Nat.mod_lt _ (by decide)

theorem xor_div (a b s : Nat) : (a ^^^ b) / 2 ^ s = a / 2 ^ s ^^^ b / 2 ^ s := by
  rw [← Nat.shiftRight_eq_div_pow, ← Nat.shiftRight_eq_div_pow, ← Nat.shiftRight_eq_div_pow, Nat.shiftRight_xor_distrib]
theorem xor4 (a b c : Nat) (h : c = 0) : ((a ^^^ b) ^^^ (b ^^^ c)) = a := by
  subst h
  rw [Nat.xor_zero, Nat.xor_assoc, Nat.xor_self, Nat.xor_zero]
theorem xor6 (a b c d : Nat) (h : d = 0) : ((a ^^^ b) ^^^ (b ^^^ c)) ^^^ (c ^^^ d) = a := by
  subst h
  rw [Nat.xor_zero, Nat.xor_assoc, Nat.xor_assoc, Nat.xor_assoc, Nat.xor_self, Nat.xor_zero, Nat.xor_self, Nat.xor_zero]
theorem xor6' (a b c d : Nat) (h : d = 0) : ((a ^^^ b) ^^^ c) ^^^ ((b ^^^ c) ^^^ d) = a := by
  subst h
  rw [Nat.xor_zero, Nat.xor_assoc, Nat.xor_assoc]
  have e : b ^^^ (c ^^^ (b ^^^ c)) = 0 := by
    rw [← Nat.xor_assoc c b c, Nat.xor_comm c b, Nat.xor_assoc b c c, Nat.xor_self, Nat.xor_zero, Nat.xor_self]
  rw [e, Nat.xor_zero]

theorem un_xsh (s x : Nat) (h : x < 2 ^ s * 2 ^ s * 2 ^ s) : unx (2 ^ s) (xsh (2 ^ s) x) = x := by
  unfold unx xsh
  have e2 : (x ^^^ x / 2 ^ s) / (2 ^ s * 2 ^ s) = x / (2 ^ s * 2 ^ s) ^^^ x / (2 ^ s * 2 ^ s * 2 ^ s) := by
    rw [← Nat.pow_add, xor_div, Nat.div_div_eq_div_mul, ← Nat.pow_add, ← Nat.pow_add]
    congr 3
    omega
  rw [e2, xor_div, Nat.div_div_eq_div_mul]
  exact xor6 _ _ _ _ (Nat.div_eq_of_lt h)
theorem xsh_un (s x : Nat) (h : x < 2 ^ s * 2 ^ s * 2 ^ s) : xsh (2 ^ s) (unx (2 ^ s) x) = x := by
  unfold unx xsh
  rw [xor_div, xor_div, Nat.div_div_eq_div_mul, Nat.div_div_eq_div_mul]
  exact xor6' _ _ _ _ (Nat.div_eq_of_lt h)
theorem mulc_mulc (c c' x : Nat) (h : c * c' % 18446744073709551616 = 1) (hx : x < 18446744073709551616) : mulc c' (mulc c x) = x := by
  unfold mulc
  rw [Nat.mod_mul_mod, Nat.mul_assoc, ← Nat.mul_mod_mod, h, Nat.mul_one, Nat.mod_eq_of_lt hx]

theorem round_trip (x : Nat) (h : x < 18446744073709551616) : unmixN (mixN x) = x := by
  unfold unmixN mixN
  rw [un_xsh 31 _ (Nat.lt_of_lt_of_le (mulc_lt _ _) (by decide)), mulc_mulc _ _ _ (by decide) (xsh_lt _ _ (mulc_lt _ _)),
    un_xsh 27 _ (Nat.lt_of_lt_of_le (mulc_lt _ _) (by decide)), mulc_mulc _ _ _ (by decide) (xsh_lt _ _ h),
    un_xsh 30 _ (Nat.lt_of_lt_of_le h (by decide))]
theorem hits (y : Nat) (h : y < 18446744073709551616) : mixN (unmixN y) = y := by
  unfold unmixN mixN
  rw [xsh_un 30 _ (Nat.lt_of_lt_of_le (mulc_lt _ _) (by decide)), mulc_mulc _ _ _ (by decide) (unx_lt _ _ (mulc_lt _ _)),
    xsh_un 27 _ (Nat.lt_of_lt_of_le (mulc_lt _ _) (by decide)), mulc_mulc _ _ _ (by decide) (unx_lt _ _ h),
    xsh_un 31 _ (Nat.lt_of_lt_of_le h (by decide))]
theorem mixN_lt (x : Nat) : mixN x < 18446744073709551616 := xsh_lt _ _ (mulc_lt _ _)
theorem unmixN_lt (x : Nat) : unmixN x < 18446744073709551616 := unx_lt _ _ (mulc_lt _ _)
end Go.Proofs.Qxb6618122a.Plain
