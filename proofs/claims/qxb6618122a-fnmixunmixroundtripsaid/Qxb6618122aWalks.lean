/-
  mix (7), ZZmix (5), zzUnxorshiftRight (8), zzInvOdd (9), zzUnmix (6): each computes its plain function.
-/
import Derived.Test.Qxb6618122aRows
import Derived.Test.Qxb6618122aPlain
import Derived.WalkKit
import Derived.ProofKit
import Derived.OpenShut
import Derived.WalkSpells
import Derived.WalkLawsBesides
import Derived.Deep.RegionWith
namespace Go.Proofs.Qxb6618122a
open Go.ChangeShapes Go.WideShapes Go.ChangeAt Go.RowKit Plain
set_option linter.unusedVariables false

theorem ret_int {k : IntKind} {a b : Int} (h : a = b) : Ending.returned (.int k a) = .returned (.int k b) := by rw [h]

/-! ### the operations in the walk's own spelling -/
theorem x30 (x : Nat) (h : x < 18446744073709551616) : bits .xor .u64 (x : Int) ((x : Int) / 1073741824) = ((xsh 1073741824 x : Nat) : Int) := xorShift_u64 x 1073741824 h
theorem x27 (x : Nat) (h : x < 18446744073709551616) : bits .xor .u64 (x : Int) ((x : Int) / 134217728) = ((xsh 134217728 x : Nat) : Int) := xorShift_u64 x 134217728 h
theorem x31 (x : Nat) (h : x < 18446744073709551616) : bits .xor .u64 (x : Int) ((x : Int) / 2147483648) = ((xsh 2147483648 x : Nat) : Int) := xorShift_u64 x 2147483648 h
theorem mA (x : Nat) : IntKind.u64.wrap ((x : Int) * 13787848793156543929) = ((mulc 13787848793156543929 x : Nat) : Int) := by
  rw [IntKind.wrap_u64]; unfold mulc; rw [Int.natCast_emod, Int.natCast_mul]; rfl
theorem mB (x : Nat) : IntKind.u64.wrap ((x : Int) * 10723151780598845931) = ((mulc 10723151780598845931 x : Nat) : Int) := by
  rw [IntKind.wrap_u64]; unfold mulc; rw [Int.natCast_emod, Int.natCast_mul]; rfl
theorem iA (x : Nat) : IntKind.u64.wrap ((x : Int) * 10871156337175269513) = ((mulc 10871156337175269513 x : Nat) : Int) := by
  rw [IntKind.wrap_u64]; unfold mulc; rw [Int.natCast_emod, Int.natCast_mul]; rfl
theorem iB (x : Nat) : IntKind.u64.wrap ((x : Int) * 3573116690164977347) = ((mulc 3573116690164977347 x : Nat) : Int) := by
  rw [IntKind.wrap_u64]; unfold mulc; rw [Int.natCast_emod, Int.natCast_mul]; rfl

/-! ### mix -/
set_option maxHeartbeats 400000 in
theorem mix_any (x : Nat) (h : x < 18446744073709551616) (w : World) :
    Calls Try.prog 7 #[.int .u64 (x : Int)] w fun e w' => e = .returned (.int .u64 ((mixN x : Nat) : Int)) ∧ w' = w := by
  have e1 := x30 x h
  have e2 := mA (xsh 1073741824 x)
  have e3 := x27 (mulc 13787848793156543929 (xsh 1073741824 x)) (mulc_lt _ _)
  have e4 := mB (xsh 134217728 (mulc 13787848793156543929 (xsh 1073741824 x)))
  have e5 := x31 (mulc 10723151780598845931 (xsh 134217728 (mulc 13787848793156543929 (xsh 1073741824 x)))) (mulc_lt _ _)
  go_enter Try.func7, Try.ntmps7
  go_wp2
  go_ret
  exact ⟨rfl, rfl⟩
theorem zzmix_any (x : Nat) (h : x < 18446744073709551616) (w : World) :
    Calls Try.prog 5 #[.int .u64 (x : Int)] w fun e w' => e = .returned (.int .u64 ((mixN x : Nat) : Int)) ∧ w' = w := by
  go_enter Try.func5, Try.ntmps5
  go_wp2_with (go_at_call 7; refine (mix_any x h _).mono ?_; rintro e w' ⟨rfl, rfl⟩)
  go_ret
  exact ⟨rfl, rfl⟩

/-! ### zzInvOdd -/
def newt (c : Int) : Nat → Int
  | 0 => c
  | j + 1 => IntKind.u64.wrap (newt c j * IntKind.u64.wrap (2 - IntKind.u64.wrap (c * newt c j)))
theorem inv_any (c : Int) (w : World) :
    Calls Try.prog 9 #[.int .u64 c] w fun e w' => e = .returned (.int .u64 (newt c 5)) ∧ w' = w := by
  go_enter Try.func9, Try.ntmps9
  go_wp2
  go_loop [3, 4] (fun v i => ∃ k : Nat, k ≤ 5 ∧ i = .int .i64 k ∧ v = .int .u64 (newt c k)) (fun _ i => 5 - (intOf i).toNat)
  case atStart => exact ⟨0, Nat.zero_le _, rfl, rfl⟩
  case round =>
    obtain ⟨k, hk, rfl, rfl⟩ := hrel
    by_cases hlt : k < 5
    · go_wp2
      go_round
      case rel => exact ⟨k + 1, by omega, by go_num, rfl⟩
      case measure => simp [intOf]; omega
    · have e5 : k = 5 := by omega
      subst e5
      go_wp2
      go_ret
      exact ⟨rfl, rfl⟩
theorem newtA : newt 13787848793156543929 5 = 10871156337175269513 := by decide +kernel
theorem newtB : newt 10723151780598845931 5 = 3573116690164977347 := by decide +kernel
theorem invA (w : World) : Calls Try.prog 9 #[.int .u64 13787848793156543929] w fun e w' => e = .returned (.int .u64 10871156337175269513) ∧ w' = w := by
  have h := inv_any 13787848793156543929 w
  rw [newtA] at h
  exact h
theorem invB (w : World) : Calls Try.prog 9 #[.int .u64 10723151780598845931] w fun e w' => e = .returned (.int .u64 3573116690164977347) ∧ w' = w := by
  have h := inv_any 10723151780598845931 w
  rw [newtB] at h
  exact h

/-! ### zzUnxorshiftRight -/
theorem xor_nat (a b : Nat) (ha : a < 18446744073709551616) (hb : b < 18446744073709551616) (c : Int) (hc : c = (b : Int)) :
    bits .xor .u64 (a : Int) c = ((a ^^^ b : Nat) : Int) := by rw [hc]; exact bits_xor_u64_nat a b ha hb
set_option maxHeartbeats 400000 in
theorem un31 (x : Nat) (h : x < 18446744073709551616) (w : World) :
    Calls Try.prog 8 #[.int .u64 (x : Int), .int .u64 31] w fun e w' => e = .returned (.int .u64 ((unx 2147483648 x : Nat) : Int)) ∧ w' = w := by
  have e1 := x31 x h
  have e2 : bits .xor .u64 ((xsh 2147483648 x : Nat) : Int) ((x : Int) / 4611686018427387904) = ((unx 2147483648 x : Nat) : Int) :=
    xor_nat (xsh 2147483648 x) (x / 4611686018427387904) (xsh_lt _ _ h) (Nat.lt_of_le_of_lt (Nat.div_le_self _ _) h) _ (Int.natCast_ediv x 4611686018427387904).symm
  go_enter Try.func8, Try.ntmps8
  go_wp2
  go_loop [5, 6] (fun v k => (k = .int .u64 31 ∧ v = .int .u64 (x : Int)) ∨ (k = .int .u64 62 ∧ v = .int .u64 ((xsh 2147483648 x : Nat) : Int)) ∨ (k = .int .u64 93 ∧ v = .int .u64 ((unx 2147483648 x : Nat) : Int))) (fun _ k => 100 - (intOf k).toNat)
  case atStart => exact Or.inl ⟨rfl, rfl⟩
  case round =>
    rcases hrel with ⟨rfl, rfl⟩ | ⟨rfl, rfl⟩ | ⟨rfl, rfl⟩
    · go_wp2
      go_round
      case rel => exact Or.inr (Or.inl ⟨rfl, rfl⟩)
      case measure => simp [intOf]
    · go_wp2
      go_round
      case rel => exact Or.inr (Or.inr ⟨rfl, rfl⟩)
      case measure => simp [intOf]
    · go_wp2
      go_ret
      exact ⟨rfl, rfl⟩
set_option maxHeartbeats 400000 in
theorem un27 (x : Nat) (h : x < 18446744073709551616) (w : World) :
    Calls Try.prog 8 #[.int .u64 (x : Int), .int .u64 27] w fun e w' => e = .returned (.int .u64 ((unx 134217728 x : Nat) : Int)) ∧ w' = w := by
  have e1 := x27 x h
  have e2 : bits .xor .u64 ((xsh 134217728 x : Nat) : Int) ((x : Int) / 18014398509481984) = ((unx 134217728 x : Nat) : Int) :=
    xor_nat (xsh 134217728 x) (x / 18014398509481984) (xsh_lt _ _ h) (Nat.lt_of_le_of_lt (Nat.div_le_self _ _) h) _ (Int.natCast_ediv x 18014398509481984).symm
  go_enter Try.func8, Try.ntmps8
  go_wp2
  go_loop [5, 6] (fun v k => (k = .int .u64 27 ∧ v = .int .u64 (x : Int)) ∨ (k = .int .u64 54 ∧ v = .int .u64 ((xsh 134217728 x : Nat) : Int)) ∨ (k = .int .u64 81 ∧ v = .int .u64 ((unx 134217728 x : Nat) : Int))) (fun _ k => 100 - (intOf k).toNat)
  case atStart => exact Or.inl ⟨rfl, rfl⟩
  case round =>
    rcases hrel with ⟨rfl, rfl⟩ | ⟨rfl, rfl⟩ | ⟨rfl, rfl⟩
    · go_wp2
      go_round
      case rel => exact Or.inr (Or.inl ⟨rfl, rfl⟩)
      case measure => simp [intOf]
    · go_wp2
      go_round
      case rel => exact Or.inr (Or.inr ⟨rfl, rfl⟩)
      case measure => simp [intOf]
    · go_wp2
      go_ret
      exact ⟨rfl, rfl⟩
set_option maxHeartbeats 400000 in
theorem un30 (x : Nat) (h : x < 18446744073709551616) (w : World) :
    Calls Try.prog 8 #[.int .u64 (x : Int), .int .u64 30] w fun e w' => e = .returned (.int .u64 ((unx 1073741824 x : Nat) : Int)) ∧ w' = w := by
  have e1 := x30 x h
  have e2 : bits .xor .u64 ((xsh 1073741824 x : Nat) : Int) ((x : Int) / 1152921504606846976) = ((unx 1073741824 x : Nat) : Int) :=
    xor_nat (xsh 1073741824 x) (x / 1152921504606846976) (xsh_lt _ _ h) (Nat.lt_of_le_of_lt (Nat.div_le_self _ _) h) _ (Int.natCast_ediv x 1152921504606846976).symm
  go_enter Try.func8, Try.ntmps8
  go_wp2
  go_loop [5, 6] (fun v k => (k = .int .u64 30 ∧ v = .int .u64 (x : Int)) ∨ (k = .int .u64 60 ∧ v = .int .u64 ((xsh 1073741824 x : Nat) : Int)) ∨ (k = .int .u64 90 ∧ v = .int .u64 ((unx 1073741824 x : Nat) : Int))) (fun _ k => 100 - (intOf k).toNat)
  case atStart => exact Or.inl ⟨rfl, rfl⟩
  case round =>
    rcases hrel with ⟨rfl, rfl⟩ | ⟨rfl, rfl⟩ | ⟨rfl, rfl⟩
    · go_wp2
      go_round
      case rel => exact Or.inr (Or.inl ⟨rfl, rfl⟩)
      case measure => simp [intOf]
    · go_wp2
      go_round
      case rel => exact Or.inr (Or.inr ⟨rfl, rfl⟩)
      case measure => simp [intOf]
    · go_wp2
      go_ret
      exact ⟨rfl, rfl⟩

/-! ### zzUnmix -/
set_option maxHeartbeats 400000 in
theorem unmix_any (y : Nat) (h : y < 18446744073709551616) (w : World) :
    Calls Try.prog 6 #[.int .u64 (y : Int)] w fun e w' => e = .returned (.int .u64 ((unmixN y : Nat) : Int)) ∧ w' = w := by
  have e1 := iB (unx 2147483648 y)
  have e2 := iA (unx 134217728 (mulc 3573116690164977347 (unx 2147483648 y)))
  go_enter Try.func6, Try.ntmps6
  go_wp2_with fail
  refine (un31 y h _).mono ?_
  rintro e w' ⟨rfl, rfl⟩
  go_wp2_with fail
  refine (invB _).mono ?_
  rintro e w' ⟨rfl, rfl⟩
  go_wp2_with fail
  refine (un27 _ (mulc_lt _ _) _).mono ?_
  rintro e w' ⟨rfl, rfl⟩
  go_wp2_with fail
  refine (invA _).mono ?_
  rintro e w' ⟨rfl, rfl⟩
  go_wp2_with fail
  refine (un30 _ (mulc_lt _ _) _).mono ?_
  rintro e w' ⟨rfl, rfl⟩
  go_wp2
  go_ret
  exact ⟨rfl, rfl⟩
end Go.Proofs.Qxb6618122a
