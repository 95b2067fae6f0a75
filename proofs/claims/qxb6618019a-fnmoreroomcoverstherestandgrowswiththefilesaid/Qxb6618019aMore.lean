/-
  more (13), ZZmore (10), mulGreaterB1 (11): pure integer arithmetic.
-/
import Derived.Test.Qxb6618019aRows
import Derived.Test.Qxb6618019aPlain
import Derived.WalkKit
import Derived.ProofKit
import Derived.OpenShut
import Derived.WalkSpells
import Derived.WalkLawsBesides
namespace Go.Proofs.Qxb6618019a
open Go.ChangeShapes Go.WideShapes Go.ChangeAt Go.RowKit
set_option linter.unusedVariables false

theorem ret_int {k : IntKind} {a b : Int} (h : a = b) : Ending.returned (.int k a) = .returned (.int k b) := by rw [h]

/-- where the size is unknown -/
def unkF (n : Int) : Int := if n < 64 then 64 else n

set_option maxHeartbeats 800000 in
theorem more_unk (n o s : Int) (h0 : 0 ≤ n) (h1 : n ≤ 9223372036854775807) (h : n = 0 ∨ o ≤ 0 ∨ s ≤ o) (w : World) :
    Calls Try.prog 13 #[.int .i64 n, .int .i64 o, .int .i64 s] w fun e w' => e = .returned (.int .i64 (unkF n)) ∧ w' = w := by
  have small : n < 64 → unkF n = 64 := fun g => by unfold unkF; rw [if_pos g]
  have big : 64 ≤ n → unkF n = n := fun g => by unfold unkF; rw [if_neg (by omega)]
  have S : Hid (n < 64 → unkF n = 64) := small
  have B : Hid (64 ≤ n → unkF n = n) := big
  clear small big
  by_cases g0 : n = 0
  · subst g0
    go_enter Try.func13, Try.ntmps13
    go_wp2
    go_ret
    exact ⟨ret_int (S.out (by omega)).symm, rfl⟩
  have g0' : (n == 0) = false := beq_eq_false_iff_ne.2 g0
  by_cases g1 : o ≤ 0
  · clear h
    by_cases k1 : n < 64
    · go_enter Try.func13, Try.ntmps13
      go_wp2
      go_ret
      exact ⟨ret_int (by rw [S.out k1]), rfl⟩
    by_cases k2 : n < 256
    · go_enter Try.func13, Try.ntmps13
      go_wp2
      go_ret
      exact ⟨ret_int (by rw [B.out (by omega)]), rfl⟩
    · go_enter Try.func13, Try.ntmps13
      go_wp2
      go_ret
      exact ⟨ret_int (by rw [B.out (by omega)]), rfl⟩
  · have g2 : s ≤ o := by omega
    clear h
    by_cases k1 : n < 64
    · go_enter Try.func13, Try.ntmps13
      go_wp2
      go_ret
      exact ⟨ret_int (by rw [S.out k1]), rfl⟩
    by_cases k2 : n < 256
    · go_enter Try.func13, Try.ntmps13
      go_wp2
      go_ret
      exact ⟨ret_int (by rw [B.out (by omega)]), rfl⟩
    · go_enter Try.func13, Try.ntmps13
      go_wp2
      go_ret
      exact ⟨ret_int (by rw [B.out (by omega)]), rfl⟩

/-! ### where the size is known: twelve ways -/
set_option maxHeartbeats 400000 in
theorem more_s0l (n o s : Int) (h0 : 1 ≤ n) (h1 : n < 256) (ho : 1 ≤ o) (hos : o < s) (hs : s ≤ 4611686018427387904) (q : o / n = 0) (g : (s - o) + (s - o) / 10 < 64) (w : World) :
    Calls Try.prog 13 #[.int .i64 n, .int .i64 o, .int .i64 s] w fun e w' => e = .returned (.int .i64 64) ∧ w' = w := by
  have b0 : (n == 0) = false := beq_eq_false_iff_ne.2 (by omega)
  have b1 : decide (o ≤ 0) = false := by simp; omega
  have b2 : decide (s ≤ o) = false := by simp; omega
  go_enter Try.func13, Try.ntmps13
  go_wp2
  go_ret
  exact ⟨rfl, rfl⟩
set_option maxHeartbeats 400000 in
theorem more_s0r (n o s : Int) (h0 : 1 ≤ n) (h1 : n < 256) (ho : 1 ≤ o) (hos : o < s) (hs : s ≤ 4611686018427387904) (q : o / n = 0) (g : 64 ≤ (s - o) + (s - o) / 10) (w : World) :
    Calls Try.prog 13 #[.int .i64 n, .int .i64 o, .int .i64 s] w fun e w' => e = .returned (.int .i64 ((s - o) + (s - o) / 10)) ∧ w' = w := by
  have b0 : (n == 0) = false := beq_eq_false_iff_ne.2 (by omega)
  have b1 : decide (o ≤ 0) = false := by simp; omega
  have b2 : decide (s ≤ o) = false := by simp; omega
  go_enter Try.func13, Try.ntmps13
  go_wp2
  go_ret
  exact ⟨rfl, rfl⟩
set_option maxHeartbeats 400000 in
theorem more_s1l (n o s : Int) (h0 : 1 ≤ n) (h1 : n < 256) (ho : 1 ≤ o) (hos : o < s) (hs : s ≤ 4611686018427387904) (q : o / n = 1) (g : (s - o) + (s - o) / 10 < 64) (w : World) :
    Calls Try.prog 13 #[.int .i64 n, .int .i64 o, .int .i64 s] w fun e w' => e = .returned (.int .i64 64) ∧ w' = w := by
  have b0 : (n == 0) = false := beq_eq_false_iff_ne.2 (by omega)
  have b1 : decide (o ≤ 0) = false := by simp; omega
  have b2 : decide (s ≤ o) = false := by simp; omega
  go_enter Try.func13, Try.ntmps13
  go_wp2
  go_ret
  exact ⟨rfl, rfl⟩
set_option maxHeartbeats 400000 in
theorem more_s1r (n o s : Int) (h0 : 1 ≤ n) (h1 : n < 256) (ho : 1 ≤ o) (hos : o < s) (hs : s ≤ 4611686018427387904) (q : o / n = 1) (g : 64 ≤ (s - o) + (s - o) / 10) (w : World) :
    Calls Try.prog 13 #[.int .i64 n, .int .i64 o, .int .i64 s] w fun e w' => e = .returned (.int .i64 ((s - o) + (s - o) / 10)) ∧ w' = w := by
  have b0 : (n == 0) = false := beq_eq_false_iff_ne.2 (by omega)
  have b1 : decide (o ≤ 0) = false := by simp; omega
  have b2 : decide (s ≤ o) = false := by simp; omega
  go_enter Try.func13, Try.ntmps13
  go_wp2
  go_ret
  exact ⟨rfl, rfl⟩
set_option maxHeartbeats 400000 in
theorem more_s2l (n o s : Int) (h0 : 1 ≤ n) (h1 : n < 256) (ho : 1 ≤ o) (hos : o < s) (hs : s ≤ 4611686018427387904) (q : 1 < o / n) (r0 : 0 ≤ (s - o) / (o / n)) (r1 : (s - o) / (o / n) ≤ 4611686018427387904) (g : ((s - o) / (o / n)) + ((s - o) / (o / n)) / 10 < 64) (w : World) :
    Calls Try.prog 13 #[.int .i64 n, .int .i64 o, .int .i64 s] w fun e w' => e = .returned (.int .i64 64) ∧ w' = w := by
  have b0 : (n == 0) = false := beq_eq_false_iff_ne.2 (by omega)
  have b1 : decide (o ≤ 0) = false := by simp; omega
  have b2 : decide (s ≤ o) = false := by simp; omega
  go_enter Try.func13, Try.ntmps13
  go_wp2
  go_ret
  exact ⟨rfl, rfl⟩
set_option maxHeartbeats 400000 in
theorem more_s2r (n o s : Int) (h0 : 1 ≤ n) (h1 : n < 256) (ho : 1 ≤ o) (hos : o < s) (hs : s ≤ 4611686018427387904) (q : 1 < o / n) (r0 : 0 ≤ (s - o) / (o / n)) (r1 : (s - o) / (o / n) ≤ 4611686018427387904) (g : 64 ≤ ((s - o) / (o / n)) + ((s - o) / (o / n)) / 10) (w : World) :
    Calls Try.prog 13 #[.int .i64 n, .int .i64 o, .int .i64 s] w fun e w' => e = .returned (.int .i64 (((s - o) / (o / n)) + ((s - o) / (o / n)) / 10)) ∧ w' = w := by
  have b0 : (n == 0) = false := beq_eq_false_iff_ne.2 (by omega)
  have b1 : decide (o ≤ 0) = false := by simp; omega
  have b2 : decide (s ≤ o) = false := by simp; omega
  go_enter Try.func13, Try.ntmps13
  go_wp2
  go_ret
  exact ⟨rfl, rfl⟩
set_option maxHeartbeats 400000 in
theorem more_b0l (n o s : Int) (h0 : 1 ≤ n) (h1 : 256 ≤ n) (h1' : n ≤ 9223372036854775807) (ho : 1 ≤ o) (hos : o < s) (hs : s ≤ 4611686018427387904) (q : o / n = 0) (g : (s - o) + (s - o) / 10 < (n / 4)) (w : World) :
    Calls Try.prog 13 #[.int .i64 n, .int .i64 o, .int .i64 s] w fun e w' => e = .returned (.int .i64 (n / 4)) ∧ w' = w := by
  have b0 : (n == 0) = false := beq_eq_false_iff_ne.2 (by omega)
  have b1 : decide (o ≤ 0) = false := by simp; omega
  have b2 : decide (s ≤ o) = false := by simp; omega
  go_enter Try.func13, Try.ntmps13
  go_wp2
  go_ret
  exact ⟨rfl, rfl⟩
set_option maxHeartbeats 400000 in
theorem more_b0r (n o s : Int) (h0 : 1 ≤ n) (h1 : 256 ≤ n) (h1' : n ≤ 9223372036854775807) (ho : 1 ≤ o) (hos : o < s) (hs : s ≤ 4611686018427387904) (q : o / n = 0) (g : (n / 4) ≤ (s - o) + (s - o) / 10) (w : World) :
    Calls Try.prog 13 #[.int .i64 n, .int .i64 o, .int .i64 s] w fun e w' => e = .returned (.int .i64 ((s - o) + (s - o) / 10)) ∧ w' = w := by
  have b0 : (n == 0) = false := beq_eq_false_iff_ne.2 (by omega)
  have b1 : decide (o ≤ 0) = false := by simp; omega
  have b2 : decide (s ≤ o) = false := by simp; omega
  go_enter Try.func13, Try.ntmps13
  go_wp2
  go_ret
  exact ⟨rfl, rfl⟩
set_option maxHeartbeats 400000 in
theorem more_b1l (n o s : Int) (h0 : 1 ≤ n) (h1 : 256 ≤ n) (h1' : n ≤ 9223372036854775807) (ho : 1 ≤ o) (hos : o < s) (hs : s ≤ 4611686018427387904) (q : o / n = 1) (g : (s - o) + (s - o) / 10 < (n / 4)) (w : World) :
    Calls Try.prog 13 #[.int .i64 n, .int .i64 o, .int .i64 s] w fun e w' => e = .returned (.int .i64 (n / 4)) ∧ w' = w := by
  have b0 : (n == 0) = false := beq_eq_false_iff_ne.2 (by omega)
  have b1 : decide (o ≤ 0) = false := by simp; omega
  have b2 : decide (s ≤ o) = false := by simp; omega
  go_enter Try.func13, Try.ntmps13
  go_wp2
  go_ret
  exact ⟨rfl, rfl⟩
set_option maxHeartbeats 400000 in
theorem more_b1r (n o s : Int) (h0 : 1 ≤ n) (h1 : 256 ≤ n) (h1' : n ≤ 9223372036854775807) (ho : 1 ≤ o) (hos : o < s) (hs : s ≤ 4611686018427387904) (q : o / n = 1) (g : (n / 4) ≤ (s - o) + (s - o) / 10) (w : World) :
    Calls Try.prog 13 #[.int .i64 n, .int .i64 o, .int .i64 s] w fun e w' => e = .returned (.int .i64 ((s - o) + (s - o) / 10)) ∧ w' = w := by
  have b0 : (n == 0) = false := beq_eq_false_iff_ne.2 (by omega)
  have b1 : decide (o ≤ 0) = false := by simp; omega
  have b2 : decide (s ≤ o) = false := by simp; omega
  go_enter Try.func13, Try.ntmps13
  go_wp2
  go_ret
  exact ⟨rfl, rfl⟩
set_option maxHeartbeats 400000 in
theorem more_b2l (n o s : Int) (h0 : 1 ≤ n) (h1 : 256 ≤ n) (h1' : n ≤ 9223372036854775807) (ho : 1 ≤ o) (hos : o < s) (hs : s ≤ 4611686018427387904) (q : 1 < o / n) (r0 : 0 ≤ (s - o) / (o / n)) (r1 : (s - o) / (o / n) ≤ 4611686018427387904) (g : ((s - o) / (o / n)) + ((s - o) / (o / n)) / 10 < (n / 4)) (w : World) :
    Calls Try.prog 13 #[.int .i64 n, .int .i64 o, .int .i64 s] w fun e w' => e = .returned (.int .i64 (n / 4)) ∧ w' = w := by
  have b0 : (n == 0) = false := beq_eq_false_iff_ne.2 (by omega)
  have b1 : decide (o ≤ 0) = false := by simp; omega
  have b2 : decide (s ≤ o) = false := by simp; omega
  go_enter Try.func13, Try.ntmps13
  go_wp2
  go_ret
  exact ⟨rfl, rfl⟩
set_option maxHeartbeats 400000 in
theorem more_b2r (n o s : Int) (h0 : 1 ≤ n) (h1 : 256 ≤ n) (h1' : n ≤ 9223372036854775807) (ho : 1 ≤ o) (hos : o < s) (hs : s ≤ 4611686018427387904) (q : 1 < o / n) (r0 : 0 ≤ (s - o) / (o / n)) (r1 : (s - o) / (o / n) ≤ 4611686018427387904) (g : (n / 4) ≤ ((s - o) / (o / n)) + ((s - o) / (o / n)) / 10) (w : World) :
    Calls Try.prog 13 #[.int .i64 n, .int .i64 o, .int .i64 s] w fun e w' => e = .returned (.int .i64 (((s - o) / (o / n)) + ((s - o) / (o / n)) / 10)) ∧ w' = w := by
  have b0 : (n == 0) = false := beq_eq_false_iff_ne.2 (by omega)
  have b1 : decide (o ≤ 0) = false := by simp; omega
  have b2 : decide (s ≤ o) = false := by simp; omega
  go_enter Try.func13, Try.ntmps13
  go_wp2
  go_ret
  exact ⟨rfl, rfl⟩

open Plain in
theorem more_known (n o s : Int) (h0 : 1 ≤ n) (h1 : n ≤ 9223372036854775807) (ho : 1 ≤ o) (hos : o < s) (hs : s ≤ 4611686018427387904) (w : World) :
    Calls Try.prog 13 #[.int .i64 n, .int .i64 o, .int .i64 s] w fun e w' => e = .returned (.int .i64 (moreF n o s)) ∧ w' = w := by
  have r0 := rest_lo n o s h0 hos
  have r1 := rest_hi n o s h0 hos
  have key : ∀ q a : Int, o / n = q → avgF n o = a → restF n o s = (s - o) / a := fun q a _ e => by unfold restF; rw [e]
  by_cases k : o < n
  · have q := quo_small n o (by omega) k
    have er : restF n o s = s - o := by unfold restF; rw [avg_small n o k, Int.ediv_one]
    have em : moreF n o s = if s - o + (s - o) / 10 < leF n then leF n else s - o + (s - o) / 10 := by unfold moreF tenth; rw [er]
    rw [em]
    by_cases m : n < 256
    · have el : leF n = 64 := by unfold leF; rw [if_pos m]
      rw [el]
      by_cases g : s - o + (s - o) / 10 < 64
      · rw [if_pos g]; exact more_s0l n o s h0 m ho hos hs q g w
      · rw [if_neg g]; exact more_s0r n o s h0 m ho hos hs q (by omega) w
    · have el : leF n = n / 4 := by unfold leF; rw [if_neg m]
      rw [el]
      by_cases g : s - o + (s - o) / 10 < n / 4
      · rw [if_pos g]; exact more_b0l n o s h0 (by omega) h1 ho hos hs q g w
      · rw [if_neg g]; exact more_b0r n o s h0 (by omega) h1 ho hos hs q (by omega) w
  have q := quo_big n o h0 k
  by_cases k1 : o / n = 1
  · have er : restF n o s = s - o := by unfold restF; rw [avg_big n o k, k1, Int.ediv_one]
    have em : moreF n o s = if s - o + (s - o) / 10 < leF n then leF n else s - o + (s - o) / 10 := by unfold moreF tenth; rw [er]
    rw [em]
    by_cases m : n < 256
    · have el : leF n = 64 := by unfold leF; rw [if_pos m]
      rw [el]
      by_cases g : s - o + (s - o) / 10 < 64
      · rw [if_pos g]; exact more_s1l n o s h0 m ho hos hs k1 g w
      · rw [if_neg g]; exact more_s1r n o s h0 m ho hos hs k1 (by omega) w
    · have el : leF n = n / 4 := by unfold leF; rw [if_neg m]
      rw [el]
      by_cases g : s - o + (s - o) / 10 < n / 4
      · rw [if_pos g]; exact more_b1l n o s h0 (by omega) h1 ho hos hs k1 g w
      · rw [if_neg g]; exact more_b1r n o s h0 (by omega) h1 ho hos hs k1 (by omega) w
  · have er : restF n o s = (s - o) / (o / n) := by unfold restF; rw [avg_big n o k]
    have em : moreF n o s = if (s - o) / (o / n) + (s - o) / (o / n) / 10 < leF n then leF n else (s - o) / (o / n) + (s - o) / (o / n) / 10 := by unfold moreF tenth; rw [er]
    rw [em]
    rw [er] at r0 r1
    have q' : 1 < o / n := by omega
    by_cases m : n < 256
    · have el : leF n = 64 := by unfold leF; rw [if_pos m]
      rw [el]
      by_cases g : (s - o) / (o / n) + (s - o) / (o / n) / 10 < 64
      · rw [if_pos g]; exact more_s2l n o s h0 m ho hos hs q' r0 (by omega) g w
      · rw [if_neg g]; exact more_s2r n o s h0 m ho hos hs q' r0 (by omega) (by omega) w
    · have el : leF n = n / 4 := by unfold leF; rw [if_neg m]
      rw [el]
      by_cases g : (s - o) / (o / n) + (s - o) / (o / n) / 10 < n / 4
      · rw [if_pos g]; exact more_b2l n o s h0 (by omega) h1 ho hos hs q' r0 (by omega) g w
      · rw [if_neg g]; exact more_b2r n o s h0 (by omega) h1 ho hos hs q' r0 (by omega) (by omega) w

/-! ### ZZmore (10) -/
theorem zz_unk (n o s : Int) (h0 : 0 ≤ n) (h1 : n ≤ 9223372036854775807) (h : n = 0 ∨ o ≤ 0 ∨ s ≤ o) (w : World) :
    Calls Try.prog 10 #[.int .i64 n, .int .i64 o, .int .i64 s] w fun e w' => e = .returned (.int .i64 (unkF n)) ∧ w' = w := by
  have H : Hid (n = 0 ∨ o ≤ 0 ∨ s ≤ o) := h
  clear h
  go_enter Try.func10, Try.ntmps10
  go_wp2_with (go_at_call 13; refine (more_unk n o s h0 h1 H.out _).mono ?_; rintro e w' ⟨rfl, rfl⟩)
  go_ret
  exact ⟨rfl, rfl⟩
theorem zz_known (n o s : Int) (h0 : 1 ≤ n) (h1 : n ≤ 9223372036854775807) (ho : 1 ≤ o) (hos : o < s) (hs : s ≤ 4611686018427387904) (w : World) :
    Calls Try.prog 10 #[.int .i64 n, .int .i64 o, .int .i64 s] w fun e w' => e = .returned (.int .i64 (Plain.moreF n o s)) ∧ w' = w := by
  go_enter Try.func10, Try.ntmps10
  go_wp2_with (go_at_call 13; refine (more_known n o s h0 h1 ho hos hs _).mono ?_; rintro e w' ⟨rfl, rfl⟩)
  go_ret
  exact ⟨rfl, rfl⟩

/-! ### mulGreaterB1 (11), at positive a and b -/
theorem mulG_yes (a b c : Int) (ha : 1 ≤ a) (hb : 1 ≤ b) (hc : 0 ≤ c) (hc1 : c ≤ 9223372036854775807) (h : c / a < b) (w : World) :
    Calls Try.prog 11 #[.int .i64 a, .int .i64 b, .int .i64 c] w fun e w' => e = .returned (.bool true) ∧ w' = w := by
  have b1 : decide (a ≤ 0) = false := by simp; omega
  have b2 : decide (b ≤ 0) = false := by simp; omega
  have d0 : 0 ≤ c / a := Int.ediv_nonneg hc (by omega)
  have d1 : c / a ≤ 9223372036854775807 := Int.le_trans (Int.ediv_le_self _ hc) hc1
  go_enter Try.func11, Try.ntmps11
  go_wp2
  go_ret
  exact ⟨rfl, rfl⟩
theorem mulG_no (a b c : Int) (ha : 1 ≤ a) (hb : 1 ≤ b) (hc : 0 ≤ c) (hc1 : c ≤ 9223372036854775807) (h : b ≤ c / a) (w : World) :
    Calls Try.prog 11 #[.int .i64 a, .int .i64 b, .int .i64 c] w fun e w' => e = .returned (.bool false) ∧ w' = w := by
  have b1 : decide (a ≤ 0) = false := by simp; omega
  have b2 : decide (b ≤ 0) = false := by simp; omega
  have d0 : 0 ≤ c / a := Int.ediv_nonneg hc (by omega)
  have d1 : c / a ≤ 9223372036854775807 := Int.le_trans (Int.ediv_le_self _ hc) hc1
  have b3 : decide (c / a < b) = false := by simp; omega
  go_enter Try.func11, Try.ntmps11
  go_wp2
  go_ret
  exact ⟨rfl, rfl⟩

end Go.Proofs.Qxb6618019a
