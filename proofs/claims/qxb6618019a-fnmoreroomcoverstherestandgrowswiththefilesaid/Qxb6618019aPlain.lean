/-
  THE PLAIN LAWS of 'more': no Go in sight.
-/
import Derived.WalkKit
namespace Go.Proofs.Qxb6618019a.Plain
set_option linter.unusedVariables false

/-- the bytes a row takes, at least one -/
def avgF (n o : Int) : Int := if o < n then 1 else o / n
/-- the least room -/
def leF (n : Int) : Int := if n < 256 then 64 else n / 4
/-- the rows that the rest holds -/
def restF (n o s : Int) : Int := (s - o) / avgF n o
def tenth (r : Int) : Int := r + r / 10
/-- what 'more' gives where the size is known -/
def moreF (n o s : Int) : Int := if tenth (restF n o s) < leF n then leF n else tenth (restF n o s)

theorem avg_pos (n o : Int) (h : 1 ≤ n) : 1 ≤ avgF n o := by
  unfold avgF
  split
  · exact Int.le_refl 1
  · rename_i g
    exact (Int.le_ediv_iff_mul_le (by omega)).2 (by omega)
theorem avg_small (n o : Int) (h : o < n) : avgF n o = 1 := by unfold avgF; rw [if_pos h]
theorem avg_big (n o : Int) (h : ¬ o < n) : avgF n o = o / n := by unfold avgF; rw [if_neg h]
theorem quo_small (n o : Int) (h : 0 ≤ o) (h' : o < n) : o / n = 0 := Int.ediv_eq_zero_of_lt h h'
theorem quo_big (n o : Int) (h : 1 ≤ n) (h' : ¬ o < n) : 1 ≤ o / n := (Int.le_ediv_iff_mul_le (by omega)).2 (by omega)

theorem rest_lo (n o s : Int) (h : 1 ≤ n) (h' : o < s) : 0 ≤ restF n o s :=
  Int.ediv_nonneg (by omega) (by have := avg_pos n o h; omega)
theorem rest_hi (n o s : Int) (h : 1 ≤ n) (h' : o < s) : restF n o s ≤ s - o :=
  Int.ediv_le_self _ (by omega)
theorem rest_mul (n o s : Int) (h : 1 ≤ n) : restF n o s * avgF n o ≤ s - o :=
  Int.ediv_mul_le _ (by have := avg_pos n o h; omega)
theorem rest_succ (n o s : Int) (h : 1 ≤ n) : s - o < (restF n o s + 1) * avgF n o :=
  Int.lt_ediv_add_one_mul_self _ (by have := avg_pos n o h; omega)

theorem tenth_mono (a b : Int) (h : a ≤ b) : tenth a ≤ tenth b := by unfold tenth; omega
theorem rest_mono (n o s t : Int) (h : 1 ≤ n) (h' : s ≤ t) : restF n o s ≤ restF n o t :=
  Int.ediv_le_ediv (by have := avg_pos n o h; omega) (by omega)
theorem more_mono (n o s t : Int) (h : 1 ≤ n) (h' : s ≤ t) : moreF n o s ≤ moreF n o t := by
  have := tenth_mono _ _ (rest_mono n o s t h h')
  unfold moreF
  split <;> split <;> omega
theorem le_more (n o s : Int) : leF n ≤ moreF n o s := by unfold moreF; split <;> omega
theorem more_big (n o s : Int) (h : leF n < moreF n o s) : moreF n o s = tenth (restF n o s) := by
  revert h; unfold moreF; split <;> intro h
  · omega
  · rfl
theorem more_small (n o s : Int) (h : moreF n o s = leF n) : tenth (restF n o s) ≤ leF n := by
  revert h; unfold moreF; split <;> intro h <;> omega
theorem more_hi (n o s : Int) (h : 1 ≤ n) (hn : n ≤ 9223372036854775807) (h' : o < s) (h1 : 1 ≤ o) (h2 : s ≤ 4611686018427387904) : moreF n o s ≤ 9223372036854775807 := by
  have a := rest_lo n o s h h'
  have b := rest_hi n o s h h'
  unfold moreF leF tenth
  split <;> (try split) <;> omega
theorem leF_lo (n : Int) : 64 ≤ leF n := by unfold leF; split <;> omega
theorem leF_hi (n : Int) (hn : n ≤ 9223372036854775807) : leF n ≤ 2305843009213693951 := by unfold leF; split <;> omega

/-- where 'more' is above the least: the rows are got back out of it -/
theorem back (r : Int) (h : 0 ≤ r) : tenth r - tenth r / 11 = r := by unfold tenth; omega
/-- r * a ≤ c, as the law's division says it -/
theorem no_greater (r a c : Int) (hr : 1 ≤ r) (h : r * a ≤ c) : a ≤ c / r :=
  (Int.le_ediv_iff_mul_le (by omega)).2 (by rw [Int.mul_comm]; exact h)
theorem greater (r a c : Int) (hr : 1 ≤ r) (h : c < r * a) : c / r < a :=
  (Int.ediv_lt_iff_lt_mul (by omega)).2 (by rw [Int.mul_comm]; exact h)
/-- the least r whose r + r/10 is above l -/
theorem above (r l : Int) (h0 : 0 ≤ r) (h : tenth r ≤ l) : r + 1 ≤ (l + 1) - (l + 1) / 11 := by unfold tenth at h; omega
theorem mul_mono (r t a c : Int) (ha : 1 ≤ a) (h : r + 1 ≤ t) (hc : c < (r + 1) * a) : c < t * a :=
  Int.lt_of_lt_of_le hc (Int.mul_le_mul_of_nonneg_right h (by omega))

end Go.Proofs.Qxb6618019a.Plain
