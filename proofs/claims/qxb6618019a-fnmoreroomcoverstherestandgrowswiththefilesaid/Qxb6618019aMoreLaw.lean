/-
  THE LAW's WALK (function 5: FnMoreRoomCoversTheRestAndGrowsWithTheFile), way by way; every test is decided ahead of the walk.
-/
import Derived.Test.Qxb6618019aMore
import Derived.Deep.RegionWith
namespace Go.Proofs.Qxb6618019a.MoreLaw
open Go.ChangeShapes Go.WideShapes Go.ChangeAt Go.RowKit Plain
set_option linter.unusedVariables false

theorem w_neg (n o s t : Int) (h : n < 0) (w : World) :
    Calls Try.prog 5 #[.int .i64 n, .int .i64 o, .int .i64 s, .int .i64 t] w fun e w' => e = .returned (.bool true) ∧ w' = w := by
  go_enter Try.func5, Try.ntmps5
  go_wp2
  go_ret
  exact ⟨rfl, rfl⟩
theorem w_size (n o s t : Int) (h0 : 0 ≤ n) (h : 4611686018427387904 < s) (w : World) :
    Calls Try.prog 5 #[.int .i64 n, .int .i64 o, .int .i64 s, .int .i64 t] w fun e w' => e = .returned (.bool true) ∧ w' = w := by
  go_enter Try.func5, Try.ntmps5
  go_wp2
  go_ret
  exact ⟨rfl, rfl⟩
theorem w_size2 (n o s t : Int) (h0 : 0 ≤ n) (h : s ≤ 4611686018427387904) (h' : 4611686018427387904 < t) (w : World) :
    Calls Try.prog 5 #[.int .i64 n, .int .i64 o, .int .i64 s, .int .i64 t] w fun e w' => e = .returned (.bool true) ∧ w' = w := by
  have b1 : decide (4611686018427387904 < s) = false := by simp; omega
  go_enter Try.func5, Try.ntmps5
  go_wp2
  go_ret
  exact ⟨rfl, rfl⟩

/-! ### the size is unknown -/
theorem unk_s (n : Int) (h : n < 64) : unkF n = 64 := by unfold unkF; rw [if_pos h]
theorem unk_b (n : Int) (h : 64 ≤ n) : unkF n = n := by unfold unkF; rw [if_neg (by omega)]
theorem u_0 (o s t : Int) (h : s ≤ 4611686018427387904) (h' : t ≤ 4611686018427387904) (w : World) :
    Calls Try.prog 5 #[.int .i64 0, .int .i64 o, .int .i64 s, .int .i64 t] w fun e w' => e = .returned (.bool true) ∧ w' = w := by
  have b1 : decide (4611686018427387904 < s) = false := by simp; omega
  have b2 : decide (4611686018427387904 < t) = false := by simp; omega
  have u := unk_s 0 (by omega)
  go_enter Try.func5, Try.ntmps5
  go_wp2_with (go_at_call 10; refine (zz_unk 0 o s (by omega) (by omega) (Or.inl rfl) _).mono ?_; rintro e w' ⟨rfl, rfl⟩)
  go_ret
  exact ⟨rfl, rfl⟩
theorem u_so (n o s t : Int) (h1 : 1 ≤ n) (h2 : n < 64) (g : o ≤ 0) (h : s ≤ 4611686018427387904) (h' : t ≤ 4611686018427387904) (w : World) :
    Calls Try.prog 5 #[.int .i64 n, .int .i64 o, .int .i64 s, .int .i64 t] w fun e w' => e = .returned (.bool true) ∧ w' = w := by
  have b1 : decide (4611686018427387904 < s) = false := by simp; omega
  have b2 : decide (4611686018427387904 < t) = false := by simp; omega
  have b3 : (n == 0) = false := beq_eq_false_iff_ne.2 (by omega)
  have u := unk_s n h2
  go_enter Try.func5, Try.ntmps5
  go_wp2_with (go_at_call 10; refine (zz_unk n o s (by omega) (by omega) (Or.inr (Or.inl (by omega))) _).mono ?_; rintro e w' ⟨rfl, rfl⟩)
  go_ret
  exact ⟨rfl, rfl⟩
theorem u_ss (n o s t : Int) (h1 : 1 ≤ n) (h2 : n < 64) (g : 1 ≤ o) (g' : s ≤ o) (h : s ≤ 4611686018427387904) (h' : t ≤ 4611686018427387904) (w : World) :
    Calls Try.prog 5 #[.int .i64 n, .int .i64 o, .int .i64 s, .int .i64 t] w fun e w' => e = .returned (.bool true) ∧ w' = w := by
  have b1 : decide (4611686018427387904 < s) = false := by simp; omega
  have b2 : decide (4611686018427387904 < t) = false := by simp; omega
  have b3 : (n == 0) = false := beq_eq_false_iff_ne.2 (by omega)
  have b4 : decide (o ≤ 0) = false := by simp; omega
  have u := unk_s n h2
  go_enter Try.func5, Try.ntmps5
  go_wp2_with (go_at_call 10; refine (zz_unk n o s (by omega) (by omega) (Or.inr (Or.inr (by omega))) _).mono ?_; rintro e w' ⟨rfl, rfl⟩)
  go_ret
  exact ⟨rfl, rfl⟩
theorem u_mo (n o s t : Int) (h1 : 64 ≤ n) (h2 : n < 256) (g : o ≤ 0) (h : s ≤ 4611686018427387904) (h' : t ≤ 4611686018427387904) (w : World) :
    Calls Try.prog 5 #[.int .i64 n, .int .i64 o, .int .i64 s, .int .i64 t] w fun e w' => e = .returned (.bool true) ∧ w' = w := by
  have b1 : decide (4611686018427387904 < s) = false := by simp; omega
  have b2 : decide (4611686018427387904 < t) = false := by simp; omega
  have b3 : (n == 0) = false := beq_eq_false_iff_ne.2 (by omega)
  have u := unk_b n (by omega)
  go_enter Try.func5, Try.ntmps5
  go_wp2_with (go_at_call 10; refine (zz_unk n o s (by omega) (by omega) (Or.inr (Or.inl (by omega))) _).mono ?_; rintro e w' ⟨rfl, rfl⟩)
  go_ret
  exact ⟨rfl, rfl⟩
theorem u_ms (n o s t : Int) (h1 : 64 ≤ n) (h2 : n < 256) (g : 1 ≤ o) (g' : s ≤ o) (h : s ≤ 4611686018427387904) (h' : t ≤ 4611686018427387904) (w : World) :
    Calls Try.prog 5 #[.int .i64 n, .int .i64 o, .int .i64 s, .int .i64 t] w fun e w' => e = .returned (.bool true) ∧ w' = w := by
  have b1 : decide (4611686018427387904 < s) = false := by simp; omega
  have b2 : decide (4611686018427387904 < t) = false := by simp; omega
  have b3 : (n == 0) = false := beq_eq_false_iff_ne.2 (by omega)
  have b4 : decide (o ≤ 0) = false := by simp; omega
  have u := unk_b n (by omega)
  go_enter Try.func5, Try.ntmps5
  go_wp2_with (go_at_call 10; refine (zz_unk n o s (by omega) (by omega) (Or.inr (Or.inr (by omega))) _).mono ?_; rintro e w' ⟨rfl, rfl⟩)
  go_ret
  exact ⟨rfl, rfl⟩
theorem u_bo (n o s t : Int) (h1 : 256 ≤ n) (h2 : n ≤ 9223372036854775807) (g : o ≤ 0) (h : s ≤ 4611686018427387904) (h' : t ≤ 4611686018427387904) (w : World) :
    Calls Try.prog 5 #[.int .i64 n, .int .i64 o, .int .i64 s, .int .i64 t] w fun e w' => e = .returned (.bool true) ∧ w' = w := by
  have b1 : decide (4611686018427387904 < s) = false := by simp; omega
  have b2 : decide (4611686018427387904 < t) = false := by simp; omega
  have b3 : (n == 0) = false := beq_eq_false_iff_ne.2 (by omega)
  have u := unk_b n (by omega)
  go_enter Try.func5, Try.ntmps5
  go_wp2_with (go_at_call 10; refine (zz_unk n o s (by omega) (by omega) (Or.inr (Or.inl (by omega))) _).mono ?_; rintro e w' ⟨rfl, rfl⟩)
  go_ret
  exact ⟨rfl, rfl⟩
theorem u_bs (n o s t : Int) (h1 : 256 ≤ n) (h2 : n ≤ 9223372036854775807) (g : 1 ≤ o) (g' : s ≤ o) (h : s ≤ 4611686018427387904) (h' : t ≤ 4611686018427387904) (w : World) :
    Calls Try.prog 5 #[.int .i64 n, .int .i64 o, .int .i64 s, .int .i64 t] w fun e w' => e = .returned (.bool true) ∧ w' = w := by
  have b1 : decide (4611686018427387904 < s) = false := by simp; omega
  have b2 : decide (4611686018427387904 < t) = false := by simp; omega
  have b3 : (n == 0) = false := beq_eq_false_iff_ne.2 (by omega)
  have b4 : decide (o ≤ 0) = false := by simp; omega
  have u := unk_b n (by omega)
  go_enter Try.func5, Try.ntmps5
  go_wp2_with (go_at_call 10; refine (zz_unk n o s (by omega) (by omega) (Or.inr (Or.inr (by omega))) _).mono ?_; rintro e w' ⟨rfl, rfl⟩)
  go_ret
  exact ⟨rfl, rfl⟩

/-! ### the size is known -/
set_option maxHeartbeats 800000 in
theorem k_s0Gy (n o s t : Int) (h0 : 1 ≤ n) (h1 : n < 256) (ho : 1 ≤ o) (hos : o < s) (hs : s ≤ 4611686018427387904) (ht : t ≤ 4611686018427387904) (q : o / n = 0)
    (mg : 64 < moreF n o s) (mh : moreF n o s ≤ 9223372036854775807) (r1 : 1 ≤ restF n o s) (r2 : restF n o s ≤ 4611686018427387904) (e1 : moreF n o s - moreF n o s / 11 = restF n o s) (e2 : (restF n o s + restF n o s / 10 == moreF n o s) = true) (f1 : 1 ≤ (s - o) / restF n o s) (f2 : (s - o) / (restF n o s + 1) < 1) (z : s ≤ t) (mm : moreF n o s ≤ moreF n o t) (w : World) :
    Calls Try.prog 5 #[.int .i64 n, .int .i64 o, .int .i64 s, .int .i64 t] w fun e w' => e = .returned (.bool true) ∧ w' = w := by
  have b1 : decide (4611686018427387904 < s) = false := by simp; omega
  have b2 : decide (4611686018427387904 < t) = false := by simp; omega
  have b3 : (n == 0) = false := beq_eq_false_iff_ne.2 (by omega)
  have b4 : decide (o ≤ 0) = false := by simp; omega
  have b5 : decide (s ≤ o) = false := by simp; omega
  have b6 : decide (moreF n o t < moreF n o s) = false := by simp; omega
  go_enter Try.func5, Try.ntmps5
  go_wp2_with (first
    | (go_at_call_of 10 (Value.int IntKind.i64 s); refine (zz_known n o s h0 (by omega) ho hos hs _).mono ?_; rintro e w' ⟨rfl, rfl⟩)
    | (go_at_call_of 11 (Value.int IntKind.i64 (restF n o s)); refine (mulG_no (restF n o s) 1 (s - o) r1 (by omega) (by omega) (by omega) f1 _).mono ?_; rintro e w' ⟨rfl, rfl⟩)
    | (go_at_call 11; refine (mulG_yes (restF n o s + 1) 1 (s - o) (by omega) (by omega) (by omega) (by omega) f2 _).mono ?_; rintro e w' ⟨rfl, rfl⟩)
    | (go_at_call_of 10 (Value.int IntKind.i64 t); refine (zz_known n o t h0 (by omega) ho (by omega) ht _).mono ?_; rintro e w' ⟨rfl, rfl⟩))
  go_ret
  exact ⟨rfl, rfl⟩
set_option maxHeartbeats 800000 in
theorem k_s0Gn (n o s t : Int) (h0 : 1 ≤ n) (h1 : n < 256) (ho : 1 ≤ o) (hos : o < s) (hs : s ≤ 4611686018427387904) (ht : t ≤ 4611686018427387904) (q : o / n = 0)
    (mg : 64 < moreF n o s) (mh : moreF n o s ≤ 9223372036854775807) (r1 : 1 ≤ restF n o s) (r2 : restF n o s ≤ 4611686018427387904) (e1 : moreF n o s - moreF n o s / 11 = restF n o s) (e2 : (restF n o s + restF n o s / 10 == moreF n o s) = true) (f1 : 1 ≤ (s - o) / restF n o s) (f2 : (s - o) / (restF n o s + 1) < 1) (z : t < s) (w : World) :
    Calls Try.prog 5 #[.int .i64 n, .int .i64 o, .int .i64 s, .int .i64 t] w fun e w' => e = .returned (.bool true) ∧ w' = w := by
  have b1 : decide (4611686018427387904 < s) = false := by simp; omega
  have b2 : decide (4611686018427387904 < t) = false := by simp; omega
  have b3 : (n == 0) = false := beq_eq_false_iff_ne.2 (by omega)
  have b4 : decide (o ≤ 0) = false := by simp; omega
  have b5 : decide (s ≤ o) = false := by simp; omega
  go_enter Try.func5, Try.ntmps5
  go_wp2_with (first
    | (go_at_call_of 10 (Value.int IntKind.i64 s); refine (zz_known n o s h0 (by omega) ho hos hs _).mono ?_; rintro e w' ⟨rfl, rfl⟩)
    | (go_at_call_of 11 (Value.int IntKind.i64 (restF n o s)); refine (mulG_no (restF n o s) 1 (s - o) r1 (by omega) (by omega) (by omega) f1 _).mono ?_; rintro e w' ⟨rfl, rfl⟩)
    | (go_at_call 11; refine (mulG_yes (restF n o s + 1) 1 (s - o) (by omega) (by omega) (by omega) (by omega) f2 _).mono ?_; rintro e w' ⟨rfl, rfl⟩))
  go_ret
  exact ⟨rfl, rfl⟩
set_option maxHeartbeats 800000 in
theorem k_s0Ey (n o s t : Int) (h0 : 1 ≤ n) (h1 : n < 256) (ho : 1 ≤ o) (hos : o < s) (hs : s ≤ 4611686018427387904) (ht : t ≤ 4611686018427387904) (q : o / n = 0)
    (me : moreF n o s = 64) (f : (s - o) / 60 < 1) (z : s ≤ t) (mm : 64 ≤ moreF n o t) (w : World) :
    Calls Try.prog 5 #[.int .i64 n, .int .i64 o, .int .i64 s, .int .i64 t] w fun e w' => e = .returned (.bool true) ∧ w' = w := by
  have b1 : decide (4611686018427387904 < s) = false := by simp; omega
  have b2 : decide (4611686018427387904 < t) = false := by simp; omega
  have b3 : (n == 0) = false := beq_eq_false_iff_ne.2 (by omega)
  have b4 : decide (o ≤ 0) = false := by simp; omega
  have b5 : decide (s ≤ o) = false := by simp; omega
  have b6 : decide (moreF n o t < 64) = false := by simp; omega
  go_enter Try.func5, Try.ntmps5
  go_wp2_with (first
    | (go_at_call_of 10 (Value.int IntKind.i64 s); refine (zz_known n o s h0 (by omega) ho hos hs _).mono ?_; rintro e w' ⟨rfl, rfl⟩)
    | (go_at_call 11; refine (mulG_yes 60 1 (s - o) (by omega) (by omega) (by omega) (by omega) f _).mono ?_; rintro e w' ⟨rfl, rfl⟩)
    | (go_at_call_of 10 (Value.int IntKind.i64 t); refine (zz_known n o t h0 (by omega) ho (by omega) ht _).mono ?_; rintro e w' ⟨rfl, rfl⟩))
  go_ret
  exact ⟨rfl, rfl⟩
set_option maxHeartbeats 800000 in
theorem k_s0En (n o s t : Int) (h0 : 1 ≤ n) (h1 : n < 256) (ho : 1 ≤ o) (hos : o < s) (hs : s ≤ 4611686018427387904) (ht : t ≤ 4611686018427387904) (q : o / n = 0)
    (me : moreF n o s = 64) (f : (s - o) / 60 < 1) (z : t < s) (w : World) :
    Calls Try.prog 5 #[.int .i64 n, .int .i64 o, .int .i64 s, .int .i64 t] w fun e w' => e = .returned (.bool true) ∧ w' = w := by
  have b1 : decide (4611686018427387904 < s) = false := by simp; omega
  have b2 : decide (4611686018427387904 < t) = false := by simp; omega
  have b3 : (n == 0) = false := beq_eq_false_iff_ne.2 (by omega)
  have b4 : decide (o ≤ 0) = false := by simp; omega
  have b5 : decide (s ≤ o) = false := by simp; omega
  go_enter Try.func5, Try.ntmps5
  go_wp2_with (first
    | (go_at_call_of 10 (Value.int IntKind.i64 s); refine (zz_known n o s h0 (by omega) ho hos hs _).mono ?_; rintro e w' ⟨rfl, rfl⟩)
    | (go_at_call 11; refine (mulG_yes 60 1 (s - o) (by omega) (by omega) (by omega) (by omega) f _).mono ?_; rintro e w' ⟨rfl, rfl⟩))
  go_ret
  exact ⟨rfl, rfl⟩
set_option maxHeartbeats 800000 in
theorem k_s1Gy (n o s t : Int) (h0 : 1 ≤ n) (h1 : n < 256) (ho : 1 ≤ o) (hos : o < s) (hs : s ≤ 4611686018427387904) (ht : t ≤ 4611686018427387904) (q : o / n = 1)
    (mg : 64 < moreF n o s) (mh : moreF n o s ≤ 9223372036854775807) (r1 : 1 ≤ restF n o s) (r2 : restF n o s ≤ 4611686018427387904) (e1 : moreF n o s - moreF n o s / 11 = restF n o s) (e2 : (restF n o s + restF n o s / 10 == moreF n o s) = true) (f1 : 1 ≤ (s - o) / restF n o s) (f2 : (s - o) / (restF n o s + 1) < 1) (z : s ≤ t) (mm : moreF n o s ≤ moreF n o t) (w : World) :
    Calls Try.prog 5 #[.int .i64 n, .int .i64 o, .int .i64 s, .int .i64 t] w fun e w' => e = .returned (.bool true) ∧ w' = w := by
  have b1 : decide (4611686018427387904 < s) = false := by simp; omega
  have b2 : decide (4611686018427387904 < t) = false := by simp; omega
  have b3 : (n == 0) = false := beq_eq_false_iff_ne.2 (by omega)
  have b4 : decide (o ≤ 0) = false := by simp; omega
  have b5 : decide (s ≤ o) = false := by simp; omega
  have b6 : decide (moreF n o t < moreF n o s) = false := by simp; omega
  go_enter Try.func5, Try.ntmps5
  go_wp2_with (first
    | (go_at_call_of 10 (Value.int IntKind.i64 s); refine (zz_known n o s h0 (by omega) ho hos hs _).mono ?_; rintro e w' ⟨rfl, rfl⟩)
    | (go_at_call_of 11 (Value.int IntKind.i64 (restF n o s)); refine (mulG_no (restF n o s) 1 (s - o) r1 (by omega) (by omega) (by omega) f1 _).mono ?_; rintro e w' ⟨rfl, rfl⟩)
    | (go_at_call 11; refine (mulG_yes (restF n o s + 1) 1 (s - o) (by omega) (by omega) (by omega) (by omega) f2 _).mono ?_; rintro e w' ⟨rfl, rfl⟩)
    | (go_at_call_of 10 (Value.int IntKind.i64 t); refine (zz_known n o t h0 (by omega) ho (by omega) ht _).mono ?_; rintro e w' ⟨rfl, rfl⟩))
  go_ret
  exact ⟨rfl, rfl⟩
set_option maxHeartbeats 800000 in
theorem k_s1Gn (n o s t : Int) (h0 : 1 ≤ n) (h1 : n < 256) (ho : 1 ≤ o) (hos : o < s) (hs : s ≤ 4611686018427387904) (ht : t ≤ 4611686018427387904) (q : o / n = 1)
    (mg : 64 < moreF n o s) (mh : moreF n o s ≤ 9223372036854775807) (r1 : 1 ≤ restF n o s) (r2 : restF n o s ≤ 4611686018427387904) (e1 : moreF n o s - moreF n o s / 11 = restF n o s) (e2 : (restF n o s + restF n o s / 10 == moreF n o s) = true) (f1 : 1 ≤ (s - o) / restF n o s) (f2 : (s - o) / (restF n o s + 1) < 1) (z : t < s) (w : World) :
    Calls Try.prog 5 #[.int .i64 n, .int .i64 o, .int .i64 s, .int .i64 t] w fun e w' => e = .returned (.bool true) ∧ w' = w := by
  have b1 : decide (4611686018427387904 < s) = false := by simp; omega
  have b2 : decide (4611686018427387904 < t) = false := by simp; omega
  have b3 : (n == 0) = false := beq_eq_false_iff_ne.2 (by omega)
  have b4 : decide (o ≤ 0) = false := by simp; omega
  have b5 : decide (s ≤ o) = false := by simp; omega
  go_enter Try.func5, Try.ntmps5
  go_wp2_with (first
    | (go_at_call_of 10 (Value.int IntKind.i64 s); refine (zz_known n o s h0 (by omega) ho hos hs _).mono ?_; rintro e w' ⟨rfl, rfl⟩)
    | (go_at_call_of 11 (Value.int IntKind.i64 (restF n o s)); refine (mulG_no (restF n o s) 1 (s - o) r1 (by omega) (by omega) (by omega) f1 _).mono ?_; rintro e w' ⟨rfl, rfl⟩)
    | (go_at_call 11; refine (mulG_yes (restF n o s + 1) 1 (s - o) (by omega) (by omega) (by omega) (by omega) f2 _).mono ?_; rintro e w' ⟨rfl, rfl⟩))
  go_ret
  exact ⟨rfl, rfl⟩
set_option maxHeartbeats 800000 in
theorem k_s1Ey (n o s t : Int) (h0 : 1 ≤ n) (h1 : n < 256) (ho : 1 ≤ o) (hos : o < s) (hs : s ≤ 4611686018427387904) (ht : t ≤ 4611686018427387904) (q : o / n = 1)
    (me : moreF n o s = 64) (f : (s - o) / 60 < 1) (z : s ≤ t) (mm : 64 ≤ moreF n o t) (w : World) :
    Calls Try.prog 5 #[.int .i64 n, .int .i64 o, .int .i64 s, .int .i64 t] w fun e w' => e = .returned (.bool true) ∧ w' = w := by
  have b1 : decide (4611686018427387904 < s) = false := by simp; omega
  have b2 : decide (4611686018427387904 < t) = false := by simp; omega
  have b3 : (n == 0) = false := beq_eq_false_iff_ne.2 (by omega)
  have b4 : decide (o ≤ 0) = false := by simp; omega
  have b5 : decide (s ≤ o) = false := by simp; omega
  have b6 : decide (moreF n o t < 64) = false := by simp; omega
  go_enter Try.func5, Try.ntmps5
  go_wp2_with (first
    | (go_at_call_of 10 (Value.int IntKind.i64 s); refine (zz_known n o s h0 (by omega) ho hos hs _).mono ?_; rintro e w' ⟨rfl, rfl⟩)
    | (go_at_call 11; refine (mulG_yes 60 1 (s - o) (by omega) (by omega) (by omega) (by omega) f _).mono ?_; rintro e w' ⟨rfl, rfl⟩)
    | (go_at_call_of 10 (Value.int IntKind.i64 t); refine (zz_known n o t h0 (by omega) ho (by omega) ht _).mono ?_; rintro e w' ⟨rfl, rfl⟩))
  go_ret
  exact ⟨rfl, rfl⟩
set_option maxHeartbeats 800000 in
theorem k_s1En (n o s t : Int) (h0 : 1 ≤ n) (h1 : n < 256) (ho : 1 ≤ o) (hos : o < s) (hs : s ≤ 4611686018427387904) (ht : t ≤ 4611686018427387904) (q : o / n = 1)
    (me : moreF n o s = 64) (f : (s - o) / 60 < 1) (z : t < s) (w : World) :
    Calls Try.prog 5 #[.int .i64 n, .int .i64 o, .int .i64 s, .int .i64 t] w fun e w' => e = .returned (.bool true) ∧ w' = w := by
  have b1 : decide (4611686018427387904 < s) = false := by simp; omega
  have b2 : decide (4611686018427387904 < t) = false := by simp; omega
  have b3 : (n == 0) = false := beq_eq_false_iff_ne.2 (by omega)
  have b4 : decide (o ≤ 0) = false := by simp; omega
  have b5 : decide (s ≤ o) = false := by simp; omega
  go_enter Try.func5, Try.ntmps5
  go_wp2_with (first
    | (go_at_call_of 10 (Value.int IntKind.i64 s); refine (zz_known n o s h0 (by omega) ho hos hs _).mono ?_; rintro e w' ⟨rfl, rfl⟩)
    | (go_at_call 11; refine (mulG_yes 60 1 (s - o) (by omega) (by omega) (by omega) (by omega) f _).mono ?_; rintro e w' ⟨rfl, rfl⟩))
  go_ret
  exact ⟨rfl, rfl⟩
set_option maxHeartbeats 800000 in
theorem k_s2Gy (n o s t : Int) (h0 : 1 ≤ n) (h1 : n < 256) (ho : 1 ≤ o) (hos : o < s) (hs : s ≤ 4611686018427387904) (ht : t ≤ 4611686018427387904) (q : 1 < o / n)
    (mg : 64 < moreF n o s) (mh : moreF n o s ≤ 9223372036854775807) (r1 : 1 ≤ restF n o s) (r2 : restF n o s ≤ 4611686018427387904) (e1 : moreF n o s - moreF n o s / 11 = restF n o s) (e2 : (restF n o s + restF n o s / 10 == moreF n o s) = true) (f1 : (o / n) ≤ (s - o) / restF n o s) (f2 : (s - o) / (restF n o s + 1) < (o / n)) (z : s ≤ t) (mm : moreF n o s ≤ moreF n o t) (w : World) :
    Calls Try.prog 5 #[.int .i64 n, .int .i64 o, .int .i64 s, .int .i64 t] w fun e w' => e = .returned (.bool true) ∧ w' = w := by
  have b1 : decide (4611686018427387904 < s) = false := by simp; omega
  have b2 : decide (4611686018427387904 < t) = false := by simp; omega
  have b3 : (n == 0) = false := beq_eq_false_iff_ne.2 (by omega)
  have b4 : decide (o ≤ 0) = false := by simp; omega
  have b5 : decide (s ≤ o) = false := by simp; omega
  have b6 : decide (moreF n o t < moreF n o s) = false := by simp; omega
  go_enter Try.func5, Try.ntmps5
  go_wp2_with (first
    | (go_at_call_of 10 (Value.int IntKind.i64 s); refine (zz_known n o s h0 (by omega) ho hos hs _).mono ?_; rintro e w' ⟨rfl, rfl⟩)
    | (go_at_call_of 11 (Value.int IntKind.i64 (restF n o s)); refine (mulG_no (restF n o s) (o / n) (s - o) r1 (by omega) (by omega) (by omega) f1 _).mono ?_; rintro e w' ⟨rfl, rfl⟩)
    | (go_at_call 11; refine (mulG_yes (restF n o s + 1) (o / n) (s - o) (by omega) (by omega) (by omega) (by omega) f2 _).mono ?_; rintro e w' ⟨rfl, rfl⟩)
    | (go_at_call_of 10 (Value.int IntKind.i64 t); refine (zz_known n o t h0 (by omega) ho (by omega) ht _).mono ?_; rintro e w' ⟨rfl, rfl⟩))
  go_ret
  exact ⟨rfl, rfl⟩
set_option maxHeartbeats 800000 in
theorem k_s2Gn (n o s t : Int) (h0 : 1 ≤ n) (h1 : n < 256) (ho : 1 ≤ o) (hos : o < s) (hs : s ≤ 4611686018427387904) (ht : t ≤ 4611686018427387904) (q : 1 < o / n)
    (mg : 64 < moreF n o s) (mh : moreF n o s ≤ 9223372036854775807) (r1 : 1 ≤ restF n o s) (r2 : restF n o s ≤ 4611686018427387904) (e1 : moreF n o s - moreF n o s / 11 = restF n o s) (e2 : (restF n o s + restF n o s / 10 == moreF n o s) = true) (f1 : (o / n) ≤ (s - o) / restF n o s) (f2 : (s - o) / (restF n o s + 1) < (o / n)) (z : t < s) (w : World) :
    Calls Try.prog 5 #[.int .i64 n, .int .i64 o, .int .i64 s, .int .i64 t] w fun e w' => e = .returned (.bool true) ∧ w' = w := by
  have b1 : decide (4611686018427387904 < s) = false := by simp; omega
  have b2 : decide (4611686018427387904 < t) = false := by simp; omega
  have b3 : (n == 0) = false := beq_eq_false_iff_ne.2 (by omega)
  have b4 : decide (o ≤ 0) = false := by simp; omega
  have b5 : decide (s ≤ o) = false := by simp; omega
  go_enter Try.func5, Try.ntmps5
  go_wp2_with (first
    | (go_at_call_of 10 (Value.int IntKind.i64 s); refine (zz_known n o s h0 (by omega) ho hos hs _).mono ?_; rintro e w' ⟨rfl, rfl⟩)
    | (go_at_call_of 11 (Value.int IntKind.i64 (restF n o s)); refine (mulG_no (restF n o s) (o / n) (s - o) r1 (by omega) (by omega) (by omega) f1 _).mono ?_; rintro e w' ⟨rfl, rfl⟩)
    | (go_at_call 11; refine (mulG_yes (restF n o s + 1) (o / n) (s - o) (by omega) (by omega) (by omega) (by omega) f2 _).mono ?_; rintro e w' ⟨rfl, rfl⟩))
  go_ret
  exact ⟨rfl, rfl⟩
set_option maxHeartbeats 800000 in
theorem k_s2Ey (n o s t : Int) (h0 : 1 ≤ n) (h1 : n < 256) (ho : 1 ≤ o) (hos : o < s) (hs : s ≤ 4611686018427387904) (ht : t ≤ 4611686018427387904) (q : 1 < o / n)
    (me : moreF n o s = 64) (f : (s - o) / 60 < (o / n)) (z : s ≤ t) (mm : 64 ≤ moreF n o t) (w : World) :
    Calls Try.prog 5 #[.int .i64 n, .int .i64 o, .int .i64 s, .int .i64 t] w fun e w' => e = .returned (.bool true) ∧ w' = w := by
  have b1 : decide (4611686018427387904 < s) = false := by simp; omega
  have b2 : decide (4611686018427387904 < t) = false := by simp; omega
  have b3 : (n == 0) = false := beq_eq_false_iff_ne.2 (by omega)
  have b4 : decide (o ≤ 0) = false := by simp; omega
  have b5 : decide (s ≤ o) = false := by simp; omega
  have b6 : decide (moreF n o t < 64) = false := by simp; omega
  go_enter Try.func5, Try.ntmps5
  go_wp2_with (first
    | (go_at_call_of 10 (Value.int IntKind.i64 s); refine (zz_known n o s h0 (by omega) ho hos hs _).mono ?_; rintro e w' ⟨rfl, rfl⟩)
    | (go_at_call 11; refine (mulG_yes 60 (o / n) (s - o) (by omega) (by omega) (by omega) (by omega) f _).mono ?_; rintro e w' ⟨rfl, rfl⟩)
    | (go_at_call_of 10 (Value.int IntKind.i64 t); refine (zz_known n o t h0 (by omega) ho (by omega) ht _).mono ?_; rintro e w' ⟨rfl, rfl⟩))
  go_ret
  exact ⟨rfl, rfl⟩
set_option maxHeartbeats 800000 in
theorem k_s2En (n o s t : Int) (h0 : 1 ≤ n) (h1 : n < 256) (ho : 1 ≤ o) (hos : o < s) (hs : s ≤ 4611686018427387904) (ht : t ≤ 4611686018427387904) (q : 1 < o / n)
    (me : moreF n o s = 64) (f : (s - o) / 60 < (o / n)) (z : t < s) (w : World) :
    Calls Try.prog 5 #[.int .i64 n, .int .i64 o, .int .i64 s, .int .i64 t] w fun e w' => e = .returned (.bool true) ∧ w' = w := by
  have b1 : decide (4611686018427387904 < s) = false := by simp; omega
  have b2 : decide (4611686018427387904 < t) = false := by simp; omega
  have b3 : (n == 0) = false := beq_eq_false_iff_ne.2 (by omega)
  have b4 : decide (o ≤ 0) = false := by simp; omega
  have b5 : decide (s ≤ o) = false := by simp; omega
  go_enter Try.func5, Try.ntmps5
  go_wp2_with (first
    | (go_at_call_of 10 (Value.int IntKind.i64 s); refine (zz_known n o s h0 (by omega) ho hos hs _).mono ?_; rintro e w' ⟨rfl, rfl⟩)
    | (go_at_call 11; refine (mulG_yes 60 (o / n) (s - o) (by omega) (by omega) (by omega) (by omega) f _).mono ?_; rintro e w' ⟨rfl, rfl⟩))
  go_ret
  exact ⟨rfl, rfl⟩
set_option maxHeartbeats 800000 in
theorem k_b0Gy (n o s t : Int) (h0 : 1 ≤ n) (h1 : 256 ≤ n) (h1' : n ≤ 9223372036854775807) (ho : 1 ≤ o) (hos : o < s) (hs : s ≤ 4611686018427387904) (ht : t ≤ 4611686018427387904) (q : o / n = 0)
    (mg : (n / 4) < moreF n o s) (mh : moreF n o s ≤ 9223372036854775807) (r1 : 1 ≤ restF n o s) (r2 : restF n o s ≤ 4611686018427387904) (e1 : moreF n o s - moreF n o s / 11 = restF n o s) (e2 : (restF n o s + restF n o s / 10 == moreF n o s) = true) (f1 : 1 ≤ (s - o) / restF n o s) (f2 : (s - o) / (restF n o s + 1) < 1) (z : s ≤ t) (mm : moreF n o s ≤ moreF n o t) (w : World) :
    Calls Try.prog 5 #[.int .i64 n, .int .i64 o, .int .i64 s, .int .i64 t] w fun e w' => e = .returned (.bool true) ∧ w' = w := by
  have b1 : decide (4611686018427387904 < s) = false := by simp; omega
  have b2 : decide (4611686018427387904 < t) = false := by simp; omega
  have b3 : (n == 0) = false := beq_eq_false_iff_ne.2 (by omega)
  have b4 : decide (o ≤ 0) = false := by simp; omega
  have b5 : decide (s ≤ o) = false := by simp; omega
  have b6 : decide (moreF n o t < moreF n o s) = false := by simp; omega
  go_enter Try.func5, Try.ntmps5
  go_wp2_with (first
    | (go_at_call_of 10 (Value.int IntKind.i64 s); refine (zz_known n o s h0 (by omega) ho hos hs _).mono ?_; rintro e w' ⟨rfl, rfl⟩)
    | (go_at_call_of 11 (Value.int IntKind.i64 (restF n o s)); refine (mulG_no (restF n o s) 1 (s - o) r1 (by omega) (by omega) (by omega) f1 _).mono ?_; rintro e w' ⟨rfl, rfl⟩)
    | (go_at_call 11; refine (mulG_yes (restF n o s + 1) 1 (s - o) (by omega) (by omega) (by omega) (by omega) f2 _).mono ?_; rintro e w' ⟨rfl, rfl⟩)
    | (go_at_call_of 10 (Value.int IntKind.i64 t); refine (zz_known n o t h0 (by omega) ho (by omega) ht _).mono ?_; rintro e w' ⟨rfl, rfl⟩))
  go_ret
  exact ⟨rfl, rfl⟩
set_option maxHeartbeats 800000 in
theorem k_b0Gn (n o s t : Int) (h0 : 1 ≤ n) (h1 : 256 ≤ n) (h1' : n ≤ 9223372036854775807) (ho : 1 ≤ o) (hos : o < s) (hs : s ≤ 4611686018427387904) (ht : t ≤ 4611686018427387904) (q : o / n = 0)
    (mg : (n / 4) < moreF n o s) (mh : moreF n o s ≤ 9223372036854775807) (r1 : 1 ≤ restF n o s) (r2 : restF n o s ≤ 4611686018427387904) (e1 : moreF n o s - moreF n o s / 11 = restF n o s) (e2 : (restF n o s + restF n o s / 10 == moreF n o s) = true) (f1 : 1 ≤ (s - o) / restF n o s) (f2 : (s - o) / (restF n o s + 1) < 1) (z : t < s) (w : World) :
    Calls Try.prog 5 #[.int .i64 n, .int .i64 o, .int .i64 s, .int .i64 t] w fun e w' => e = .returned (.bool true) ∧ w' = w := by
  have b1 : decide (4611686018427387904 < s) = false := by simp; omega
  have b2 : decide (4611686018427387904 < t) = false := by simp; omega
  have b3 : (n == 0) = false := beq_eq_false_iff_ne.2 (by omega)
  have b4 : decide (o ≤ 0) = false := by simp; omega
  have b5 : decide (s ≤ o) = false := by simp; omega
  go_enter Try.func5, Try.ntmps5
  go_wp2_with (first
    | (go_at_call_of 10 (Value.int IntKind.i64 s); refine (zz_known n o s h0 (by omega) ho hos hs _).mono ?_; rintro e w' ⟨rfl, rfl⟩)
    | (go_at_call_of 11 (Value.int IntKind.i64 (restF n o s)); refine (mulG_no (restF n o s) 1 (s - o) r1 (by omega) (by omega) (by omega) f1 _).mono ?_; rintro e w' ⟨rfl, rfl⟩)
    | (go_at_call 11; refine (mulG_yes (restF n o s + 1) 1 (s - o) (by omega) (by omega) (by omega) (by omega) f2 _).mono ?_; rintro e w' ⟨rfl, rfl⟩))
  go_ret
  exact ⟨rfl, rfl⟩
set_option maxHeartbeats 800000 in
theorem k_b0Ey (n o s t : Int) (h0 : 1 ≤ n) (h1 : 256 ≤ n) (h1' : n ≤ 9223372036854775807) (ho : 1 ≤ o) (hos : o < s) (hs : s ≤ 4611686018427387904) (ht : t ≤ 4611686018427387904) (q : o / n = 0)
    (me : moreF n o s = (n / 4)) (f : (s - o) / (n / 4 + 1 - (n / 4 + 1) / 11) < 1) (z : s ≤ t) (mm : (n / 4) ≤ moreF n o t) (w : World) :
    Calls Try.prog 5 #[.int .i64 n, .int .i64 o, .int .i64 s, .int .i64 t] w fun e w' => e = .returned (.bool true) ∧ w' = w := by
  have b1 : decide (4611686018427387904 < s) = false := by simp; omega
  have b2 : decide (4611686018427387904 < t) = false := by simp; omega
  have b3 : (n == 0) = false := beq_eq_false_iff_ne.2 (by omega)
  have b4 : decide (o ≤ 0) = false := by simp; omega
  have b5 : decide (s ≤ o) = false := by simp; omega
  have b6 : decide (moreF n o t < (n / 4)) = false := by simp; omega
  go_enter Try.func5, Try.ntmps5
  go_wp2_with (first
    | (go_at_call_of 10 (Value.int IntKind.i64 s); refine (zz_known n o s h0 (by omega) ho hos hs _).mono ?_; rintro e w' ⟨rfl, rfl⟩)
    | (go_at_call 11; refine (mulG_yes (n / 4 + 1 - (n / 4 + 1) / 11) 1 (s - o) (by omega) (by omega) (by omega) (by omega) f _).mono ?_; rintro e w' ⟨rfl, rfl⟩)
    | (go_at_call_of 10 (Value.int IntKind.i64 t); refine (zz_known n o t h0 (by omega) ho (by omega) ht _).mono ?_; rintro e w' ⟨rfl, rfl⟩))
  go_ret
  exact ⟨rfl, rfl⟩
set_option maxHeartbeats 800000 in
theorem k_b0En (n o s t : Int) (h0 : 1 ≤ n) (h1 : 256 ≤ n) (h1' : n ≤ 9223372036854775807) (ho : 1 ≤ o) (hos : o < s) (hs : s ≤ 4611686018427387904) (ht : t ≤ 4611686018427387904) (q : o / n = 0)
    (me : moreF n o s = (n / 4)) (f : (s - o) / (n / 4 + 1 - (n / 4 + 1) / 11) < 1) (z : t < s) (w : World) :
    Calls Try.prog 5 #[.int .i64 n, .int .i64 o, .int .i64 s, .int .i64 t] w fun e w' => e = .returned (.bool true) ∧ w' = w := by
  have b1 : decide (4611686018427387904 < s) = false := by simp; omega
  have b2 : decide (4611686018427387904 < t) = false := by simp; omega
  have b3 : (n == 0) = false := beq_eq_false_iff_ne.2 (by omega)
  have b4 : decide (o ≤ 0) = false := by simp; omega
  have b5 : decide (s ≤ o) = false := by simp; omega
  go_enter Try.func5, Try.ntmps5
  go_wp2_with (first
    | (go_at_call_of 10 (Value.int IntKind.i64 s); refine (zz_known n o s h0 (by omega) ho hos hs _).mono ?_; rintro e w' ⟨rfl, rfl⟩)
    | (go_at_call 11; refine (mulG_yes (n / 4 + 1 - (n / 4 + 1) / 11) 1 (s - o) (by omega) (by omega) (by omega) (by omega) f _).mono ?_; rintro e w' ⟨rfl, rfl⟩))
  go_ret
  exact ⟨rfl, rfl⟩
set_option maxHeartbeats 800000 in
theorem k_b1Gy (n o s t : Int) (h0 : 1 ≤ n) (h1 : 256 ≤ n) (h1' : n ≤ 9223372036854775807) (ho : 1 ≤ o) (hos : o < s) (hs : s ≤ 4611686018427387904) (ht : t ≤ 4611686018427387904) (q : o / n = 1)
    (mg : (n / 4) < moreF n o s) (mh : moreF n o s ≤ 9223372036854775807) (r1 : 1 ≤ restF n o s) (r2 : restF n o s ≤ 4611686018427387904) (e1 : moreF n o s - moreF n o s / 11 = restF n o s) (e2 : (restF n o s + restF n o s / 10 == moreF n o s) = true) (f1 : 1 ≤ (s - o) / restF n o s) (f2 : (s - o) / (restF n o s + 1) < 1) (z : s ≤ t) (mm : moreF n o s ≤ moreF n o t) (w : World) :
    Calls Try.prog 5 #[.int .i64 n, .int .i64 o, .int .i64 s, .int .i64 t] w fun e w' => e = .returned (.bool true) ∧ w' = w := by
  have b1 : decide (4611686018427387904 < s) = false := by simp; omega
  have b2 : decide (4611686018427387904 < t) = false := by simp; omega
  have b3 : (n == 0) = false := beq_eq_false_iff_ne.2 (by omega)
  have b4 : decide (o ≤ 0) = false := by simp; omega
  have b5 : decide (s ≤ o) = false := by simp; omega
  have b6 : decide (moreF n o t < moreF n o s) = false := by simp; omega
  go_enter Try.func5, Try.ntmps5
  go_wp2_with (first
    | (go_at_call_of 10 (Value.int IntKind.i64 s); refine (zz_known n o s h0 (by omega) ho hos hs _).mono ?_; rintro e w' ⟨rfl, rfl⟩)
    | (go_at_call_of 11 (Value.int IntKind.i64 (restF n o s)); refine (mulG_no (restF n o s) 1 (s - o) r1 (by omega) (by omega) (by omega) f1 _).mono ?_; rintro e w' ⟨rfl, rfl⟩)
    | (go_at_call 11; refine (mulG_yes (restF n o s + 1) 1 (s - o) (by omega) (by omega) (by omega) (by omega) f2 _).mono ?_; rintro e w' ⟨rfl, rfl⟩)
    | (go_at_call_of 10 (Value.int IntKind.i64 t); refine (zz_known n o t h0 (by omega) ho (by omega) ht _).mono ?_; rintro e w' ⟨rfl, rfl⟩))
  go_ret
  exact ⟨rfl, rfl⟩
set_option maxHeartbeats 800000 in
theorem k_b1Gn (n o s t : Int) (h0 : 1 ≤ n) (h1 : 256 ≤ n) (h1' : n ≤ 9223372036854775807) (ho : 1 ≤ o) (hos : o < s) (hs : s ≤ 4611686018427387904) (ht : t ≤ 4611686018427387904) (q : o / n = 1)
    (mg : (n / 4) < moreF n o s) (mh : moreF n o s ≤ 9223372036854775807) (r1 : 1 ≤ restF n o s) (r2 : restF n o s ≤ 4611686018427387904) (e1 : moreF n o s - moreF n o s / 11 = restF n o s) (e2 : (restF n o s + restF n o s / 10 == moreF n o s) = true) (f1 : 1 ≤ (s - o) / restF n o s) (f2 : (s - o) / (restF n o s + 1) < 1) (z : t < s) (w : World) :
    Calls Try.prog 5 #[.int .i64 n, .int .i64 o, .int .i64 s, .int .i64 t] w fun e w' => e = .returned (.bool true) ∧ w' = w := by
  have b1 : decide (4611686018427387904 < s) = false := by simp; omega
  have b2 : decide (4611686018427387904 < t) = false := by simp; omega
  have b3 : (n == 0) = false := beq_eq_false_iff_ne.2 (by omega)
  have b4 : decide (o ≤ 0) = false := by simp; omega
  have b5 : decide (s ≤ o) = false := by simp; omega
  go_enter Try.func5, Try.ntmps5
  go_wp2_with (first
    | (go_at_call_of 10 (Value.int IntKind.i64 s); refine (zz_known n o s h0 (by omega) ho hos hs _).mono ?_; rintro e w' ⟨rfl, rfl⟩)
    | (go_at_call_of 11 (Value.int IntKind.i64 (restF n o s)); refine (mulG_no (restF n o s) 1 (s - o) r1 (by omega) (by omega) (by omega) f1 _).mono ?_; rintro e w' ⟨rfl, rfl⟩)
    | (go_at_call 11; refine (mulG_yes (restF n o s + 1) 1 (s - o) (by omega) (by omega) (by omega) (by omega) f2 _).mono ?_; rintro e w' ⟨rfl, rfl⟩))
  go_ret
  exact ⟨rfl, rfl⟩
set_option maxHeartbeats 800000 in
theorem k_b1Ey (n o s t : Int) (h0 : 1 ≤ n) (h1 : 256 ≤ n) (h1' : n ≤ 9223372036854775807) (ho : 1 ≤ o) (hos : o < s) (hs : s ≤ 4611686018427387904) (ht : t ≤ 4611686018427387904) (q : o / n = 1)
    (me : moreF n o s = (n / 4)) (f : (s - o) / (n / 4 + 1 - (n / 4 + 1) / 11) < 1) (z : s ≤ t) (mm : (n / 4) ≤ moreF n o t) (w : World) :
    Calls Try.prog 5 #[.int .i64 n, .int .i64 o, .int .i64 s, .int .i64 t] w fun e w' => e = .returned (.bool true) ∧ w' = w := by
  have b1 : decide (4611686018427387904 < s) = false := by simp; omega
  have b2 : decide (4611686018427387904 < t) = false := by simp; omega
  have b3 : (n == 0) = false := beq_eq_false_iff_ne.2 (by omega)
  have b4 : decide (o ≤ 0) = false := by simp; omega
  have b5 : decide (s ≤ o) = false := by simp; omega
  have b6 : decide (moreF n o t < (n / 4)) = false := by simp; omega
  go_enter Try.func5, Try.ntmps5
  go_wp2_with (first
    | (go_at_call_of 10 (Value.int IntKind.i64 s); refine (zz_known n o s h0 (by omega) ho hos hs _).mono ?_; rintro e w' ⟨rfl, rfl⟩)
    | (go_at_call 11; refine (mulG_yes (n / 4 + 1 - (n / 4 + 1) / 11) 1 (s - o) (by omega) (by omega) (by omega) (by omega) f _).mono ?_; rintro e w' ⟨rfl, rfl⟩)
    | (go_at_call_of 10 (Value.int IntKind.i64 t); refine (zz_known n o t h0 (by omega) ho (by omega) ht _).mono ?_; rintro e w' ⟨rfl, rfl⟩))
  go_ret
  exact ⟨rfl, rfl⟩
set_option maxHeartbeats 800000 in
theorem k_b1En (n o s t : Int) (h0 : 1 ≤ n) (h1 : 256 ≤ n) (h1' : n ≤ 9223372036854775807) (ho : 1 ≤ o) (hos : o < s) (hs : s ≤ 4611686018427387904) (ht : t ≤ 4611686018427387904) (q : o / n = 1)
    (me : moreF n o s = (n / 4)) (f : (s - o) / (n / 4 + 1 - (n / 4 + 1) / 11) < 1) (z : t < s) (w : World) :
    Calls Try.prog 5 #[.int .i64 n, .int .i64 o, .int .i64 s, .int .i64 t] w fun e w' => e = .returned (.bool true) ∧ w' = w := by
  have b1 : decide (4611686018427387904 < s) = false := by simp; omega
  have b2 : decide (4611686018427387904 < t) = false := by simp; omega
  have b3 : (n == 0) = false := beq_eq_false_iff_ne.2 (by omega)
  have b4 : decide (o ≤ 0) = false := by simp; omega
  have b5 : decide (s ≤ o) = false := by simp; omega
  go_enter Try.func5, Try.ntmps5
  go_wp2_with (first
    | (go_at_call_of 10 (Value.int IntKind.i64 s); refine (zz_known n o s h0 (by omega) ho hos hs _).mono ?_; rintro e w' ⟨rfl, rfl⟩)
    | (go_at_call 11; refine (mulG_yes (n / 4 + 1 - (n / 4 + 1) / 11) 1 (s - o) (by omega) (by omega) (by omega) (by omega) f _).mono ?_; rintro e w' ⟨rfl, rfl⟩))
  go_ret
  exact ⟨rfl, rfl⟩
set_option maxHeartbeats 800000 in
theorem k_b2Gy (n o s t : Int) (h0 : 1 ≤ n) (h1 : 256 ≤ n) (h1' : n ≤ 9223372036854775807) (ho : 1 ≤ o) (hos : o < s) (hs : s ≤ 4611686018427387904) (ht : t ≤ 4611686018427387904) (q : 1 < o / n)
    (mg : (n / 4) < moreF n o s) (mh : moreF n o s ≤ 9223372036854775807) (r1 : 1 ≤ restF n o s) (r2 : restF n o s ≤ 4611686018427387904) (e1 : moreF n o s - moreF n o s / 11 = restF n o s) (e2 : (restF n o s + restF n o s / 10 == moreF n o s) = true) (f1 : (o / n) ≤ (s - o) / restF n o s) (f2 : (s - o) / (restF n o s + 1) < (o / n)) (z : s ≤ t) (mm : moreF n o s ≤ moreF n o t) (w : World) :
    Calls Try.prog 5 #[.int .i64 n, .int .i64 o, .int .i64 s, .int .i64 t] w fun e w' => e = .returned (.bool true) ∧ w' = w := by
  have b1 : decide (4611686018427387904 < s) = false := by simp; omega
  have b2 : decide (4611686018427387904 < t) = false := by simp; omega
  have b3 : (n == 0) = false := beq_eq_false_iff_ne.2 (by omega)
  have b4 : decide (o ≤ 0) = false := by simp; omega
  have b5 : decide (s ≤ o) = false := by simp; omega
  have b6 : decide (moreF n o t < moreF n o s) = false := by simp; omega
  go_enter Try.func5, Try.ntmps5
  go_wp2_with (first
    | (go_at_call_of 10 (Value.int IntKind.i64 s); refine (zz_known n o s h0 (by omega) ho hos hs _).mono ?_; rintro e w' ⟨rfl, rfl⟩)
    | (go_at_call_of 11 (Value.int IntKind.i64 (restF n o s)); refine (mulG_no (restF n o s) (o / n) (s - o) r1 (by omega) (by omega) (by omega) f1 _).mono ?_; rintro e w' ⟨rfl, rfl⟩)
    | (go_at_call 11; refine (mulG_yes (restF n o s + 1) (o / n) (s - o) (by omega) (by omega) (by omega) (by omega) f2 _).mono ?_; rintro e w' ⟨rfl, rfl⟩)
    | (go_at_call_of 10 (Value.int IntKind.i64 t); refine (zz_known n o t h0 (by omega) ho (by omega) ht _).mono ?_; rintro e w' ⟨rfl, rfl⟩))
  go_ret
  exact ⟨rfl, rfl⟩
set_option maxHeartbeats 800000 in
theorem k_b2Gn (n o s t : Int) (h0 : 1 ≤ n) (h1 : 256 ≤ n) (h1' : n ≤ 9223372036854775807) (ho : 1 ≤ o) (hos : o < s) (hs : s ≤ 4611686018427387904) (ht : t ≤ 4611686018427387904) (q : 1 < o / n)
    (mg : (n / 4) < moreF n o s) (mh : moreF n o s ≤ 9223372036854775807) (r1 : 1 ≤ restF n o s) (r2 : restF n o s ≤ 4611686018427387904) (e1 : moreF n o s - moreF n o s / 11 = restF n o s) (e2 : (restF n o s + restF n o s / 10 == moreF n o s) = true) (f1 : (o / n) ≤ (s - o) / restF n o s) (f2 : (s - o) / (restF n o s + 1) < (o / n)) (z : t < s) (w : World) :
    Calls Try.prog 5 #[.int .i64 n, .int .i64 o, .int .i64 s, .int .i64 t] w fun e w' => e = .returned (.bool true) ∧ w' = w := by
  have b1 : decide (4611686018427387904 < s) = false := by simp; omega
  have b2 : decide (4611686018427387904 < t) = false := by simp; omega
  have b3 : (n == 0) = false := beq_eq_false_iff_ne.2 (by omega)
  have b4 : decide (o ≤ 0) = false := by simp; omega
  have b5 : decide (s ≤ o) = false := by simp; omega
  go_enter Try.func5, Try.ntmps5
  go_wp2_with (first
    | (go_at_call_of 10 (Value.int IntKind.i64 s); refine (zz_known n o s h0 (by omega) ho hos hs _).mono ?_; rintro e w' ⟨rfl, rfl⟩)
    | (go_at_call_of 11 (Value.int IntKind.i64 (restF n o s)); refine (mulG_no (restF n o s) (o / n) (s - o) r1 (by omega) (by omega) (by omega) f1 _).mono ?_; rintro e w' ⟨rfl, rfl⟩)
    | (go_at_call 11; refine (mulG_yes (restF n o s + 1) (o / n) (s - o) (by omega) (by omega) (by omega) (by omega) f2 _).mono ?_; rintro e w' ⟨rfl, rfl⟩))
  go_ret
  exact ⟨rfl, rfl⟩
set_option maxHeartbeats 800000 in
theorem k_b2Ey (n o s t : Int) (h0 : 1 ≤ n) (h1 : 256 ≤ n) (h1' : n ≤ 9223372036854775807) (ho : 1 ≤ o) (hos : o < s) (hs : s ≤ 4611686018427387904) (ht : t ≤ 4611686018427387904) (q : 1 < o / n)
    (me : moreF n o s = (n / 4)) (f : (s - o) / (n / 4 + 1 - (n / 4 + 1) / 11) < (o / n)) (z : s ≤ t) (mm : (n / 4) ≤ moreF n o t) (w : World) :
    Calls Try.prog 5 #[.int .i64 n, .int .i64 o, .int .i64 s, .int .i64 t] w fun e w' => e = .returned (.bool true) ∧ w' = w := by
  have b1 : decide (4611686018427387904 < s) = false := by simp; omega
  have b2 : decide (4611686018427387904 < t) = false := by simp; omega
  have b3 : (n == 0) = false := beq_eq_false_iff_ne.2 (by omega)
  have b4 : decide (o ≤ 0) = false := by simp; omega
  have b5 : decide (s ≤ o) = false := by simp; omega
  have b6 : decide (moreF n o t < (n / 4)) = false := by simp; omega
  go_enter Try.func5, Try.ntmps5
  go_wp2_with (first
    | (go_at_call_of 10 (Value.int IntKind.i64 s); refine (zz_known n o s h0 (by omega) ho hos hs _).mono ?_; rintro e w' ⟨rfl, rfl⟩)
    | (go_at_call 11; refine (mulG_yes (n / 4 + 1 - (n / 4 + 1) / 11) (o / n) (s - o) (by omega) (by omega) (by omega) (by omega) f _).mono ?_; rintro e w' ⟨rfl, rfl⟩)
    | (go_at_call_of 10 (Value.int IntKind.i64 t); refine (zz_known n o t h0 (by omega) ho (by omega) ht _).mono ?_; rintro e w' ⟨rfl, rfl⟩))
  go_ret
  exact ⟨rfl, rfl⟩
set_option maxHeartbeats 800000 in
theorem k_b2En (n o s t : Int) (h0 : 1 ≤ n) (h1 : 256 ≤ n) (h1' : n ≤ 9223372036854775807) (ho : 1 ≤ o) (hos : o < s) (hs : s ≤ 4611686018427387904) (ht : t ≤ 4611686018427387904) (q : 1 < o / n)
    (me : moreF n o s = (n / 4)) (f : (s - o) / (n / 4 + 1 - (n / 4 + 1) / 11) < (o / n)) (z : t < s) (w : World) :
    Calls Try.prog 5 #[.int .i64 n, .int .i64 o, .int .i64 s, .int .i64 t] w fun e w' => e = .returned (.bool true) ∧ w' = w := by
  have b1 : decide (4611686018427387904 < s) = false := by simp; omega
  have b2 : decide (4611686018427387904 < t) = false := by simp; omega
  have b3 : (n == 0) = false := beq_eq_false_iff_ne.2 (by omega)
  have b4 : decide (o ≤ 0) = false := by simp; omega
  have b5 : decide (s ≤ o) = false := by simp; omega
  go_enter Try.func5, Try.ntmps5
  go_wp2_with (first
    | (go_at_call_of 10 (Value.int IntKind.i64 s); refine (zz_known n o s h0 (by omega) ho hos hs _).mono ?_; rintro e w' ⟨rfl, rfl⟩)
    | (go_at_call 11; refine (mulG_yes (n / 4 + 1 - (n / 4 + 1) / 11) (o / n) (s - o) (by omega) (by omega) (by omega) (by omega) f _).mono ?_; rintro e w' ⟨rfl, rfl⟩))
  go_ret
  exact ⟨rfl, rfl⟩

end Go.Proofs.Qxb6618019a.MoreLaw
