/-
  THE LAW FnPaddingAtAnyCut (function 3), way by way.
-/
import Derived.Test.Qxb6618019aPad
namespace Go.Proofs.Qxb6618019a.Cut
open Go.ChangeShapes Go.WideShapes Go.ChangeAt Go.RowKit Pad
set_option linter.unusedVariables false

theorem long (a b : ByteArray) (h : 1048576 < a.size + b.size) (w : World) :
    Calls Try.prog 3 #[.string a, .string b] w fun e w' => e = .returned (.bool true) ∧ w' = w := by
  go_enter Try.func3, Try.ntmps3
  go_wp2_with (go_at_call 6; refine (bytes6_no a b h _).mono ?_; rintro e w' ⟨rfl, rfl⟩)
  go_ret
  exact ⟨rfl, rfl⟩
theorem long_a (a b : ByteArray) (h : a.size + b.size ≤ 1048576) (g : 524288 < a.size) (w : World) :
    Calls Try.prog 3 #[.string a, .string b] w fun e w' => e = .returned (.bool true) ∧ w' = w := by
  go_enter Try.func3, Try.ntmps3
  go_wp2_with (go_at_call 6; refine (bytes6_yes a b h _).mono ?_; rintro e w' ⟨rfl, rfl⟩)
  go_ret
  exact ⟨rfl, rfl⟩
theorem long_b (a b : ByteArray) (h : a.size + b.size ≤ 1048576) (g : a.size ≤ 524288) (g' : 524288 < b.size) (w : World) :
    Calls Try.prog 3 #[.string a, .string b] w fun e w' => e = .returned (.bool true) ∧ w' = w := by
  go_enter Try.func3, Try.ntmps3
  go_wp2_with (go_at_call 6; refine (bytes6_yes a b h _).mono ?_; rintro e w' ⟨rfl, rfl⟩)
  go_ret
  exact ⟨rfl, rfl⟩
set_option maxHeartbeats 400000 in
theorem empty (a b s : ByteArray) (ha : a.size ≤ 524288) (hb : b.size ≤ 524288) (E0 : Hid (a ++ b = s)) (hs : s.size ≤ maxLen) (ae : a.toList.isEmpty = true) (z0 : ((s.size : Int) == 0) = true) (pe : padF s = padF b) (pz : (padF b).toList.isEmpty = true) (w : World) :
    Calls Try.prog 3 #[.string a, .string b] w fun e w' => e = .returned (.bool true) ∧ w' = w := by
  unfold maxLen at hs
  go_enter Try.func3, Try.ntmps3
  go_wp2_with fail
  refine (bytes6_yes a b (by omega) _).mono ?_
  rintro e w' ⟨rfl, rfl⟩
  go_wp2_with fail
  rw [E0.out]
  refine (zzpad_any s hs _).mono ?_
  rintro e w' ⟨rfl, rfl⟩
  go_wp2_with fail
  refine (zzpad_any b (by unfold maxLen; omega) _).mono ?_
  rintro e w' ⟨rfl, rfl⟩
  go_wp2_with (go_at_call 8; refine (isPad_any _ _).mono ?_; rintro e w' ⟨rfl, rfl⟩)
  go_ret
  exact ⟨rfl, rfl⟩
set_option maxHeartbeats 800000 in
theorem cut_aF (a b s : ByteArray) (ha : a.size ≤ 524288) (hb : b.size ≤ 524288) (E0 : Hid (a ++ b = s)) (hs : s.size ≤ maxLen) (p0 : 0 < s.size) (ae : a.toList.isEmpty = true) (z0 : ((s.size : Int) == 0) = false) (pe : padF s = padF b) (i0 : isPad (s[0].toNat : Int) = true) (pz : (padF b).toList.isEmpty = false) (w : World) :
    Calls Try.prog 3 #[.string a, .string b] w fun e w' => e = .returned (.bool true) ∧ w' = w := by
  unfold maxLen at hs
  go_enter Try.func3, Try.ntmps3
  go_wp2_with fail
  refine (bytes6_yes a b (by omega) _).mono ?_
  rintro e w' ⟨rfl, rfl⟩
  go_wp2_with fail
  rw [E0.out]
  refine (zzpad_any s hs _).mono ?_
  rintro e w' ⟨rfl, rfl⟩
  go_wp2_with fail
  refine (zzpad_any b (by unfold maxLen; omega) _).mono ?_
  rintro e w' ⟨rfl, rfl⟩
  go_wp2_with (go_at_call 8; refine (isPad_any _ _).mono ?_; rintro e w' ⟨rfl, rfl⟩)
  go_ret
  exact ⟨rfl, rfl⟩
set_option maxHeartbeats 800000 in
theorem cut_aL (a b s : ByteArray) (ha : a.size ≤ 524288) (hb : b.size ≤ 524288) (E0 : Hid (a ++ b = s)) (hs : s.size ≤ maxLen) (p0 : 0 < s.size) (ae : a.toList.isEmpty = true) (z0 : ((s.size : Int) == 0) = false) (pe : padF s = padF b) (i0 : isPad (s[0].toNat : Int) = false) (i1 : isPad (s[s.size - 1].toNat : Int) = true) (pz : (padF b).toList.isEmpty = false) (w : World) :
    Calls Try.prog 3 #[.string a, .string b] w fun e w' => e = .returned (.bool true) ∧ w' = w := by
  unfold maxLen at hs
  go_enter Try.func3, Try.ntmps3
  go_wp2_with fail
  refine (bytes6_yes a b (by omega) _).mono ?_
  rintro e w' ⟨rfl, rfl⟩
  go_wp2_with fail
  rw [E0.out]
  refine (zzpad_any s hs _).mono ?_
  rintro e w' ⟨rfl, rfl⟩
  go_wp2_with fail
  refine (zzpad_any b (by unfold maxLen; omega) _).mono ?_
  rintro e w' ⟨rfl, rfl⟩
  go_wp2_with (go_at_call 8; refine (isPad_any _ _).mono ?_; rintro e w' ⟨rfl, rfl⟩)
  go_ret
  exact ⟨rfl, rfl⟩
set_option maxHeartbeats 800000 in
theorem cut_aN (a b s : ByteArray) (ha : a.size ≤ 524288) (hb : b.size ≤ 524288) (E0 : Hid (a ++ b = s)) (hs : s.size ≤ maxLen) (p0 : 0 < s.size) (ae : a.toList.isEmpty = true) (z0 : ((s.size : Int) == 0) = false) (pe : padF s = padF b) (i0 : isPad (s[0].toNat : Int) = false) (i1 : isPad (s[s.size - 1].toNat : Int) = false) (pz : (padF b).toList.isEmpty = true) (w : World) :
    Calls Try.prog 3 #[.string a, .string b] w fun e w' => e = .returned (.bool true) ∧ w' = w := by
  unfold maxLen at hs
  go_enter Try.func3, Try.ntmps3
  go_wp2_with fail
  refine (bytes6_yes a b (by omega) _).mono ?_
  rintro e w' ⟨rfl, rfl⟩
  go_wp2_with fail
  rw [E0.out]
  refine (zzpad_any s hs _).mono ?_
  rintro e w' ⟨rfl, rfl⟩
  go_wp2_with fail
  refine (zzpad_any b (by unfold maxLen; omega) _).mono ?_
  rintro e w' ⟨rfl, rfl⟩
  go_wp2_with (go_at_call 8; refine (isPad_any _ _).mono ?_; rintro e w' ⟨rfl, rfl⟩)
  go_ret
  exact ⟨rfl, rfl⟩
set_option maxHeartbeats 800000 in
theorem cut_bF (a b s : ByteArray) (ha : a.size ≤ 524288) (hb : b.size ≤ 524288) (E0 : Hid (a ++ b = s)) (hs : s.size ≤ maxLen) (p0 : 0 < s.size) (ae : a.toList.isEmpty = false) (be : b.toList.isEmpty = true) (z0 : ((s.size : Int) == 0) = false) (pe : padF s = padF a) (i0 : isPad (s[0].toNat : Int) = true) (pz : (padF a).toList.isEmpty = false) (w : World) :
    Calls Try.prog 3 #[.string a, .string b] w fun e w' => e = .returned (.bool true) ∧ w' = w := by
  unfold maxLen at hs
  go_enter Try.func3, Try.ntmps3
  go_wp2_with fail
  refine (bytes6_yes a b (by omega) _).mono ?_
  rintro e w' ⟨rfl, rfl⟩
  go_wp2_with fail
  rw [E0.out]
  refine (zzpad_any s hs _).mono ?_
  rintro e w' ⟨rfl, rfl⟩
  go_wp2_with fail
  refine (zzpad_any a (by unfold maxLen; omega) _).mono ?_
  rintro e w' ⟨rfl, rfl⟩
  go_wp2_with (go_at_call 8; refine (isPad_any _ _).mono ?_; rintro e w' ⟨rfl, rfl⟩)
  go_ret
  exact ⟨rfl, rfl⟩
set_option maxHeartbeats 800000 in
theorem cut_bL (a b s : ByteArray) (ha : a.size ≤ 524288) (hb : b.size ≤ 524288) (E0 : Hid (a ++ b = s)) (hs : s.size ≤ maxLen) (p0 : 0 < s.size) (ae : a.toList.isEmpty = false) (be : b.toList.isEmpty = true) (z0 : ((s.size : Int) == 0) = false) (pe : padF s = padF a) (i0 : isPad (s[0].toNat : Int) = false) (i1 : isPad (s[s.size - 1].toNat : Int) = true) (pz : (padF a).toList.isEmpty = false) (w : World) :
    Calls Try.prog 3 #[.string a, .string b] w fun e w' => e = .returned (.bool true) ∧ w' = w := by
  unfold maxLen at hs
  go_enter Try.func3, Try.ntmps3
  go_wp2_with fail
  refine (bytes6_yes a b (by omega) _).mono ?_
  rintro e w' ⟨rfl, rfl⟩
  go_wp2_with fail
  rw [E0.out]
  refine (zzpad_any s hs _).mono ?_
  rintro e w' ⟨rfl, rfl⟩
  go_wp2_with fail
  refine (zzpad_any a (by unfold maxLen; omega) _).mono ?_
  rintro e w' ⟨rfl, rfl⟩
  go_wp2_with (go_at_call 8; refine (isPad_any _ _).mono ?_; rintro e w' ⟨rfl, rfl⟩)
  go_ret
  exact ⟨rfl, rfl⟩
set_option maxHeartbeats 800000 in
theorem cut_bN (a b s : ByteArray) (ha : a.size ≤ 524288) (hb : b.size ≤ 524288) (E0 : Hid (a ++ b = s)) (hs : s.size ≤ maxLen) (p0 : 0 < s.size) (ae : a.toList.isEmpty = false) (be : b.toList.isEmpty = true) (z0 : ((s.size : Int) == 0) = false) (pe : padF s = padF a) (i0 : isPad (s[0].toNat : Int) = false) (i1 : isPad (s[s.size - 1].toNat : Int) = false) (pz : (padF a).toList.isEmpty = true) (w : World) :
    Calls Try.prog 3 #[.string a, .string b] w fun e w' => e = .returned (.bool true) ∧ w' = w := by
  unfold maxLen at hs
  go_enter Try.func3, Try.ntmps3
  go_wp2_with fail
  refine (bytes6_yes a b (by omega) _).mono ?_
  rintro e w' ⟨rfl, rfl⟩
  go_wp2_with fail
  rw [E0.out]
  refine (zzpad_any s hs _).mono ?_
  rintro e w' ⟨rfl, rfl⟩
  go_wp2_with fail
  refine (zzpad_any a (by unfold maxLen; omega) _).mono ?_
  rintro e w' ⟨rfl, rfl⟩
  go_wp2_with (go_at_call 8; refine (isPad_any _ _).mono ?_; rintro e w' ⟨rfl, rfl⟩)
  go_ret
  exact ⟨rfl, rfl⟩
set_option maxHeartbeats 800000 in
theorem cut_xF (a b s ax xb : ByteArray) (ha : a.size ≤ 524288) (hb : b.size ≤ 524288) (E0 : Hid (a ++ b = s)) (hs : s.size ≤ maxLen) (p0 : 0 < s.size) (ae : a.toList.isEmpty = false) (be : b.toList.isEmpty = false) (E1 : Hid (a ++ ⟨#[120]⟩ = ax)) (E2 : Hid (⟨#[120]⟩ ++ b = xb)) (h1 : ax.size ≤ maxLen) (h2 : xb.size ≤ maxLen) (z0 : ((s.size : Int) == 0) = false) (pe : padF s = padF ax) (i0 : isPad (s[0].toNat : Int) = true) (pz : (padF ax).toList.isEmpty = false) (w : World) :
    Calls Try.prog 3 #[.string a, .string b] w fun e w' => e = .returned (.bool true) ∧ w' = w := by
  unfold maxLen at hs
  go_enter Try.func3, Try.ntmps3
  go_wp2_with fail
  refine (bytes6_yes a b (by omega) _).mono ?_
  rintro e w' ⟨rfl, rfl⟩
  go_wp2_with fail
  rw [E0.out]
  refine (zzpad_any s hs _).mono ?_
  rintro e w' ⟨rfl, rfl⟩
  go_wp2_with fail
  rw [E1.out]
  refine (zzpad_any ax (h1) _).mono ?_
  rintro e w' ⟨rfl, rfl⟩
  go_wp2_with (go_at_call 8; refine (isPad_any _ _).mono ?_; rintro e w' ⟨rfl, rfl⟩)
  go_ret
  exact ⟨rfl, rfl⟩
set_option maxHeartbeats 800000 in
theorem cut_xL (a b s ax xb : ByteArray) (ha : a.size ≤ 524288) (hb : b.size ≤ 524288) (E0 : Hid (a ++ b = s)) (hs : s.size ≤ maxLen) (p0 : 0 < s.size) (ae : a.toList.isEmpty = false) (be : b.toList.isEmpty = false) (E1 : Hid (a ++ ⟨#[120]⟩ = ax)) (E2 : Hid (⟨#[120]⟩ ++ b = xb)) (h1 : ax.size ≤ maxLen) (h2 : xb.size ≤ maxLen) (hx : (padF ax).toList.isEmpty = true) (z0 : ((s.size : Int) == 0) = false) (pe : padF s = padF xb) (i0 : isPad (s[0].toNat : Int) = false) (i1 : isPad (s[s.size - 1].toNat : Int) = true) (pz : (padF xb).toList.isEmpty = false) (w : World) :
    Calls Try.prog 3 #[.string a, .string b] w fun e w' => e = .returned (.bool true) ∧ w' = w := by
  unfold maxLen at hs
  go_enter Try.func3, Try.ntmps3
  go_wp2_with fail
  refine (bytes6_yes a b (by omega) _).mono ?_
  rintro e w' ⟨rfl, rfl⟩
  go_wp2_with fail
  rw [E0.out]
  refine (zzpad_any s hs _).mono ?_
  rintro e w' ⟨rfl, rfl⟩
  go_wp2_with fail
  rw [E1.out]
  refine (zzpad_any ax (h1) _).mono ?_
  rintro e w' ⟨rfl, rfl⟩
  go_wp2_with fail
  rw [E2.out]
  refine (zzpad_any xb (h2) _).mono ?_
  rintro e w' ⟨rfl, rfl⟩
  go_wp2_with (go_at_call 8; refine (isPad_any _ _).mono ?_; rintro e w' ⟨rfl, rfl⟩)
  go_ret
  exact ⟨rfl, rfl⟩
set_option maxHeartbeats 800000 in
theorem cut_xN (a b s ax xb : ByteArray) (ha : a.size ≤ 524288) (hb : b.size ≤ 524288) (E0 : Hid (a ++ b = s)) (hs : s.size ≤ maxLen) (p0 : 0 < s.size) (ae : a.toList.isEmpty = false) (be : b.toList.isEmpty = false) (E1 : Hid (a ++ ⟨#[120]⟩ = ax)) (E2 : Hid (⟨#[120]⟩ ++ b = xb)) (h1 : ax.size ≤ maxLen) (h2 : xb.size ≤ maxLen) (hx : (padF ax).toList.isEmpty = true) (z0 : ((s.size : Int) == 0) = false) (pe : padF s = padF xb) (i0 : isPad (s[0].toNat : Int) = false) (i1 : isPad (s[s.size - 1].toNat : Int) = false) (pz : (padF xb).toList.isEmpty = true) (w : World) :
    Calls Try.prog 3 #[.string a, .string b] w fun e w' => e = .returned (.bool true) ∧ w' = w := by
  unfold maxLen at hs
  go_enter Try.func3, Try.ntmps3
  go_wp2_with fail
  refine (bytes6_yes a b (by omega) _).mono ?_
  rintro e w' ⟨rfl, rfl⟩
  go_wp2_with fail
  rw [E0.out]
  refine (zzpad_any s hs _).mono ?_
  rintro e w' ⟨rfl, rfl⟩
  go_wp2_with fail
  rw [E1.out]
  refine (zzpad_any ax (h1) _).mono ?_
  rintro e w' ⟨rfl, rfl⟩
  go_wp2_with fail
  rw [E2.out]
  refine (zzpad_any xb (h2) _).mono ?_
  rintro e w' ⟨rfl, rfl⟩
  go_wp2_with (go_at_call 8; refine (isPad_any _ _).mono ?_; rintro e w' ⟨rfl, rfl⟩)
  go_ret
  exact ⟨rfl, rfl⟩

end Go.Proofs.Qxb6618019a.Cut
