/-
  THE LAW FnPaddingNamesWhichEndAndWhichByte (function 4), way by way.
-/
import Derived.Test.Qxb6618019aPad
namespace Go.Proofs.Qxb6618019a.Names
open Go.ChangeShapes Go.WideShapes Go.ChangeAt Go.RowKit Pad
set_option linter.unusedVariables false

theorem long (s : ByteArray) (h : 1048576 < s.size) (w : World) :
    Calls Try.prog 4 #[.string s] w fun e w' => e = .returned (.bool true) ∧ w' = w := by
  go_enter Try.func4, Try.ntmps4
  go_wp2_with (go_at_call 9; refine (bytes9_no s h _).mono ?_; rintro e w' ⟨rfl, rfl⟩)
  go_ret
  exact ⟨rfl, rfl⟩
theorem brim (s : ByteArray) (h : s.size ≤ 1048576) (g : 1048576 ≤ s.size) (w : World) :
    Calls Try.prog 4 #[.string s] w fun e w' => e = .returned (.bool true) ∧ w' = w := by
  have b9 : decide (1048576 ≤ (s.size : Int)) = true := decide_eq_true (by omega)
  go_enter Try.func4, Try.ntmps4
  go_wp2_with (go_at_call 9; refine (bytes9_yes s h _).mono ?_; rintro e w' ⟨rfl, rfl⟩)
  go_ret
  exact ⟨rfl, rfl⟩
set_option maxHeartbeats 800000 in
theorem way_e (s : ByteArray) (hs : s.size < 1048576) (z : s.size = 0)
    (q1 : padF (⟨#[32]⟩ ++ s) = ⟨#[98, 101, 103, 105, 110, 115, 32, 119, 105, 116, 104, 32, 97, 32, 115, 112, 97, 99, 101]⟩) (q2 : padF (⟨#[9]⟩ ++ s) = ⟨#[98, 101, 103, 105, 110, 115, 32, 119, 105, 116, 104, 32, 97, 32, 116, 97, 98]⟩) (q3 : padF (s ++ ⟨#[32]⟩) = ⟨#[98, 101, 103, 105, 110, 115, 32, 119, 105, 116, 104, 32, 97, 32, 115, 112, 97, 99, 101]⟩) (q4 : padF (s ++ ⟨#[9]⟩) = ⟨#[98, 101, 103, 105, 110, 115, 32, 119, 105, 116, 104, 32, 97, 32, 116, 97, 98]⟩) (w : World) :
    Calls Try.prog 4 #[.string s] w fun e w' => e = .returned (.bool true) ∧ w' = w := by
  have m1 : ((⟨#[32]⟩ : ByteArray) ++ s).size ≤ maxLen := by rw [ByteArray.size_append]; unfold maxLen; show 1 + s.size ≤ _; omega
  have m2 : ((⟨#[9]⟩ : ByteArray) ++ s).size ≤ maxLen := by rw [ByteArray.size_append]; unfold maxLen; show 1 + s.size ≤ _; omega
  have m3 : (s ++ (⟨#[32]⟩ : ByteArray)).size ≤ maxLen := by rw [ByteArray.size_append]; unfold maxLen; show s.size + 1 ≤ _; omega
  have m4 : (s ++ (⟨#[9]⟩ : ByteArray)).size ≤ maxLen := by rw [ByteArray.size_append]; unfold maxLen; show s.size + 1 ≤ _; omega
  have M1 : Hid (((⟨#[32]⟩ : ByteArray) ++ s).size ≤ maxLen) := m1
  have M2 : Hid (((⟨#[9]⟩ : ByteArray) ++ s).size ≤ maxLen) := m2
  have M3 : Hid ((s ++ (⟨#[32]⟩ : ByteArray)).size ≤ maxLen) := m3
  have M4 : Hid ((s ++ (⟨#[9]⟩ : ByteArray)).size ≤ maxLen) := m4
  have Q1 : Hid (padF (⟨#[32]⟩ ++ s) = ⟨#[98, 101, 103, 105, 110, 115, 32, 119, 105, 116, 104, 32, 97, 32, 115, 112, 97, 99, 101]⟩) := q1
  have Q2 : Hid (padF (⟨#[9]⟩ ++ s) = ⟨#[98, 101, 103, 105, 110, 115, 32, 119, 105, 116, 104, 32, 97, 32, 116, 97, 98]⟩) := q2
  have Q3 : Hid (padF (s ++ ⟨#[32]⟩) = ⟨#[98, 101, 103, 105, 110, 115, 32, 119, 105, 116, 104, 32, 97, 32, 115, 112, 97, 99, 101]⟩) := q3
  have Q4 : Hid (padF (s ++ ⟨#[9]⟩) = ⟨#[98, 101, 103, 105, 110, 115, 32, 119, 105, 116, 104, 32, 97, 32, 116, 97, 98]⟩) := q4
  clear m1 m2 m3 m4 q1 q2 q3 q4
  have b9 : decide (1048576 ≤ (s.size : Int)) = false := decide_eq_false (by omega)
  go_enter Try.func4, Try.ntmps4
  go_wp2_with fail
  refine (bytes9_yes s (by omega) _).mono ?_
  rintro e w' ⟨rfl, rfl⟩
  go_wp2_with fail
  refine (zzpad_any _ M1.out _).mono ?_
  rintro e w' ⟨rfl, rfl⟩
  rw [Q1.out]
  go_wp2_with fail
  refine (zzpad_any _ M2.out _).mono ?_
  rintro e w' ⟨rfl, rfl⟩
  rw [Q2.out]
  go_wp2_with fail
  refine (zzpad_any _ M3.out _).mono ?_
  rintro e w' ⟨rfl, rfl⟩
  rw [Q3.out]
  go_wp2_with fail
  refine (zzpad_any _ M4.out _).mono ?_
  rintro e w' ⟨rfl, rfl⟩
  rw [Q4.out]
  go_wp2_with (go_at_call 8; refine (isPad_any _ _).mono ?_; rintro e w' ⟨rfl, rfl⟩)
  go_ret
  exact ⟨rfl, rfl⟩
set_option maxHeartbeats 800000 in
theorem way_s (s : ByteArray) (hs : s.size < 1048576) (p0 : 0 < s.size) (z0 : ((s.size : Int) == 0) = false) (i0 : isPad (s[0].toNat : Int) = true) (b1 : ((s[0].toNat : Int) == 32) = true) (b2 : ((s[0].toNat : Int) == 9) = false) (q : padF s = ⟨#[98, 101, 103, 105, 110, 115, 32, 119, 105, 116, 104, 32, 97, 32, 115, 112, 97, 99, 101]⟩)
    (q1 : padF (⟨#[32]⟩ ++ s) = ⟨#[98, 101, 103, 105, 110, 115, 32, 119, 105, 116, 104, 32, 97, 32, 115, 112, 97, 99, 101]⟩) (q2 : padF (⟨#[9]⟩ ++ s) = ⟨#[98, 101, 103, 105, 110, 115, 32, 119, 105, 116, 104, 32, 97, 32, 116, 97, 98]⟩) (q3 : padF (s ++ ⟨#[32]⟩) = ⟨#[98, 101, 103, 105, 110, 115, 32, 119, 105, 116, 104, 32, 97, 32, 115, 112, 97, 99, 101]⟩) (q4 : padF (s ++ ⟨#[9]⟩) = ⟨#[98, 101, 103, 105, 110, 115, 32, 119, 105, 116, 104, 32, 97, 32, 115, 112, 97, 99, 101]⟩) (w : World) :
    Calls Try.prog 4 #[.string s] w fun e w' => e = .returned (.bool true) ∧ w' = w := by
  have m1 : ((⟨#[32]⟩ : ByteArray) ++ s).size ≤ maxLen := by rw [ByteArray.size_append]; unfold maxLen; show 1 + s.size ≤ _; omega
  have m2 : ((⟨#[9]⟩ : ByteArray) ++ s).size ≤ maxLen := by rw [ByteArray.size_append]; unfold maxLen; show 1 + s.size ≤ _; omega
  have m3 : (s ++ (⟨#[32]⟩ : ByteArray)).size ≤ maxLen := by rw [ByteArray.size_append]; unfold maxLen; show s.size + 1 ≤ _; omega
  have m4 : (s ++ (⟨#[9]⟩ : ByteArray)).size ≤ maxLen := by rw [ByteArray.size_append]; unfold maxLen; show s.size + 1 ≤ _; omega
  have M1 : Hid (((⟨#[32]⟩ : ByteArray) ++ s).size ≤ maxLen) := m1
  have M2 : Hid (((⟨#[9]⟩ : ByteArray) ++ s).size ≤ maxLen) := m2
  have M3 : Hid ((s ++ (⟨#[32]⟩ : ByteArray)).size ≤ maxLen) := m3
  have M4 : Hid ((s ++ (⟨#[9]⟩ : ByteArray)).size ≤ maxLen) := m4
  have Q1 : Hid (padF (⟨#[32]⟩ ++ s) = ⟨#[98, 101, 103, 105, 110, 115, 32, 119, 105, 116, 104, 32, 97, 32, 115, 112, 97, 99, 101]⟩) := q1
  have Q2 : Hid (padF (⟨#[9]⟩ ++ s) = ⟨#[98, 101, 103, 105, 110, 115, 32, 119, 105, 116, 104, 32, 97, 32, 116, 97, 98]⟩) := q2
  have Q3 : Hid (padF (s ++ ⟨#[32]⟩) = ⟨#[98, 101, 103, 105, 110, 115, 32, 119, 105, 116, 104, 32, 97, 32, 115, 112, 97, 99, 101]⟩) := q3
  have Q4 : Hid (padF (s ++ ⟨#[9]⟩) = ⟨#[98, 101, 103, 105, 110, 115, 32, 119, 105, 116, 104, 32, 97, 32, 115, 112, 97, 99, 101]⟩) := q4
  clear m1 m2 m3 m4 q1 q2 q3 q4
  have b9 : decide (1048576 ≤ (s.size : Int)) = false := decide_eq_false (by omega)
  go_enter Try.func4, Try.ntmps4
  go_wp2_with fail
  refine (bytes9_yes s (by omega) _).mono ?_
  rintro e w' ⟨rfl, rfl⟩
  go_wp2_with fail
  refine (zzpad_any _ M1.out _).mono ?_
  rintro e w' ⟨rfl, rfl⟩
  rw [Q1.out]
  go_wp2_with fail
  refine (zzpad_any _ M2.out _).mono ?_
  rintro e w' ⟨rfl, rfl⟩
  rw [Q2.out]
  go_wp2_with fail
  refine (zzpad_any _ M3.out _).mono ?_
  rintro e w' ⟨rfl, rfl⟩
  rw [Q3.out]
  go_wp2_with fail
  refine (zzpad_any _ M4.out _).mono ?_
  rintro e w' ⟨rfl, rfl⟩
  rw [Q4.out]
  go_wp2_with (first | (go_at_call 7; refine (zzpad_any s (by unfold maxLen; omega) _).mono ?_; rintro e w' ⟨rfl, rfl⟩) | (go_at_call 8; refine (isPad_any _ _).mono ?_; rintro e w' ⟨rfl, rfl⟩))
  go_ret
  exact ⟨rfl, rfl⟩
set_option maxHeartbeats 800000 in
theorem way_t (s : ByteArray) (hs : s.size < 1048576) (p0 : 0 < s.size) (z0 : ((s.size : Int) == 0) = false) (i0 : isPad (s[0].toNat : Int) = true) (b1 : ((s[0].toNat : Int) == 32) = false) (b2 : ((s[0].toNat : Int) == 9) = true) (q : padF s = ⟨#[98, 101, 103, 105, 110, 115, 32, 119, 105, 116, 104, 32, 97, 32, 116, 97, 98]⟩)
    (q1 : padF (⟨#[32]⟩ ++ s) = ⟨#[98, 101, 103, 105, 110, 115, 32, 119, 105, 116, 104, 32, 97, 32, 115, 112, 97, 99, 101]⟩) (q2 : padF (⟨#[9]⟩ ++ s) = ⟨#[98, 101, 103, 105, 110, 115, 32, 119, 105, 116, 104, 32, 97, 32, 116, 97, 98]⟩) (q3 : padF (s ++ ⟨#[32]⟩) = ⟨#[98, 101, 103, 105, 110, 115, 32, 119, 105, 116, 104, 32, 97, 32, 116, 97, 98]⟩) (q4 : padF (s ++ ⟨#[9]⟩) = ⟨#[98, 101, 103, 105, 110, 115, 32, 119, 105, 116, 104, 32, 97, 32, 116, 97, 98]⟩) (w : World) :
    Calls Try.prog 4 #[.string s] w fun e w' => e = .returned (.bool true) ∧ w' = w := by
  have m1 : ((⟨#[32]⟩ : ByteArray) ++ s).size ≤ maxLen := by rw [ByteArray.size_append]; unfold maxLen; show 1 + s.size ≤ _; omega
  have m2 : ((⟨#[9]⟩ : ByteArray) ++ s).size ≤ maxLen := by rw [ByteArray.size_append]; unfold maxLen; show 1 + s.size ≤ _; omega
  have m3 : (s ++ (⟨#[32]⟩ : ByteArray)).size ≤ maxLen := by rw [ByteArray.size_append]; unfold maxLen; show s.size + 1 ≤ _; omega
  have m4 : (s ++ (⟨#[9]⟩ : ByteArray)).size ≤ maxLen := by rw [ByteArray.size_append]; unfold maxLen; show s.size + 1 ≤ _; omega
  have M1 : Hid (((⟨#[32]⟩ : ByteArray) ++ s).size ≤ maxLen) := m1
  have M2 : Hid (((⟨#[9]⟩ : ByteArray) ++ s).size ≤ maxLen) := m2
  have M3 : Hid ((s ++ (⟨#[32]⟩ : ByteArray)).size ≤ maxLen) := m3
  have M4 : Hid ((s ++ (⟨#[9]⟩ : ByteArray)).size ≤ maxLen) := m4
  have Q1 : Hid (padF (⟨#[32]⟩ ++ s) = ⟨#[98, 101, 103, 105, 110, 115, 32, 119, 105, 116, 104, 32, 97, 32, 115, 112, 97, 99, 101]⟩) := q1
  have Q2 : Hid (padF (⟨#[9]⟩ ++ s) = ⟨#[98, 101, 103, 105, 110, 115, 32, 119, 105, 116, 104, 32, 97, 32, 116, 97, 98]⟩) := q2
  have Q3 : Hid (padF (s ++ ⟨#[32]⟩) = ⟨#[98, 101, 103, 105, 110, 115, 32, 119, 105, 116, 104, 32, 97, 32, 116, 97, 98]⟩) := q3
  have Q4 : Hid (padF (s ++ ⟨#[9]⟩) = ⟨#[98, 101, 103, 105, 110, 115, 32, 119, 105, 116, 104, 32, 97, 32, 116, 97, 98]⟩) := q4
  clear m1 m2 m3 m4 q1 q2 q3 q4
  have b9 : decide (1048576 ≤ (s.size : Int)) = false := decide_eq_false (by omega)
  go_enter Try.func4, Try.ntmps4
  go_wp2_with fail
  refine (bytes9_yes s (by omega) _).mono ?_
  rintro e w' ⟨rfl, rfl⟩
  go_wp2_with fail
  refine (zzpad_any _ M1.out _).mono ?_
  rintro e w' ⟨rfl, rfl⟩
  rw [Q1.out]
  go_wp2_with fail
  refine (zzpad_any _ M2.out _).mono ?_
  rintro e w' ⟨rfl, rfl⟩
  rw [Q2.out]
  go_wp2_with fail
  refine (zzpad_any _ M3.out _).mono ?_
  rintro e w' ⟨rfl, rfl⟩
  rw [Q3.out]
  go_wp2_with fail
  refine (zzpad_any _ M4.out _).mono ?_
  rintro e w' ⟨rfl, rfl⟩
  rw [Q4.out]
  go_wp2_with (first | (go_at_call 7; refine (zzpad_any s (by unfold maxLen; omega) _).mono ?_; rintro e w' ⟨rfl, rfl⟩) | (go_at_call 8; refine (isPad_any _ _).mono ?_; rintro e w' ⟨rfl, rfl⟩))
  go_ret
  exact ⟨rfl, rfl⟩
set_option maxHeartbeats 800000 in
theorem way_o (s : ByteArray) (hs : s.size < 1048576) (p0 : 0 < s.size) (z0 : ((s.size : Int) == 0) = false) (i0 : isPad (s[0].toNat : Int) = false) (b1 : ((s[0].toNat : Int) == 32) = false) (b2 : ((s[0].toNat : Int) == 9) = false)
    (q1 : padF (⟨#[32]⟩ ++ s) = ⟨#[98, 101, 103, 105, 110, 115, 32, 119, 105, 116, 104, 32, 97, 32, 115, 112, 97, 99, 101]⟩) (q2 : padF (⟨#[9]⟩ ++ s) = ⟨#[98, 101, 103, 105, 110, 115, 32, 119, 105, 116, 104, 32, 97, 32, 116, 97, 98]⟩) (q3 : padF (s ++ ⟨#[32]⟩) = ⟨#[101, 110, 100, 115, 32, 119, 105, 116, 104, 32, 97, 32, 115, 112, 97, 99, 101]⟩) (q4 : padF (s ++ ⟨#[9]⟩) = ⟨#[101, 110, 100, 115, 32, 119, 105, 116, 104, 32, 97, 32, 116, 97, 98]⟩) (w : World) :
    Calls Try.prog 4 #[.string s] w fun e w' => e = .returned (.bool true) ∧ w' = w := by
  have m1 : ((⟨#[32]⟩ : ByteArray) ++ s).size ≤ maxLen := by rw [ByteArray.size_append]; unfold maxLen; show 1 + s.size ≤ _; omega
  have m2 : ((⟨#[9]⟩ : ByteArray) ++ s).size ≤ maxLen := by rw [ByteArray.size_append]; unfold maxLen; show 1 + s.size ≤ _; omega
  have m3 : (s ++ (⟨#[32]⟩ : ByteArray)).size ≤ maxLen := by rw [ByteArray.size_append]; unfold maxLen; show s.size + 1 ≤ _; omega
  have m4 : (s ++ (⟨#[9]⟩ : ByteArray)).size ≤ maxLen := by rw [ByteArray.size_append]; unfold maxLen; show s.size + 1 ≤ _; omega
  have M1 : Hid (((⟨#[32]⟩ : ByteArray) ++ s).size ≤ maxLen) := m1
  have M2 : Hid (((⟨#[9]⟩ : ByteArray) ++ s).size ≤ maxLen) := m2
  have M3 : Hid ((s ++ (⟨#[32]⟩ : ByteArray)).size ≤ maxLen) := m3
  have M4 : Hid ((s ++ (⟨#[9]⟩ : ByteArray)).size ≤ maxLen) := m4
  have Q1 : Hid (padF (⟨#[32]⟩ ++ s) = ⟨#[98, 101, 103, 105, 110, 115, 32, 119, 105, 116, 104, 32, 97, 32, 115, 112, 97, 99, 101]⟩) := q1
  have Q2 : Hid (padF (⟨#[9]⟩ ++ s) = ⟨#[98, 101, 103, 105, 110, 115, 32, 119, 105, 116, 104, 32, 97, 32, 116, 97, 98]⟩) := q2
  have Q3 : Hid (padF (s ++ ⟨#[32]⟩) = ⟨#[101, 110, 100, 115, 32, 119, 105, 116, 104, 32, 97, 32, 115, 112, 97, 99, 101]⟩) := q3
  have Q4 : Hid (padF (s ++ ⟨#[9]⟩) = ⟨#[101, 110, 100, 115, 32, 119, 105, 116, 104, 32, 97, 32, 116, 97, 98]⟩) := q4
  clear m1 m2 m3 m4 q1 q2 q3 q4
  have b9 : decide (1048576 ≤ (s.size : Int)) = false := decide_eq_false (by omega)
  go_enter Try.func4, Try.ntmps4
  go_wp2_with fail
  refine (bytes9_yes s (by omega) _).mono ?_
  rintro e w' ⟨rfl, rfl⟩
  go_wp2_with fail
  refine (zzpad_any _ M1.out _).mono ?_
  rintro e w' ⟨rfl, rfl⟩
  rw [Q1.out]
  go_wp2_with fail
  refine (zzpad_any _ M2.out _).mono ?_
  rintro e w' ⟨rfl, rfl⟩
  rw [Q2.out]
  go_wp2_with fail
  refine (zzpad_any _ M3.out _).mono ?_
  rintro e w' ⟨rfl, rfl⟩
  rw [Q3.out]
  go_wp2_with fail
  refine (zzpad_any _ M4.out _).mono ?_
  rintro e w' ⟨rfl, rfl⟩
  rw [Q4.out]
  go_wp2_with (go_at_call 8; refine (isPad_any _ _).mono ?_; rintro e w' ⟨rfl, rfl⟩)
  go_ret
  exact ⟨rfl, rfl⟩

end Go.Proofs.Qxb6618019a.Names
