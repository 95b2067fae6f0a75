/-
  THE WALKS of seat b6617936a: hexValue, digitByName, unescape (at the two slices that the law builds).
-/
import Derived.Test.Qxb6617936aRows
import Derived.WalkKit
import Derived.ProofKit
import Derived.OpenShut
import Derived.WalkSpells
namespace Go.Proofs.Qxb6617936a
open Go.ChangeShapes Go.WideShapes Go.ChangeAt Go.RowKit
set_option linter.unusedVariables false

/-! ### THE PLAIN FUNCTION -/
def hx (c : Int) : Int := if 48 ≤ c ∧ c ≤ 57 then c - 48 else if 97 ≤ c ∧ c ≤ 102 then c - 87 else if 65 ≤ c ∧ c ≤ 70 then c - 55 else -1

theorem hx_lo (c : Int) : -1 ≤ hx c := by unfold hx; split <;> (try split) <;> (try split) <;> omega
theorem hx_hi (c : Int) : hx c ≤ 15 := by unfold hx; split <;> (try split) <;> (try split) <;> omega
theorem hx_dig (c : Int) (h : 48 ≤ c) (h' : c ≤ 57) : hx c = c - 48 := by unfold hx; rw [if_pos ⟨h, h'⟩]
theorem hx_low (c : Int) (h : 97 ≤ c) (h' : c ≤ 102) : hx c = c - 87 := by unfold hx; rw [if_neg (by omega), if_pos ⟨h, h'⟩]
theorem hx_up (c : Int) (h : 65 ≤ c) (h' : c ≤ 70) : hx c = c - 55 := by unfold hx; rw [if_neg (by omega), if_neg (by omega), if_pos ⟨h, h'⟩]
theorem hx_no (c : Int) (h : ¬ (48 ≤ c ∧ c ≤ 57)) (h' : ¬ (97 ≤ c ∧ c ≤ 102)) (h'' : ¬ (65 ≤ c ∧ c ≤ 70)) : hx c = -1 := by unfold hx; rw [if_neg h, if_neg h', if_neg h'']

theorem ret_int {k : IntKind} {a b : Int} (h : a = b) : Ending.returned (.int k a) = .returned (.int k b) := by rw [h]

/-! ### hexValue -/
set_option maxHeartbeats 400000 in
theorem hexValue_any (c : Int) (h0 : 0 ≤ c) (h1 : c ≤ 255) (w : World) :
    Calls Try.prog 10 #[.int .u8 c] w fun e w' => e = .returned (.int .i64 (hx c)) ∧ w' = w := by
  by_cases a1 : c < 48
  · have E : Hid (hx c = -1) := hx_no c (by omega) (by omega) (by omega)
    go_enter Try.func10, Try.ntmps10
    go_wp2
    go_ret
    exact ⟨ret_int (by rw [E.out]), rfl⟩
  by_cases a2 : c ≤ 57
  · have E : Hid (hx c = c - 48) := hx_dig c (by omega) (by omega)
    go_enter Try.func10, Try.ntmps10
    go_wp2
    go_ret
    exact ⟨ret_int (by rw [E.out]), rfl⟩
  by_cases a3 : c < 65
  · have E : Hid (hx c = -1) := hx_no c (by omega) (by omega) (by omega)
    go_enter Try.func10, Try.ntmps10
    go_wp2
    go_ret
    exact ⟨ret_int (by rw [E.out]), rfl⟩
  by_cases a4 : c ≤ 70
  · have E : Hid (hx c = c - 55) := hx_up c (by omega) (by omega)
    go_enter Try.func10, Try.ntmps10
    go_wp2
    go_ret
    exact ⟨ret_int (by rw [E.out]; omega), rfl⟩
  by_cases a5 : c < 97
  · have E : Hid (hx c = -1) := hx_no c (by omega) (by omega) (by omega)
    go_enter Try.func10, Try.ntmps10
    go_wp2
    go_ret
    exact ⟨ret_int (by rw [E.out]), rfl⟩
  by_cases a6 : c ≤ 102
  · have E : Hid (hx c = c - 87) := hx_low c (by omega) (by omega)
    go_enter Try.func10, Try.ntmps10
    go_wp2
    go_ret
    exact ⟨ret_int (by rw [E.out]; omega), rfl⟩
  · have E : Hid (hx c = -1) := hx_no c (by omega) (by omega) (by omega)
    go_enter Try.func10, Try.ntmps10
    go_wp2
    go_ret
    exact ⟨ret_int (by rw [E.out]), rfl⟩

theorem zzhex_any (c : Int) (h0 : 0 ≤ c) (h1 : c ≤ 255) (w : World) :
    Calls Try.prog 5 #[.int .u8 c] w fun e w' => e = .returned (.int .i64 (hx c)) ∧ w' = w := by
  go_enter Try.func5, Try.ntmps5
  go_wp2_with (go_at_call 10; refine (hexValue_any c h0 h1 _).mono ?_; rintro e w' ⟨rfl, rfl⟩)
  go_ret
  exact ⟨rfl, rfl⟩

end Go.Proofs.Qxb6617936a
