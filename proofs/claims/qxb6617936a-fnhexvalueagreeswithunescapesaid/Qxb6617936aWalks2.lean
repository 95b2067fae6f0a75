/-
  digitByName (function 6): the loop over the two tables.
-/
import Derived.Test.Qxb6617936aWalks
namespace Go.Proofs.Qxb6617936a
open Go.ChangeShapes Go.WideShapes Go.ChangeAt Go.RowKit
set_option linter.unusedVariables false

def loN (k : Nat) : Int := if k < 10 then 48 + k else 87 + k
def upN (k : Nat) : Int := if k < 10 then 48 + k else 55 + k

theorem lo_fin : ∀ k : Fin 16, (((⟨#[48, 49, 50, 51, 52, 53, 54, 55, 56, 57, 97, 98, 99, 100, 101, 102]⟩ : ByteArray)[k.val]'k.isLt).toNat : Int) = loN k.val := by decide
theorem up_fin : ∀ k : Fin 16, (((⟨#[48, 49, 50, 51, 52, 53, 54, 55, 56, 57, 65, 66, 67, 68, 69, 70]⟩ : ByteArray)[k.val]'k.isLt).toNat : Int) = upN k.val := by decide
theorem lo_at (k : Nat) (h : k < 16) : (((⟨#[48, 49, 50, 51, 52, 53, 54, 55, 56, 57, 97, 98, 99, 100, 101, 102]⟩ : ByteArray)[k]'h).toNat : Int) = loN k := lo_fin ⟨k, h⟩
theorem up_at (k : Nat) (h : k < 16) : (((⟨#[48, 49, 50, 51, 52, 53, 54, 55, 56, 57, 65, 66, 67, 68, 69, 70]⟩ : ByteArray)[k]'h).toNat : Int) = upN k := up_fin ⟨k, h⟩

theorem hx_loN (k : Nat) (h : k < 16) : hx (loN k) = k := by
  unfold loN; split
  · rw [hx_dig _ (by omega) (by omega)]; omega
  · rw [hx_low _ (by omega) (by omega)]; omega
theorem hx_upN (k : Nat) (h : k < 16) : hx (upN k) = k := by
  unfold upN; split
  · rw [hx_dig _ (by omega) (by omega)]; omega
  · rw [hx_up _ (by omega) (by omega)]; omega
theorem hx_none (c : Int) (h : ∀ j : Nat, j < 16 → c ≠ loN j ∧ c ≠ upN j) : hx c = -1 := by
  refine hx_no c ?_ ?_ ?_
  · intro ⟨a, b⟩
    refine (h (c - 48).toNat (by omega)).1 ?_
    unfold loN; rw [if_pos (by omega)]; omega
  · intro ⟨a, b⟩
    refine (h (c - 87).toNat (by omega)).1 ?_
    unfold loN; rw [if_neg (by omega)]; omega
  · intro ⟨a, b⟩
    refine (h (c - 55).toNat (by omega)).2 ?_
    unfold upN; rw [if_neg (by omega)]; omega

set_option maxHeartbeats 400000 in
theorem digit_any (c : Int) (h0 : 0 ≤ c) (h1 : c ≤ 255) (w : World) :
    Calls Try.prog 6 #[.int .u8 c] w fun e w' => e = .returned (.int .i64 (hx c)) ∧ w' = w := by
  go_enter Try.func6, Try.ntmps6
  go_wp2
  go_loop [3] (fun v => ∃ k : Nat, k ≤ 16 ∧ (∀ j : Nat, j < k → c ≠ loN j ∧ c ≠ upN j) ∧ v = .int .i64 k) (fun v => 16 - (intOf v).toNat)
  case atStart => exact ⟨0, Nat.zero_le _, fun j hj => absurd hj (Nat.not_lt_zero j), rfl⟩
  case round =>
    obtain ⟨k, hk, hno, rfl⟩ := hrel
    have HNO : Hid (∀ j : Nat, j < k → c ≠ loN j ∧ c ≠ upN j) := hno
    clear hno
    by_cases hlt : k < 16
    · have e1 := lo_at k hlt
      have e2 := up_at k hlt
      by_cases g1 : c = loN k
      · go_wp2
        go_ret
        exact ⟨ret_int (hx_loN k hlt).symm, rfl⟩
      by_cases g2 : c = upN k
      · have b1 : (c == loN k) = false := beq_eq_false_iff_ne.2 g1
        have b2 : (c == upN k) = true := beq_iff_eq.2 g2
        have E : Hid (hx c = k) := by rw [g2]; exact hx_upN k hlt
        clear g2
        go_wp2
        go_ret
        exact ⟨ret_int E.out.symm, rfl⟩
      · have b1 : (c == loN k) = false := beq_eq_false_iff_ne.2 g1
        have b2 : (c == upN k) = false := beq_eq_false_iff_ne.2 g2
        go_wp2
        go_round
        case rel =>
          refine ⟨k + 1, by omega, fun j hj => ?_, by go_num⟩
          by_cases hjk : j = k
          · subst hjk; exact ⟨g1, g2⟩
          · exact HNO.out j (by omega)
        case measure => simp [intOf]; omega
    · have E : Hid (hx c = -1) := hx_none c (fun j hj => HNO.out j (by omega))
      go_wp2
      go_ret
      exact ⟨ret_int E.out.symm, rfl⟩
end Go.Proofs.Qxb6617936a
