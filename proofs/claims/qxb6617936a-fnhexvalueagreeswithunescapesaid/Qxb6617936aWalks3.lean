/-
  unescape (function 11) and ZZunescape (7) at the slices of two and three bytes that the law builds.
-/
import Derived.Test.Qxb6617936aWalks2
namespace Go.Proofs.Qxb6617936a
open Go.ChangeShapes Go.WideShapes Go.ChangeAt Go.RowKit
set_option linter.unusedVariables false

set_option maxHeartbeats 800000 in
theorem un2_no (c : Int) (h0 : 0 ≤ c) (h1 : c ≤ 255) (hn : hx c = -1) (b : Nat) (w : World)
    (c0 : w.cell? ⟨b, 0, none⟩ = some (.int .u8 120)) (c1 : w.cell? ⟨b, 1, none⟩ = some (.int .u8 c)) :
    Calls Try.prog 11 #[.slice (some ⟨b, 0, none⟩) 2 2] w fun e w' => e = .returned (.tuple #[.int .u8 120, .int .i64 1]) ∧ w' = w := by
  go_enter Try.func11, Try.ntmps11
  go_wp2_with (go_at_call 10; refine (hexValue_any c h0 h1 _).mono ?_; rintro e w' ⟨rfl, rfl⟩)
  go_ret2
  exact ⟨rfl, rfl⟩

set_option maxHeartbeats 800000 in
theorem un3_no (c : Int) (h0 : 0 ≤ c) (h1 : c ≤ 255) (hn : hx c = -1) (b : Nat) (w : World)
    (c0 : w.cell? ⟨b, 0, none⟩ = some (.int .u8 120)) (c1 : w.cell? ⟨b, 1, none⟩ = some (.int .u8 c)) :
    Calls Try.prog 11 #[.slice (some ⟨b, 0, none⟩) 3 3] w fun e w' => e = .returned (.tuple #[.int .u8 120, .int .i64 1]) ∧ w' = w := by
  go_enter Try.func11, Try.ntmps11
  go_wp2_with (go_at_call 10; refine (hexValue_any c h0 h1 _).mono ?_; rintro e w' ⟨rfl, rfl⟩)
  go_ret2
  exact ⟨rfl, rfl⟩

set_option maxHeartbeats 800000 in
theorem un2_yes (c : Int) (h0 : 0 ≤ c) (h1 : c ≤ 255) (g0 : 0 ≤ hx c) (g1 : hx c ≤ 15) (b : Nat) (w : World)
    (c0 : w.cell? ⟨b, 0, none⟩ = some (.int .u8 120)) (c1 : w.cell? ⟨b, 1, none⟩ = some (.int .u8 c)) :
    Calls Try.prog 11 #[.slice (some ⟨b, 0, none⟩) 2 2] w fun e w' => e = .returned (.tuple #[.int .u8 (hx c), .int .i64 2]) ∧ w' = w := by
  go_enter Try.func11, Try.ntmps11
  go_wp2_with (go_at_call 10; refine (hexValue_any c h0 h1 _).mono ?_; rintro e w' ⟨rfl, rfl⟩)
  go_loop [7, 8] (fun v n => (n = .int .i64 1 ∧ v = .int .i64 0) ∨ (n = .int .i64 2 ∧ v = .int .i64 (hx c))) (fun _ n => 3 - (intOf n).toNat)
  case atStart => exact Or.inl ⟨rfl, rfl⟩
  case round =>
    rcases hrel with ⟨rfl, rfl⟩ | ⟨rfl, rfl⟩
    · go_wp2_with (go_at_call 10; refine (hexValue_any c h0 h1 _).mono ?_; rintro e w' ⟨rfl, rfl⟩)
      go_round
      case rel => exact Or.inr ⟨rfl, rfl⟩
      case measure => simp [intOf]
    · go_wp2_with (go_at_call 10; refine (hexValue_any c h0 h1 _).mono ?_; rintro e w' ⟨rfl, rfl⟩)
      go_ret2
      exact ⟨rfl, rfl⟩

set_option maxHeartbeats 800000 in
theorem un3_yes (c : Int) (h0 : 0 ≤ c) (h1 : c ≤ 255) (g0 : 0 ≤ hx c) (g1 : hx c ≤ 15) (b : Nat) (w : World)
    (c0 : w.cell? ⟨b, 0, none⟩ = some (.int .u8 120)) (c1 : w.cell? ⟨b, 1, none⟩ = some (.int .u8 c)) (c2 : w.cell? ⟨b, 2, none⟩ = some (.int .u8 c)) :
    Calls Try.prog 11 #[.slice (some ⟨b, 0, none⟩) 3 3] w fun e w' => e = .returned (.tuple #[.int .u8 (hx c * 17), .int .i64 3]) ∧ w' = w := by
  go_enter Try.func11, Try.ntmps11
  go_wp2_with (go_at_call 10; refine (hexValue_any c h0 h1 _).mono ?_; rintro e w' ⟨rfl, rfl⟩)
  go_loop [7, 8] (fun v n => (n = .int .i64 1 ∧ v = .int .i64 0) ∨ (n = .int .i64 2 ∧ v = .int .i64 (hx c)) ∨ (n = .int .i64 3 ∧ v = .int .i64 (hx c * 17))) (fun _ n => 3 - (intOf n).toNat)
  case atStart => exact Or.inl ⟨rfl, rfl⟩
  case round =>
    rcases hrel with ⟨rfl, rfl⟩ | ⟨rfl, rfl⟩ | ⟨rfl, rfl⟩
    · go_wp2_with (go_at_call 10; refine (hexValue_any c h0 h1 _).mono ?_; rintro e w' ⟨rfl, rfl⟩)
      go_round
      case rel => exact Or.inr (Or.inl ⟨rfl, rfl⟩)
      case measure => simp [intOf]
    · go_wp2_with (go_at_call 10; refine (hexValue_any c h0 h1 _).mono ?_; rintro e w' ⟨rfl, rfl⟩)
      go_round
      case rel =>
        refine Or.inr (Or.inr ⟨rfl, ?_⟩)
        have e : hx c * 16 + hx c = hx c * 17 := by omega
        rw [e]
      case measure => simp [intOf]
    · go_wp2_with (go_at_call 10; refine (hexValue_any c h0 h1 _).mono ?_; rintro e w' ⟨rfl, rfl⟩)
      go_ret2
      exact ⟨rfl, rfl⟩
end Go.Proofs.Qxb6617936a
