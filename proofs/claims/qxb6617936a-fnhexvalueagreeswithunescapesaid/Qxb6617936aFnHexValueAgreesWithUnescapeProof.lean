/-
  A PROOF OF 'Rows.FnHexValueAgreesWithUnescapeSaid': the program-written frame (proof-skeleton.mjs) with the walk filled in.
-/
import Derived.Test.Qxb6617936aRows
import Derived.WalkKit
import Derived.ProofKit
import Derived.OpenShut
import Derived.ShutString
import Derived.Test.Qxb6617936aWalks3
namespace Go.Proofs.Qxb6617936a.fnHexValueAgreesWithUnescape
open Go.ChangeShapes Go.WideShapes Go.ChangeAt Go.RowKit
open Go.ChangeMaps (open_string shut_string)
set_option linter.unusedVariables false      -- a walk need not use every 'w<i>' (that an integer argument fits its kind)

theorem own : ownKnob Try.prog.godebug = none := by kernel_rfl

/-! ### ZZunescape (7) -/
theorem zz2_no (c : Int) (h0 : 0 ≤ c) (h1 : c ≤ 255) (hn : hx c = -1) (b : Nat) (w : World)
    (c0 : w.cell? ⟨b, 0, none⟩ = some (.int .u8 120)) (c1 : w.cell? ⟨b, 1, none⟩ = some (.int .u8 c)) :
    Calls Try.prog 7 #[.slice (some ⟨b, 0, none⟩) 2 2] w fun e w' => e = .returned (.tuple #[.int .u8 120, .int .i64 1]) ∧ w' = w := by
  go_enter Try.func7, Try.ntmps7
  go_wp2_with (go_at_call 11; refine (un2_no c h0 h1 hn b _ c0 c1).mono ?_; rintro e w' ⟨rfl, rfl⟩)
  go_ret2
  exact ⟨rfl, rfl⟩
theorem zz3_no (c : Int) (h0 : 0 ≤ c) (h1 : c ≤ 255) (hn : hx c = -1) (b : Nat) (w : World)
    (c0 : w.cell? ⟨b, 0, none⟩ = some (.int .u8 120)) (c1 : w.cell? ⟨b, 1, none⟩ = some (.int .u8 c)) :
    Calls Try.prog 7 #[.slice (some ⟨b, 0, none⟩) 3 3] w fun e w' => e = .returned (.tuple #[.int .u8 120, .int .i64 1]) ∧ w' = w := by
  go_enter Try.func7, Try.ntmps7
  go_wp2_with (go_at_call 11; refine (un3_no c h0 h1 hn b _ c0 c1).mono ?_; rintro e w' ⟨rfl, rfl⟩)
  go_ret2
  exact ⟨rfl, rfl⟩
theorem zz2_yes (c : Int) (h0 : 0 ≤ c) (h1 : c ≤ 255) (g0 : 0 ≤ hx c) (g1 : hx c ≤ 15) (b : Nat) (w : World)
    (c0 : w.cell? ⟨b, 0, none⟩ = some (.int .u8 120)) (c1 : w.cell? ⟨b, 1, none⟩ = some (.int .u8 c)) :
    Calls Try.prog 7 #[.slice (some ⟨b, 0, none⟩) 2 2] w fun e w' => e = .returned (.tuple #[.int .u8 (hx c), .int .i64 2]) ∧ w' = w := by
  go_enter Try.func7, Try.ntmps7
  go_wp2_with (go_at_call 11; refine (un2_yes c h0 h1 g0 g1 b _ c0 c1).mono ?_; rintro e w' ⟨rfl, rfl⟩)
  go_ret2
  exact ⟨rfl, rfl⟩
theorem zz3_yes (c : Int) (h0 : 0 ≤ c) (h1 : c ≤ 255) (g0 : 0 ≤ hx c) (g1 : hx c ≤ 15) (b : Nat) (w : World)
    (c0 : w.cell? ⟨b, 0, none⟩ = some (.int .u8 120)) (c1 : w.cell? ⟨b, 1, none⟩ = some (.int .u8 c)) (c2 : w.cell? ⟨b, 2, none⟩ = some (.int .u8 c)) :
    Calls Try.prog 7 #[.slice (some ⟨b, 0, none⟩) 3 3] w fun e w' => e = .returned (.tuple #[.int .u8 (hx c * 17), .int .i64 3]) ∧ w' = w := by
  go_enter Try.func7, Try.ntmps7
  go_wp2_with (go_at_call 11; refine (un3_yes c h0 h1 g0 g1 b _ c0 c1 c2).mono ?_; rintro e w' ⟨rfl, rfl⟩)
  go_ret2
  exact ⟨rfl, rfl⟩

/-! ### STEP 1: THE WALK -/
set_option maxHeartbeats 800000 in
theorem walk (a0 : Int) (w0 : (Lit.int .u8 a0).wf = true) (w : World) :
    Calls Try.prog 3 #[.int .u8 a0] w fun e w' => e = .returned (.bool true) ∧ Grown w w' := by
  have hb := bounds_u8 w0
  obtain ⟨h0, h1⟩ : 0 ≤ a0 ∧ a0 ≤ 255 := by omega
  have g1 := hx_hi a0
  have gl := hx_lo a0
  clear hb
  by_cases g0 : 0 ≤ hx a0
  · go_enter Try.func3, Try.ntmps3
    go_wp2_with fail
    refine (zzhex_any a0 h0 h1 _).mono ?_
    rintro e w' ⟨rfl, rfl⟩
    go_wp2_with fail
    refine (digit_any a0 h0 h1 _).mono ?_
    rintro e w' ⟨rfl, rfl⟩
    go_wp2_with fail
    refine (zz2_yes a0 h0 h1 g0 g1 _ _ (by simp [go_sem]) (by simp [go_sem])).mono ?_
    rintro e w' ⟨rfl, rfl⟩
    go_wp2_with fail
    refine (zz3_yes a0 h0 h1 g0 g1 _ _ (by simp [go_sem]) (by simp [go_sem]) (by simp [go_sem])).mono ?_
    rintro e w' ⟨rfl, rfl⟩
    go_wp2
    go_ret
    exact ⟨rfl, by repeat (first | exact Grown.refl _ | apply Grown.drew | apply Grown.alloc)⟩
  · have hn : hx a0 = -1 := by omega
    go_enter Try.func3, Try.ntmps3
    go_wp2_with fail
    refine (zzhex_any a0 h0 h1 _).mono ?_
    rintro e w' ⟨rfl, rfl⟩
    go_wp2_with fail
    refine (digit_any a0 h0 h1 _).mono ?_
    rintro e w' ⟨rfl, rfl⟩
    go_wp2_with fail
    refine (zz2_no a0 h0 h1 hn _ _ (by simp [go_sem]) (by simp [go_sem])).mono ?_
    rintro e w' ⟨rfl, rfl⟩
    go_wp2_with fail
    refine (zz3_no a0 h0 h1 hn _ _ (by simp [go_sem]) (by simp [go_sem])).mono ?_
    rintro e w' ⟨rfl, rfl⟩
    go_wp2
    go_ret
    exact ⟨rfl, by repeat (first | exact Grown.refl _ | apply Grown.drew | apply Grown.alloc)⟩

/-! ### THE ROW's STEP: WRITTEN OUT: LEAVE IT -/
set_option maxRecDepth 100000 in
theorem lifted (os : Os) (started : os.Started) (H : Type) (enc : TypeId × Value → H) :
    ReturnsInHanded {} Try.checked os 3 .any (Rows.fnHexValueAgreesWithUnescapeSpec.pre6 enc Try.prog Try.f3 Rows.fnHexValueAgreesWithUnescapeRow.domain false) (Rows.fnHexValueAgreesWithUnescapeSpec.post enc Try.prog Try.f3 false true false false) := by
  refine returnsInHanded_of_change (C := Try.checked) own started (by kernel_rfl) Try.func3
    (ChangeSpec.witness6 (enc := enc) (C := Try.checked) false ⟨#[], #[.int .u8 0], []⟩ 8 (by kernel_rfl) (by kernel_rfl) (by kernel_rfl) (by kernel_rfl)) ?_
  intro W base args ds gs before hval0 hW hcnd _
  have hval : ∀ (j : Nat) t v, Try.f3.params[j]? = some t → args[j]? = some v → Value.okWide Try.prog W .any base t v := hval0
  have hW' := hW
  obtain ⟨p, q, hA0, hV, rfl, hfz, hnd⟩ := hW
  have hA : DataW.TrodAll enc Try.prog W 0 (fun _ => true) true Try.f3.params.toList args.toList ds p := hA0
  rw [Try.params3] at hA hval
  obtain ⟨v0, vs0, d0, ds0, p0, q0, hargs, rfl, rfl, h0, r0⟩ := trodAll_cons hA
  obtain ⟨rfl, rfl, rfl⟩ := trodAll_nil r0
  obtain rfl : args = #[v0] := by cases args; simp_all
  obtain ⟨rfl, rfl⟩ := trodVars_none hV
  obtain ⟨a0, rfl, rfl, rfl, w0⟩ := open_int Try.underlying5 (hval 0 5 v0 rfl rfl) h0
  clear hA0 hval0
  simp only [List.append_nil] at hW'
  refine (walk a0 w0 W).mono fun e W' ⟨he, hg⟩ => ?_
  subst he
  exact ⟨_, rfl, post_of_same (pa := []) (pv := []) hW' (fun _ _ _ => (trodAll_cons_mk (shut_bool Try.underlying4 _) trodAll_mk0)) (fun sp _ => (trodAll_cons_mk (shut_int Try.underlying5 w0) trodAll_mk0)) (fun _ _ => rfl) rfl
    (hg.frame _) hg.2.1 (ok_one (by kernel_rfl) rfl (okWide_bool_mk Try.underlying4 _))⟩

theorem over : Rows.fnHexValueAgreesWithUnescapeRow.holds Try.pinned (OpenSpec.ofChange Rows.fnHexValueAgreesWithUnescapeSpec) :=
  OpenClaim.holds_of_wide 3 Try.f3 rfl rfl rfl rfl rfl rfl rfl ⟨rfl, rfl, rfl, rfl, rfl⟩ rfl rfl rfl rfl rfl (by kernel_rfl) Try.func3 (by kernel_rfl)
    (of_decide_eq_true (by kernel_rfl)) (by unfold Func.isWrapper; first | (rw [if_pos (by decide +kernel)]; kernel_rfl) | (rw [if_neg (by decide +kernel)]; exact ⟨rfl, rfl⟩))
    (fun os started H enc _ => lifted os started H enc)

/-- ████ THE STATEMENT ████ -/
theorem proved : Rows.FnHexValueAgreesWithUnescapeSaid :=
  over
end Go.Proofs.Qxb6617936a.fnHexValueAgreesWithUnescape

namespace Go.Proofs.Qxb6617936a
theorem fnHexValueAgreesWithUnescape_proved : Rows.FnHexValueAgreesWithUnescapeSaid := fnHexValueAgreesWithUnescape.proved
end Go.Proofs.Qxb6617936a
