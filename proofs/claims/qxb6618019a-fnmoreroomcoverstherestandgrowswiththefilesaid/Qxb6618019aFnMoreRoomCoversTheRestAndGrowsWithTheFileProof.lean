/-
  A PROOF OF 'Rows.FnMoreRoomCoversTheRestAndGrowsWithTheFileSaid': the program-written frame (proof-skeleton.mjs) with the walk filled in.
-/
import Derived.Test.Qxb6618019aRows
import Derived.WalkKit
import Derived.ProofKit
import Derived.OpenShut
import Derived.ShutString
import Derived.Test.Qxb6618019aMoreLaw
namespace Go.Proofs.Qxb6618019a.fnMoreRoomCoversTheRestAndGrowsWithTheFile
open Go.ChangeShapes Go.WideShapes Go.ChangeAt Go.RowKit
open Go.ChangeMaps (open_string shut_string)
set_option linter.unusedVariables false      -- a walk need not use every 'w<i>' (that an integer argument fits its kind)

theorem own : ownKnob Try.prog.godebug = none := by kernel_rfl

open Plain MoreLaw

/-! ### STEP 1: THE WALK: the ways of MoreLaw joined -/
theorem known (n o s t : Int) (h0 : 1 ≤ n) (h1 : n ≤ 9223372036854775807) (ho : 1 ≤ o) (hos : o < s) (hs : s ≤ 4611686018427387904) (ht : t ≤ 4611686018427387904) (w : World) :
    Calls Try.prog 5 #[.int .i64 n, .int .i64 o, .int .i64 s, .int .i64 t] w fun e w' => e = .returned (.bool true) ∧ w' = w := by
  have r0 := rest_lo n o s h0 hos
  have r9 := rest_hi n o s h0 hos
  have l0 := leF_lo n
  have lm := le_more n o s
  have mh := more_hi n o s h0 h1 hos ho hs
  have av := avg_pos n o h0
  have rm := rest_mul n o s h0
  have rs := rest_succ n o s h0
  have mm : s ≤ t → moreF n o s ≤ moreF n o t := fun z => more_mono n o s t h0 z
  by_cases mg : leF n < moreF n o s
  · have em := more_big n o s mg
    have r1 : 1 ≤ restF n o s := by rw [em] at mg; unfold tenth at mg; omega
    have e1 : moreF n o s - moreF n o s / 11 = restF n o s := by rw [em]; exact back _ r0
    have e2 : (restF n o s + restF n o s / 10 == moreF n o s) = true := by rw [em]; exact beq_iff_eq.2 rfl
    have f1 := no_greater (restF n o s) (avgF n o) (s - o) r1 rm
    have f2 := greater (restF n o s + 1) (avgF n o) (s - o) (by omega) rs
    by_cases m : n < 256
    · have el : leF n = 64 := by unfold leF; rw [if_pos m]
      rw [el] at mg
      by_cases k : o < n
      · have q := quo_small n o (by omega) k
        rw [avg_small n o k] at f1 f2
        by_cases z : s ≤ t
        · exact k_s0Gy n o s t h0 m ho hos hs ht q mg mh r1 (by omega) e1 e2 f1 f2 z (mm z) w
        · exact k_s0Gn n o s t h0 m ho hos hs ht q mg mh r1 (by omega) e1 e2 f1 f2 (by omega) w
      have q' := quo_big n o h0 k
      rw [avg_big n o k] at f1 f2
      by_cases q : o / n = 1
      · rw [q] at f1 f2
        by_cases z : s ≤ t
        · exact k_s1Gy n o s t h0 m ho hos hs ht q mg mh r1 (by omega) e1 e2 f1 f2 z (mm z) w
        · exact k_s1Gn n o s t h0 m ho hos hs ht q mg mh r1 (by omega) e1 e2 f1 f2 (by omega) w
      · have q : 1 < o / n := by omega
        by_cases z : s ≤ t
        · exact k_s2Gy n o s t h0 m ho hos hs ht q mg mh r1 (by omega) e1 e2 f1 f2 z (mm z) w
        · exact k_s2Gn n o s t h0 m ho hos hs ht q mg mh r1 (by omega) e1 e2 f1 f2 (by omega) w
    · have el : leF n = n / 4 := by unfold leF; rw [if_neg m]
      rw [el] at mg
      by_cases k : o < n
      · have q := quo_small n o (by omega) k
        rw [avg_small n o k] at f1 f2
        by_cases z : s ≤ t
        · exact k_b0Gy n o s t h0 (by omega) h1 ho hos hs ht q mg mh r1 (by omega) e1 e2 f1 f2 z (mm z) w
        · exact k_b0Gn n o s t h0 (by omega) h1 ho hos hs ht q mg mh r1 (by omega) e1 e2 f1 f2 (by omega) w
      have q' := quo_big n o h0 k
      rw [avg_big n o k] at f1 f2
      by_cases q : o / n = 1
      · rw [q] at f1 f2
        by_cases z : s ≤ t
        · exact k_b1Gy n o s t h0 (by omega) h1 ho hos hs ht q mg mh r1 (by omega) e1 e2 f1 f2 z (mm z) w
        · exact k_b1Gn n o s t h0 (by omega) h1 ho hos hs ht q mg mh r1 (by omega) e1 e2 f1 f2 (by omega) w
      · have q : 1 < o / n := by omega
        by_cases z : s ≤ t
        · exact k_b2Gy n o s t h0 (by omega) h1 ho hos hs ht q mg mh r1 (by omega) e1 e2 f1 f2 z (mm z) w
        · exact k_b2Gn n o s t h0 (by omega) h1 ho hos hs ht q mg mh r1 (by omega) e1 e2 f1 f2 (by omega) w
  · have me : moreF n o s = leF n := by omega
    have ts := more_small n o s me
    by_cases m : n < 256
    · have el : leF n = 64 := by unfold leF; rw [if_pos m]
      rw [el] at me
      have f : (s - o) / 60 < avgF n o := greater 60 (avgF n o) (s - o) (by omega) (mul_mono (restF n o s) 60 (avgF n o) (s - o) av (by have := above (restF n o s) (leF n) r0 ts; rw [el] at this; omega) rs)
      by_cases k : o < n
      · have q := quo_small n o (by omega) k
        rw [avg_small n o k] at f
        by_cases z : s ≤ t
        · exact k_s0Ey n o s t h0 m ho hos hs ht q me f z (by have := mm z; omega) w
        · exact k_s0En n o s t h0 m ho hos hs ht q me f (by omega) w
      have q' := quo_big n o h0 k
      rw [avg_big n o k] at f
      by_cases q : o / n = 1
      · rw [q] at f
        by_cases z : s ≤ t
        · exact k_s1Ey n o s t h0 m ho hos hs ht q me f z (by have := mm z; omega) w
        · exact k_s1En n o s t h0 m ho hos hs ht q me f (by omega) w
      · have q : 1 < o / n := by omega
        by_cases z : s ≤ t
        · exact k_s2Ey n o s t h0 m ho hos hs ht q me f z (by have := mm z; omega) w
        · exact k_s2En n o s t h0 m ho hos hs ht q me f (by omega) w
    · have el : leF n = n / 4 := by unfold leF; rw [if_neg m]
      rw [el] at me
      have f : (s - o) / (n / 4 + 1 - (n / 4 + 1) / 11) < avgF n o := greater (n / 4 + 1 - (n / 4 + 1) / 11) (avgF n o) (s - o) (by omega) (mul_mono (restF n o s) (n / 4 + 1 - (n / 4 + 1) / 11) (avgF n o) (s - o) av (by have := above (restF n o s) (leF n) r0 ts; rw [el] at this; omega) rs)
      by_cases k : o < n
      · have q := quo_small n o (by omega) k
        rw [avg_small n o k] at f
        by_cases z : s ≤ t
        · exact k_b0Ey n o s t h0 (by omega) h1 ho hos hs ht q me f z (by have := mm z; omega) w
        · exact k_b0En n o s t h0 (by omega) h1 ho hos hs ht q me f (by omega) w
      have q' := quo_big n o h0 k
      rw [avg_big n o k] at f
      by_cases q : o / n = 1
      · rw [q] at f
        by_cases z : s ≤ t
        · exact k_b1Ey n o s t h0 (by omega) h1 ho hos hs ht q me f z (by have := mm z; omega) w
        · exact k_b1En n o s t h0 (by omega) h1 ho hos hs ht q me f (by omega) w
      · have q : 1 < o / n := by omega
        by_cases z : s ≤ t
        · exact k_b2Ey n o s t h0 (by omega) h1 ho hos hs ht q me f z (by have := mm z; omega) w
        · exact k_b2En n o s t h0 (by omega) h1 ho hos hs ht q me f (by omega) w

theorem walk (a0 : Int) (a1 : Int) (a2 : Int) (a3 : Int) (w0 : (Lit.int .i64 a0).wf = true) (w1 : (Lit.int .i64 a1).wf = true) (w2 : (Lit.int .i64 a2).wf = true) (w3 : (Lit.int .i64 a3).wf = true) (w : World) :
    Calls Try.prog 5 #[.int .i64 a0, .int .i64 a1, .int .i64 a2, .int .i64 a3] w fun e w' => e = .returned (.bool true) ∧ Grown w w' := by
  have hb := bounds_i64 w0
  suffices hx : Calls Try.prog 5 #[.int .i64 a0, .int .i64 a1, .int .i64 a2, .int .i64 a3] w fun e w' => e = .returned (.bool true) ∧ w' = w by
    refine hx.mono ?_
    rintro e w' ⟨he, hw⟩
    exact ⟨he, by rw [hw]; exact Grown.refl _⟩
  have hn : a0 ≤ 9223372036854775807 := by omega
  by_cases n0 : a0 < 0
  · exact w_neg a0 a1 a2 a3 n0 w
  by_cases s0 : 4611686018427387904 < a2
  · exact w_size a0 a1 a2 a3 (by omega) s0 w
  by_cases t0 : 4611686018427387904 < a3
  · exact w_size2 a0 a1 a2 a3 (by omega) (by omega) t0 w
  have hs : a2 ≤ 4611686018427387904 := by omega
  have ht : a3 ≤ 4611686018427387904 := by omega
  by_cases z : a0 = 0
  · rw [z]; exact u_0 a1 a2 a3 hs ht w
  by_cases g : a1 ≤ 0
  · by_cases k : a0 < 64
    · exact u_so a0 a1 a2 a3 (by omega) k g hs ht w
    by_cases k' : a0 < 256
    · exact u_mo a0 a1 a2 a3 (by omega) k' g hs ht w
    · exact u_bo a0 a1 a2 a3 (by omega) hn g hs ht w
  by_cases g' : a2 ≤ a1
  · by_cases k : a0 < 64
    · exact u_ss a0 a1 a2 a3 (by omega) k (by omega) g' hs ht w
    by_cases k' : a0 < 256
    · exact u_ms a0 a1 a2 a3 (by omega) k' (by omega) g' hs ht w
    · exact u_bs a0 a1 a2 a3 (by omega) hn (by omega) g' hs ht w
  · exact known a0 a1 a2 a3 (by omega) hn (by omega) (by omega) hs ht w

/-! ### THE ROW's STEP: WRITTEN OUT: LEAVE IT -/
set_option maxRecDepth 100000 in
theorem lifted (os : Os) (started : os.Started) (H : Type) (enc : TypeId × Value → H) :
    ReturnsInHanded {} Try.checked os 5 .any (Rows.fnMoreRoomCoversTheRestAndGrowsWithTheFileSpec.pre6 enc Try.prog Try.f5 Rows.fnMoreRoomCoversTheRestAndGrowsWithTheFileRow.domain false) (Rows.fnMoreRoomCoversTheRestAndGrowsWithTheFileSpec.post enc Try.prog Try.f5 false true false false) := by
  refine returnsInHanded_of_change (C := Try.checked) own started (by kernel_rfl) Try.func5
    (ChangeSpec.witness6 (enc := enc) (C := Try.checked) false ⟨#[], #[.int .i64 0, .int .i64 0, .int .i64 0, .int .i64 0], []⟩ 8 (by kernel_rfl) (by kernel_rfl) (by kernel_rfl) (by kernel_rfl)) ?_
  intro W base args ds gs before hval0 hW hcnd _
  have hval : ∀ (j : Nat) t v, Try.f5.params[j]? = some t → args[j]? = some v → Value.okWide Try.prog W .any base t v := hval0
  have hW' := hW
  obtain ⟨p, q, hA0, hV, rfl, hfz, hnd⟩ := hW
  have hA : DataW.TrodAll enc Try.prog W 0 (fun _ => true) true Try.f5.params.toList args.toList ds p := hA0
  rw [Try.params5] at hA hval
  obtain ⟨v0, vs0, d0, ds0, p0, q0, hargs, rfl, rfl, h0, r0⟩ := trodAll_cons hA
  obtain ⟨v1, vs1, d1, ds1, p1, q1, rfl, rfl, rfl, h1, r1⟩ := trodAll_cons r0
  obtain ⟨v2, vs2, d2, ds2, p2, q2, rfl, rfl, rfl, h2, r2⟩ := trodAll_cons r1
  obtain ⟨v3, vs3, d3, ds3, p3, q3, rfl, rfl, rfl, h3, r3⟩ := trodAll_cons r2
  obtain ⟨rfl, rfl, rfl⟩ := trodAll_nil r3
  obtain rfl : args = #[v0, v1, v2, v3] := by cases args; simp_all
  obtain ⟨rfl, rfl⟩ := trodVars_none hV
  obtain ⟨a0, rfl, rfl, rfl, w0⟩ := open_int Try.underlying3 (hval 0 3 v0 rfl rfl) h0
  obtain ⟨a1, rfl, rfl, rfl, w1⟩ := open_int Try.underlying2 (hval 1 2 v1 rfl rfl) h1
  obtain ⟨a2, rfl, rfl, rfl, w2⟩ := open_int Try.underlying2 (hval 2 2 v2 rfl rfl) h2
  obtain ⟨a3, rfl, rfl, rfl, w3⟩ := open_int Try.underlying2 (hval 3 2 v3 rfl rfl) h3
  clear hA0 hval0
  simp only [List.append_nil] at hW'
  refine (walk a0 a1 a2 a3 w0 w1 w2 w3 W).mono fun e W' ⟨he, hg⟩ => ?_
  subst he
  exact ⟨_, rfl, post_of_same (pa := []) (pv := []) hW' (fun _ _ _ => (trodAll_cons_mk (shut_bool Try.underlying4 _) trodAll_mk0)) (fun sp _ => (trodAll_cons_mk (shut_int Try.underlying3 w0) (trodAll_cons_mk (shut_int Try.underlying2 w1) (trodAll_cons_mk (shut_int Try.underlying2 w2) (trodAll_cons_mk (shut_int Try.underlying2 w3) trodAll_mk0))))) (fun _ _ => rfl) rfl
    (hg.frame _) hg.2.1 (ok_one (by kernel_rfl) rfl (okWide_bool_mk Try.underlying4 _))⟩

theorem over : Rows.fnMoreRoomCoversTheRestAndGrowsWithTheFileRow.holds Try.pinned (OpenSpec.ofChange Rows.fnMoreRoomCoversTheRestAndGrowsWithTheFileSpec) :=
  OpenClaim.holds_of_wide 5 Try.f5 rfl rfl rfl rfl rfl rfl rfl ⟨rfl, rfl, rfl, rfl, rfl⟩ rfl rfl rfl rfl rfl (by kernel_rfl) Try.func5 (by kernel_rfl)
    (of_decide_eq_true (by kernel_rfl)) (by unfold Func.isWrapper; first | (rw [if_pos (by decide +kernel)]; kernel_rfl) | (rw [if_neg (by decide +kernel)]; exact ⟨rfl, rfl⟩))
    (fun os started H enc _ => lifted os started H enc)

/-- ████ THE STATEMENT ████ -/
theorem proved : Rows.FnMoreRoomCoversTheRestAndGrowsWithTheFileSaid :=
  over
end Go.Proofs.Qxb6618019a.fnMoreRoomCoversTheRestAndGrowsWithTheFile

namespace Go.Proofs.Qxb6618019a
theorem fnMoreRoomCoversTheRestAndGrowsWithTheFile_proved : Rows.FnMoreRoomCoversTheRestAndGrowsWithTheFileSaid := fnMoreRoomCoversTheRestAndGrowsWithTheFile.proved
end Go.Proofs.Qxb6618019a
