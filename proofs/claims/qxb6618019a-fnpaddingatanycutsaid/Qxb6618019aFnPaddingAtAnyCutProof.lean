/-
  A PROOF OF 'Rows.FnPaddingAtAnyCutSaid': the program-written frame (proof-skeleton.mjs) with the walk filled in.
-/
import Derived.Test.Qxb6618019aRows
import Derived.WalkKit
import Derived.ProofKit
import Derived.OpenShut
import Derived.ShutString
import Derived.Test.Qxb6618019aCut
namespace Go.Proofs.Qxb6618019a.fnPaddingAtAnyCut
open Go.ChangeShapes Go.WideShapes Go.ChangeAt Go.RowKit
open Go.ChangeMaps (open_string shut_string)
set_option linter.unusedVariables false      -- a walk need not use every 'w<i>' (that an integer argument fits its kind)

theorem own : ownKnob Try.prog.godebug = none := by kernel_rfl

open Pad Cut

/-! ### THE PLAIN LAW -/
def padO (f l : Option UInt8) : ByteArray :=
  if f = none then ⟨#[]⟩
  else if f = some 32 then ⟨#[98, 101, 103, 105, 110, 115, 32, 119, 105, 116, 104, 32, 97, 32, 115, 112, 97, 99, 101]⟩
  else if f = some 9 then ⟨#[98, 101, 103, 105, 110, 115, 32, 119, 105, 116, 104, 32, 97, 32, 116, 97, 98]⟩
  else if l = some 32 then ⟨#[101, 110, 100, 115, 32, 119, 105, 116, 104, 32, 97, 32, 115, 112, 97, 99, 101]⟩
  else if l = some 9 then ⟨#[101, 110, 100, 115, 32, 119, 105, 116, 104, 32, 97, 32, 116, 97, 98]⟩
  else ⟨#[]⟩
theorem fst_none (s : ByteArray) : fst s = none ↔ s.size = 0 := by
  obtain ⟨⟨l⟩⟩ := s
  cases l <;> simp [fst, ByteArray.size]
theorem padF_padO (s : ByteArray) : padF s = padO (fst s) (lst s) := by
  unfold padF padO
  by_cases h : s.size = 0
  · rw [if_pos h, if_pos ((fst_none s).2 h)]
  · rw [if_neg h, if_neg (fun g => h ((fst_none s).1 g))]
theorem fst_app (a b : ByteArray) : fst (a ++ b) = (fst a).or (fst b) := by
  unfold fst; rw [ByteArray.data_append, Array.toList_append, List.head?_append]
theorem lst_app (a b : ByteArray) : lst (a ++ b) = (lst b).or (lst a) := by
  unfold lst; rw [ByteArray.data_append, Array.toList_append, List.getLast?_append]
theorem empty_iff (s : ByteArray) : s.toList.isEmpty = true ↔ s.size = 0 := by
  rw [ByteArray.toList_eq]
  obtain ⟨⟨l⟩⟩ := s
  cases l <;> simp [ByteArray.size]
theorem empty_no (s : ByteArray) (h : s.size ≠ 0) : s.toList.isEmpty = false := by
  cases g : s.toList.isEmpty with
  | false => rfl
  | true => exact absurd ((empty_iff s).1 g) h
theorem isPad_of {c : UInt8} {n : Nat} (h : n = c.toNat) : isPad (n : Int) = (c == 32 || c == 9) := by
  subst h
  have e : ∀ d : UInt8, ((c.toNat : Int) == (d.toNat : Int)) = (c == d) := fun d => by
    rw [Bool.eq_iff_iff, beq_iff_eq, beq_iff_eq]; exact ⟨fun h => UInt8.toNat_inj.1 (by omega), fun h => by rw [h]⟩
  exact congr (congrArg or (e 32)) (e 9)
/-- the three kinds of a non-empty string -/
theorem padO_F {c : UInt8} {l : Option UInt8} (h : (c == 32 || c == 9) = true) (m : Option UInt8) : padO (some c) l = padO (some c) m ∧ (padO (some c) l).toList.isEmpty = false := by
  have : c = 32 ∨ c = 9 := by simpa using h
  rcases this with rfl | rfl
  · exact ⟨rfl, by rw [ByteArray.toList_eq]; rfl⟩
  · exact ⟨rfl, by rw [ByteArray.toList_eq]; rfl⟩
theorem padO_no {c : UInt8} (h : (c == 32 || c == 9) = false) (l : Option UInt8) :
    padO (some c) l = if l = some 32 then ⟨#[101, 110, 100, 115, 32, 119, 105, 116, 104, 32, 97, 32, 115, 112, 97, 99, 101]⟩ else if l = some 9 then ⟨#[101, 110, 100, 115, 32, 119, 105, 116, 104, 32, 97, 32, 116, 97, 98]⟩ else ⟨#[]⟩ := by
  have : c ≠ 32 ∧ c ≠ 9 := by simpa using h
  unfold padO
  rw [if_neg (by simp), if_neg (by simp [this.1]), if_neg (by simp [this.2])]
theorem padO_L {c d : UInt8} (h : (c == 32 || c == 9) = false) (g : (d == 32 || d == 9) = true) : (padO (some c) (some d)).toList.isEmpty = false := by
  rw [padO_no h]
  have : d = 32 ∨ d = 9 := by simpa using g
  rcases this with rfl | rfl <;> (rw [ByteArray.toList_eq]; rfl)
theorem padO_N {c d : UInt8} (h : (c == 32 || c == 9) = false) (g : (d == 32 || d == 9) = false) : (padO (some c) (some d)).toList.isEmpty = true := by
  rw [padO_no h]
  have : d ≠ 32 ∧ d ≠ 9 := by simpa using g
  rw [if_neg (by simp [this.1]), if_neg (by simp [this.2]), ByteArray.toList_eq]
  rfl

/-! ### STEP 1: THE WALK: the ways of Cut joined -/
theorem core (a b : ByteArray) (ha : a.size ≤ 524288) (hb : b.size ≤ 524288) (w : World) :
    Calls Try.prog 3 #[.string a, .string b] w fun e w' => e = .returned (.bool true) ∧ w' = w := by
  obtain ⟨s, e0⟩ : ∃ s, a ++ b = s := ⟨_, rfl⟩
  have zs : s.size = a.size + b.size := by rw [← e0, ByteArray.size_append]
  have hs : s.size ≤ maxLen := by unfold maxLen; omega
  have f0 : fst s = (fst a).or (fst b) := by rw [← e0, fst_app]
  have l0 : lst s = (lst b).or (lst a) := by rw [← e0, lst_app]
  by_cases z : s.size = 0
  · have ae := (empty_iff a).2 (by omega)
    have fb : fst b = none := (fst_none b).2 (by omega)
    have fs : fst s = none := (fst_none s).2 z
    have pe : padF s = padF b := by rw [padF_padO, padF_padO, fs, fb]; rfl
    have pz : (padF b).toList.isEmpty = true := by rw [padF_padO, fb, ByteArray.toList_eq]; rfl
    exact empty a b s ha hb e0 hs ae (beq_iff_eq.2 (by omega)) pe pz w
  have p0 : 0 < s.size := by omega
  have z0 : ((s.size : Int) == 0) = false := beq_eq_false_iff_ne.2 (by omega)
  obtain ⟨c, hc⟩ := fst_some z
  obtain ⟨d, hd⟩ := lst_some z
  obtain ⟨c0, c1⟩ := fst_at hc
  obtain ⟨d0, d1⟩ := lst_at hd
  have i0 := isPad_of c1
  have i1 := isPad_of d1
  have ps : padF s = padO (some c) (some d) := by rw [padF_padO, hc, hd]
  by_cases za : a.size = 0
  · have ae := (empty_iff a).2 za
    have fa : fst a = none := (fst_none a).2 za
    have es : s = b := by
      rw [← e0]
      refine bytes_inj ?_
      rw [ByteArray.data_append, Array.toList_append]
      have : a.data.toList = [] := List.head?_eq_none_iff.1 fa
      rw [this, List.nil_append]
    have pe : padF s = padF b := by rw [es]
    cases hp : (c == 32 || c == 9) with
    | true =>
      rw [hp] at i0
      exact cut_aF a b s ha hb e0 hs p0 ae z0 pe i0 (by rw [← pe, ps]; exact (padO_F hp none).2) w
    | false =>
      rw [hp] at i0
      cases hq : (d == 32 || d == 9) with
      | true =>
        rw [hq] at i1
        exact cut_aL a b s ha hb e0 hs p0 ae z0 pe i0 i1 (by rw [← pe, ps]; exact padO_L hp hq) w
      | false =>
        rw [hq] at i1
        exact cut_aN a b s ha hb e0 hs p0 ae z0 pe i0 i1 (by rw [← pe, ps]; exact padO_N hp hq) w
  have ae := empty_no a za
  by_cases zb : b.size = 0
  · have be := (empty_iff b).2 zb
    have fb : fst b = none := (fst_none b).2 zb
    have es : s = a := by
      rw [← e0]
      refine bytes_inj ?_
      rw [ByteArray.data_append, Array.toList_append]
      have : b.data.toList = [] := List.head?_eq_none_iff.1 fb
      rw [this, List.append_nil]
    have pe : padF s = padF a := by rw [es]
    cases hp : (c == 32 || c == 9) with
    | true =>
      rw [hp] at i0
      exact cut_bF a b s ha hb e0 hs p0 ae be z0 pe i0 (by rw [← pe, ps]; exact (padO_F hp none).2) w
    | false =>
      rw [hp] at i0
      cases hq : (d == 32 || d == 9) with
      | true =>
        rw [hq] at i1
        exact cut_bL a b s ha hb e0 hs p0 ae be z0 pe i0 i1 (by rw [← pe, ps]; exact padO_L hp hq) w
      | false =>
        rw [hq] at i1
        exact cut_bN a b s ha hb e0 hs p0 ae be z0 pe i0 i1 (by rw [← pe, ps]; exact padO_N hp hq) w
  have be := empty_no b zb
  obtain ⟨ax, e1⟩ : ∃ s, a ++ (⟨#[120]⟩ : ByteArray) = s := ⟨_, rfl⟩
  obtain ⟨xb, e2⟩ : ∃ s, (⟨#[120]⟩ : ByteArray) ++ b = s := ⟨_, rfl⟩
  have h1 : ax.size ≤ maxLen := by rw [← e1, ByteArray.size_append]; unfold maxLen; show a.size + 1 ≤ _; omega
  have h2 : xb.size ≤ maxLen := by rw [← e2, ByteArray.size_append]; unfold maxLen; show 1 + b.size ≤ _; omega
  obtain ⟨c', hc'⟩ := fst_some za
  obtain ⟨d', hd'⟩ := lst_some zb
  have fa : fst a = some c := by rw [hc', Option.some_or] at f0; rw [hc', ← f0, hc]
  have lb : lst b = some d := by rw [hd', Option.some_or] at l0; rw [hd', ← l0, hd]
  have pax : padF ax = padO (some c) (some 120) := by
    rw [padF_padO, ← e1, fst_app, lst_app, fa]; rfl
  have pxb : padF xb = padO (some 120) (some d) := by
    rw [padF_padO, ← e2, fst_app, lst_app, lb]; rfl
  cases hp : (c == 32 || c == 9) with
  | true =>
    rw [hp] at i0
    exact cut_xF a b s ax xb ha hb e0 hs p0 ae be e1 e2 h1 h2 z0 (by rw [ps, pax]; exact (padO_F hp _).1) i0 (by rw [pax]; exact (padO_F hp none).2) w
  | false =>
    rw [hp] at i0
    have hx : (padF ax).toList.isEmpty = true := by rw [pax]; exact padO_N hp rfl
    have pe : padF s = padF xb := by rw [ps, pxb, padO_no hp, padO_no (c := 120) rfl]
    cases hq : (d == 32 || d == 9) with
    | true =>
      rw [hq] at i1
      exact cut_xL a b s ax xb ha hb e0 hs p0 ae be e1 e2 h1 h2 hx z0 pe i0 i1 (by rw [← pe, ps]; exact padO_L hp hq) w
    | false =>
      rw [hq] at i1
      exact cut_xN a b s ax xb ha hb e0 hs p0 ae be e1 e2 h1 h2 hx z0 pe i0 i1 (by rw [← pe, ps]; exact padO_N hp hq) w

theorem walk (a0 : ByteArray) (a1 : ByteArray) (w0 : a0.size ≤ maxLen) (w1 : a1.size ≤ maxLen) (w : World) :
    Calls Try.prog 3 #[.string a0, .string a1] w fun e w' => e = .returned (.bool true) ∧ Grown w w' := by
  suffices hx : Calls Try.prog 3 #[.string a0, .string a1] w fun e w' => e = .returned (.bool true) ∧ w' = w by
    refine hx.mono ?_
    rintro e w' ⟨he, hw⟩
    exact ⟨he, by rw [hw]; exact Grown.refl _⟩
  by_cases g : 1048576 < a0.size + a1.size
  · exact long a0 a1 g w
  by_cases ga : 524288 < a0.size
  · exact long_a a0 a1 (by omega) ga w
  by_cases gb : 524288 < a1.size
  · exact long_b a0 a1 (by omega) (by omega) gb w
  · exact core a0 a1 (by omega) (by omega) w

/-! ### THE ROW's STEP: WRITTEN OUT: LEAVE IT -/
set_option maxRecDepth 100000 in
theorem lifted (os : Os) (started : os.Started) (H : Type) (enc : TypeId × Value → H) :
    ReturnsInHanded {} Try.checked os 3 .any (Rows.fnPaddingAtAnyCutSpec.pre6 enc Try.prog Try.f3 Rows.fnPaddingAtAnyCutRow.domain false) (Rows.fnPaddingAtAnyCutSpec.post enc Try.prog Try.f3 false true false false) := by
  refine returnsInHanded_of_change (C := Try.checked) own started (by kernel_rfl) Try.func3
    (ChangeSpec.witness6 (enc := enc) (C := Try.checked) false ⟨#[], #[.string ByteArray.empty, .string ByteArray.empty], []⟩ 8 (by kernel_rfl) (by kernel_rfl) (by kernel_rfl) (by kernel_rfl)) ?_
  intro W base args ds gs before hval0 hW hcnd _
  have hval : ∀ (j : Nat) t v, Try.f3.params[j]? = some t → args[j]? = some v → Value.okWide Try.prog W .any base t v := hval0
  have hW' := hW
  obtain ⟨p, q, hA0, hV, rfl, hfz, hnd⟩ := hW
  have hA : DataW.TrodAll enc Try.prog W 0 (fun _ => true) true Try.f3.params.toList args.toList ds p := hA0
  rw [Try.params3] at hA hval
  obtain ⟨v0, vs0, d0, ds0, p0, q0, hargs, rfl, rfl, h0, r0⟩ := trodAll_cons hA
  obtain ⟨v1, vs1, d1, ds1, p1, q1, rfl, rfl, rfl, h1, r1⟩ := trodAll_cons r0
  obtain ⟨rfl, rfl, rfl⟩ := trodAll_nil r1
  obtain rfl : args = #[v0, v1] := by cases args; simp_all
  obtain ⟨rfl, rfl⟩ := trodVars_none hV
  obtain ⟨a0, rfl, rfl, rfl, w0⟩ := open_string Try.underlying9 (hval 0 9 v0 rfl rfl) h0
  obtain ⟨a1, rfl, rfl, rfl, w1⟩ := open_string Try.underlying9 (hval 1 9 v1 rfl rfl) h1
  clear hA0 hval0
  simp only [List.append_nil] at hW'
  refine (walk a0 a1 w0 w1 W).mono fun e W' ⟨he, hg⟩ => ?_
  subst he
  exact ⟨_, rfl, post_of_same (pa := []) (pv := []) hW' (fun _ _ _ => (trodAll_cons_mk (shut_bool Try.underlying4 _) trodAll_mk0)) (fun sp _ => (trodAll_cons_mk (shut_string Try.underlying9 w0) (trodAll_cons_mk (shut_string Try.underlying9 w1) trodAll_mk0))) (fun _ _ => rfl) rfl
    (hg.frame _) hg.2.1 (ok_one (by kernel_rfl) rfl (okWide_bool_mk Try.underlying4 _))⟩

theorem over : Rows.fnPaddingAtAnyCutRow.holds Try.pinned (OpenSpec.ofChange Rows.fnPaddingAtAnyCutSpec) :=
  OpenClaim.holds_of_wide 3 Try.f3 rfl rfl rfl rfl rfl rfl rfl ⟨rfl, rfl, rfl, rfl, rfl⟩ rfl rfl rfl rfl rfl (by kernel_rfl) Try.func3 (by kernel_rfl)
    (of_decide_eq_true (by kernel_rfl)) (by unfold Func.isWrapper; first | (rw [if_pos (by decide +kernel)]; kernel_rfl) | (rw [if_neg (by decide +kernel)]; exact ⟨rfl, rfl⟩))
    (fun os started H enc _ => lifted os started H enc)

/-- ████ THE STATEMENT ████ -/
theorem proved : Rows.FnPaddingAtAnyCutSaid :=
  over
end Go.Proofs.Qxb6618019a.fnPaddingAtAnyCut

namespace Go.Proofs.Qxb6618019a
theorem fnPaddingAtAnyCut_proved : Rows.FnPaddingAtAnyCutSaid := fnPaddingAtAnyCut.proved
end Go.Proofs.Qxb6618019a
