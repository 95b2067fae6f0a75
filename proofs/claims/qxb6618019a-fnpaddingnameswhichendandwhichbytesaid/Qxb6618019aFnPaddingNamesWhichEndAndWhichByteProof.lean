/-
  A PROOF OF 'Rows.FnPaddingNamesWhichEndAndWhichByteSaid': the program-written frame (proof-skeleton.mjs) with the walk filled in.
-/
import Derived.Test.Qxb6618019aRows
import Derived.WalkKit
import Derived.ProofKit
import Derived.OpenShut
import Derived.ShutString
import Derived.Test.Qxb6618019aNames
namespace Go.Proofs.Qxb6618019a.fnPaddingNamesWhichEndAndWhichByte
open Go.ChangeShapes Go.WideShapes Go.ChangeAt Go.RowKit
open Go.ChangeMaps (open_string shut_string)
set_option linter.unusedVariables false      -- a walk need not use every 'w<i>' (that an integer argument fits its kind)

theorem own : ownKnob Try.prog.godebug = none := by kernel_rfl

open Pad Names

/-! ### THE PLAIN LAW -/
def padO (f l : Option UInt8) : ByteArray :=
  if f = none then ⟨#[]⟩
  else if f = some 32 then ⟨#[98, 101, 103, 105, 110, 115, 32, 119, 105, 116, 104, 32, 97, 32, 115, 112, 97, 99, 101]⟩
  else if f = some 9 then ⟨#[98, 101, 103, 105, 110, 115, 32, 119, 105, 116, 104, 32, 97, 32, 116, 97, 98]⟩
  else if l = some 32 then ⟨#[101, 110, 100, 115, 32, 119, 105, 116, 104, 32, 97, 32, 115, 112, 97, 99, 101]⟩
  else if l = some 9 then ⟨#[101, 110, 100, 115, 32, 119, 105, 116, 104, 32, 97, 32, 116, 97, 98]⟩
  else ⟨#[]⟩
theorem fst_none (s : ByteArray) : fst s = none ↔ s.size = 0 := by
  obtain ⟨⟨l⟩⟩ := s
  cases l <;> simp [fst, ByteArray.size]
theorem padF_padO (s : ByteArray) : padF s = padO (fst s) (lst s) := by
  unfold padF padO
  by_cases h : s.size = 0
  · rw [if_pos h, if_pos ((fst_none s).2 h)]
  · rw [if_neg h, if_neg (fun g => h ((fst_none s).1 g))]
theorem fst_app (a b : ByteArray) : fst (a ++ b) = (fst a).or (fst b) := by
  unfold fst; rw [ByteArray.data_append, Array.toList_append, List.head?_append]
theorem lst_app (a b : ByteArray) : lst (a ++ b) = (lst b).or (lst a) := by
  unfold lst; rw [ByteArray.data_append, Array.toList_append, List.getLast?_append]
theorem isPad_of {c : UInt8} {n : Nat} (h : n = c.toNat) : isPad (n : Int) = (c == 32 || c == 9) := by
  subst h
  have e : ∀ d : UInt8, ((c.toNat : Int) == (d.toNat : Int)) = (c == d) := fun d => by
    rw [Bool.eq_iff_iff, beq_iff_eq, beq_iff_eq]; exact ⟨fun h => UInt8.toNat_inj.1 (by omega), fun h => by rw [h]⟩
  exact congr (congrArg or (e 32)) (e 9)
theorem padO_no {c : UInt8} (h : (c == 32 || c == 9) = false) (l : Option UInt8) :
    padO (some c) l = if l = some 32 then ⟨#[101, 110, 100, 115, 32, 119, 105, 116, 104, 32, 97, 32, 115, 112, 97, 99, 101]⟩ else if l = some 9 then ⟨#[101, 110, 100, 115, 32, 119, 105, 116, 104, 32, 97, 32, 116, 97, 98]⟩ else ⟨#[]⟩ := by
  have : c ≠ 32 ∧ c ≠ 9 := by simpa using h
  unfold padO
  rw [if_neg (by simp), if_neg (by simp [this.1]), if_neg (by simp [this.2])]

theorem pre (c : UInt8) (s : ByteArray) : padF (⟨#[c]⟩ ++ s) = padO (some c) ((lst s).or (some c)) := by
  rw [padF_padO, fst_app, lst_app]; rfl
theorem post (c : UInt8) (s : ByteArray) : padF (s ++ ⟨#[c]⟩) = padO ((fst s).or (some c)) (some c) := by
  rw [padF_padO, fst_app, lst_app]; rfl

/-! ### STEP 1: THE WALK: the ways of Names joined -/
theorem core (s : ByteArray) (hs : s.size < 1048576) (w : World) :
    Calls Try.prog 4 #[.string s] w fun e w' => e = .returned (.bool true) ∧ w' = w := by
  have q1 := pre 32 s
  have q2 := pre 9 s
  have q3 := post 32 s
  have q4 := post 9 s
  by_cases z : s.size = 0
  · rw [(fst_none s).2 z] at q3 q4
    exact way_e s hs z q1 q2 q3 q4 w
  have p0 : 0 < s.size := by omega
  have z0 : ((s.size : Int) == 0) = false := beq_eq_false_iff_ne.2 (by omega)
  obtain ⟨c, hc⟩ := fst_some z
  obtain ⟨c0, c1⟩ := fst_at hc
  have i0 := isPad_of c1
  have ps : padF s = padO (some c) (lst s) := by rw [padF_padO, hc]
  rw [hc, Option.some_or] at q3 q4
  by_cases e1 : c = 32
  · subst e1
    exact way_s s hs p0 z0 i0 (by rw [c1]; rfl) (by rw [c1]; rfl) ps q1 q2 q3 q4 w
  by_cases e2 : c = 9
  · subst e2
    exact way_t s hs p0 z0 i0 (by rw [c1]; rfl) (by rw [c1]; rfl) ps q1 q2 q3 q4 w
  have hp : (c == 32 || c == 9) = false := by rw [beq_eq_false_iff_ne.2 e1, beq_eq_false_iff_ne.2 e2]; rfl
  rw [hp] at i0
  rw [padO_no hp] at q3 q4
  exact way_o s hs p0 z0 i0 (by rw [c1]; exact byte_ne e1) (by rw [c1]; exact byte_ne e2) q1 q2 q3 q4 w

theorem walk (a0 : ByteArray) (w0 : a0.size ≤ maxLen) (w : World) :
    Calls Try.prog 4 #[.string a0] w fun e w' => e = .returned (.bool true) ∧ Grown w w' := by
  suffices hx : Calls Try.prog 4 #[.string a0] w fun e w' => e = .returned (.bool true) ∧ w' = w by
    refine hx.mono ?_
    rintro e w' ⟨he, hw⟩
    exact ⟨he, by rw [hw]; exact Grown.refl _⟩
  by_cases g : 1048576 < a0.size
  · exact long a0 g w
  by_cases g' : 1048576 ≤ a0.size
  · exact brim a0 (by omega) g' w
  · exact core a0 (by omega) w

/-! ### THE ROW's STEP: WRITTEN OUT: LEAVE IT -/
set_option maxRecDepth 100000 in
theorem lifted (os : Os) (started : os.Started) (H : Type) (enc : TypeId × Value → H) :
    ReturnsInHanded {} Try.checked os 4 .any (Rows.fnPaddingNamesWhichEndAndWhichByteSpec.pre6 enc Try.prog Try.f4 Rows.fnPaddingNamesWhichEndAndWhichByteRow.domain false) (Rows.fnPaddingNamesWhichEndAndWhichByteSpec.post enc Try.prog Try.f4 false true false false) := by
  refine returnsInHanded_of_change (C := Try.checked) own started (by kernel_rfl) Try.func4
    (ChangeSpec.witness6 (enc := enc) (C := Try.checked) false ⟨#[], #[.string ByteArray.empty], []⟩ 8 (by kernel_rfl) (by kernel_rfl) (by kernel_rfl) (by kernel_rfl)) ?_
  intro W base args ds gs before hval0 hW hcnd _
  have hval : ∀ (j : Nat) t v, Try.f4.params[j]? = some t → args[j]? = some v → Value.okWide Try.prog W .any base t v := hval0
  have hW' := hW
  obtain ⟨p, q, hA0, hV, rfl, hfz, hnd⟩ := hW
  have hA : DataW.TrodAll enc Try.prog W 0 (fun _ => true) true Try.f4.params.toList args.toList ds p := hA0
  rw [Try.params4] at hA hval
  obtain ⟨v0, vs0, d0, ds0, p0, q0, hargs, rfl, rfl, h0, r0⟩ := trodAll_cons hA
  obtain ⟨rfl, rfl, rfl⟩ := trodAll_nil r0
  obtain rfl : args = #[v0] := by cases args; simp_all
  obtain ⟨rfl, rfl⟩ := trodVars_none hV
  obtain ⟨a0, rfl, rfl, rfl, w0⟩ := open_string Try.underlying9 (hval 0 9 v0 rfl rfl) h0
  clear hA0 hval0
  simp only [List.append_nil] at hW'
  refine (walk a0 w0 W).mono fun e W' ⟨he, hg⟩ => ?_
  subst he
  exact ⟨_, rfl, post_of_same (pa := []) (pv := []) hW' (fun _ _ _ => (trodAll_cons_mk (shut_bool Try.underlying4 _) trodAll_mk0)) (fun sp _ => (trodAll_cons_mk (shut_string Try.underlying9 w0) trodAll_mk0)) (fun _ _ => rfl) rfl
    (hg.frame _) hg.2.1 (ok_one (by kernel_rfl) rfl (okWide_bool_mk Try.underlying4 _))⟩

theorem over : Rows.fnPaddingNamesWhichEndAndWhichByteRow.holds Try.pinned (OpenSpec.ofChange Rows.fnPaddingNamesWhichEndAndWhichByteSpec) :=
  OpenClaim.holds_of_wide 4 Try.f4 rfl rfl rfl rfl rfl rfl rfl ⟨rfl, rfl, rfl, rfl, rfl⟩ rfl rfl rfl rfl rfl (by kernel_rfl) Try.func4 (by kernel_rfl)
    (of_decide_eq_true (by kernel_rfl)) (by unfold Func.isWrapper; first | (rw [if_pos (by decide +kernel)]; kernel_rfl) | (rw [if_neg (by decide +kernel)]; exact ⟨rfl, rfl⟩))
    (fun os started H enc _ => lifted os started H enc)

/-- ████ THE STATEMENT ████ -/
theorem proved : Rows.FnPaddingNamesWhichEndAndWhichByteSaid :=
  over
end Go.Proofs.Qxb6618019a.fnPaddingNamesWhichEndAndWhichByte

namespace Go.Proofs.Qxb6618019a
theorem fnPaddingNamesWhichEndAndWhichByte_proved : Rows.FnPaddingNamesWhichEndAndWhichByteSaid := fnPaddingNamesWhichEndAndWhichByte.proved
end Go.Proofs.Qxb6618019a
