/-
  padding (12), ZZpadding (7), isPadByteB1 (8), the two bounds on lengths (6, 9).
-/
import Derived.Test.Qxb6618019aRows
import Derived.WalkKit
import Derived.ProofKit
import Derived.OpenShut
import Derived.WalkSpells
import Derived.WalkLawsBesides
namespace Go.Proofs.Qxb6618019a.Pad
open Go.ChangeShapes Go.WideShapes Go.ChangeAt Go.RowKit
set_option linter.unusedVariables false

/-- the first byte, the last byte -/
def fst (s : ByteArray) : Option UInt8 := s.data.toList.head?
def lst (s : ByteArray) : Option UInt8 := s.data.toList.getLast?

theorem fst_at {s : ByteArray} {c : UInt8} (h : fst s = some c) : ∃ h0 : 0 < s.size, (s[0]'h0).toNat = c.toNat := by
  obtain ⟨⟨l⟩⟩ := s
  cases l with
  | nil => simp [fst] at h
  | cons x xs =>
    simp only [fst, List.head?_cons, Option.some.injEq] at h
    subst h
    exact ⟨by simp [ByteArray.size], rfl⟩
theorem lst_at {s : ByteArray} {c : UInt8} (h : lst s = some c) : ∃ h0 : s.size - 1 < s.size, (s[s.size - 1]'h0).toNat = c.toNat := by
  obtain ⟨⟨l⟩⟩ := s
  cases l with
  | nil => simp [lst] at h
  | cons x xs =>
    refine ⟨by simp [ByteArray.size], ?_⟩
    rw [lst, List.getLast?_eq_getElem?, List.getElem?_eq_getElem (by simp), Option.some.injEq] at h
    have e : (ByteArray.mk (List.toArray (x :: xs)))[(ByteArray.mk (List.toArray (x :: xs))).size - 1]'(by simp [ByteArray.size]) = c := h
    rw [e]

set_option maxHeartbeats 400000 in
theorem pad_e (s : ByteArray) (h : s.size = 0) (w : World) :
    Calls Try.prog 12 #[.string s] w fun e w' => e = .returned (.string ⟨#[]⟩) ∧ w' = w := by
  go_enter Try.func12, Try.ntmps12
  go_wp2
  go_ret
  exact ⟨rfl, rfl⟩
theorem pad_bs (s : ByteArray) (hs : s.size ≤ maxLen) (h : fst s = some 32) (w : World) :
    Calls Try.prog 12 #[.string s] w fun e w' => e = .returned (.string ⟨#[98, 101, 103, 105, 110, 115, 32, 119, 105, 116, 104, 32, 97, 32, 115, 112, 97, 99, 101]⟩) ∧ w' = w := by
  unfold maxLen at hs
  obtain ⟨h0, h1⟩ := fst_at h
  have b0 : ((s.size : Int) == 0) = false := beq_eq_false_iff_ne.2 (by omega)
  have b1 : ((s[0].toNat : Int) == 32) = true := by rw [h1]; rfl
  clear h h1
  go_enter Try.func12, Try.ntmps12
  go_wp2
  go_ret
  exact ⟨rfl, rfl⟩
theorem pad_bt (s : ByteArray) (hs : s.size ≤ maxLen) (h : fst s = some 9) (w : World) :
    Calls Try.prog 12 #[.string s] w fun e w' => e = .returned (.string ⟨#[98, 101, 103, 105, 110, 115, 32, 119, 105, 116, 104, 32, 97, 32, 116, 97, 98]⟩) ∧ w' = w := by
  unfold maxLen at hs
  obtain ⟨h0, h1⟩ := fst_at h
  have b0 : ((s.size : Int) == 0) = false := beq_eq_false_iff_ne.2 (by omega)
  have b1 : ((s[0].toNat : Int) == 32) = false := by rw [h1]; rfl
  have b2 : ((s[0].toNat : Int) == 9) = true := by rw [h1]; rfl
  clear h h1
  go_enter Try.func12, Try.ntmps12
  go_wp2
  go_ret
  exact ⟨rfl, rfl⟩
theorem byte_ne {c d : UInt8} (h : c ≠ d) : ((c.toNat : Int) == (d.toNat : Int)) = false :=
  beq_eq_false_iff_ne.2 fun e => h (UInt8.toNat_inj.1 (by omega))
theorem pad_es (s : ByteArray) (hs : s.size ≤ maxLen) (c : UInt8) (h : fst s = some c) (n1 : c ≠ 32) (n2 : c ≠ 9) (g : lst s = some 32) (w : World) :
    Calls Try.prog 12 #[.string s] w fun e w' => e = .returned (.string ⟨#[101, 110, 100, 115, 32, 119, 105, 116, 104, 32, 97, 32, 115, 112, 97, 99, 101]⟩) ∧ w' = w := by
  unfold maxLen at hs
  obtain ⟨h0, h1⟩ := fst_at h
  obtain ⟨g0, g1⟩ := lst_at g
  have b0 : ((s.size : Int) == 0) = false := beq_eq_false_iff_ne.2 (by omega)
  have b1 : ((s[0].toNat : Int) == 32) = false := by rw [h1]; exact byte_ne n1
  have b2 : ((s[0].toNat : Int) == 9) = false := by rw [h1]; exact byte_ne n2
  have b3 : ((s[s.size - 1].toNat : Int) == 32) = true := by rw [g1]; rfl
  clear h h1 g g1 n1 n2
  go_enter Try.func12, Try.ntmps12
  go_wp2
  go_ret
  exact ⟨rfl, rfl⟩
theorem pad_et (s : ByteArray) (hs : s.size ≤ maxLen) (c : UInt8) (h : fst s = some c) (n1 : c ≠ 32) (n2 : c ≠ 9) (g : lst s = some 9) (w : World) :
    Calls Try.prog 12 #[.string s] w fun e w' => e = .returned (.string ⟨#[101, 110, 100, 115, 32, 119, 105, 116, 104, 32, 97, 32, 116, 97, 98]⟩) ∧ w' = w := by
  unfold maxLen at hs
  obtain ⟨h0, h1⟩ := fst_at h
  obtain ⟨g0, g1⟩ := lst_at g
  have b0 : ((s.size : Int) == 0) = false := beq_eq_false_iff_ne.2 (by omega)
  have b1 : ((s[0].toNat : Int) == 32) = false := by rw [h1]; exact byte_ne n1
  have b2 : ((s[0].toNat : Int) == 9) = false := by rw [h1]; exact byte_ne n2
  have b3 : ((s[s.size - 1].toNat : Int) == 32) = false := by rw [g1]; rfl
  have b4 : ((s[s.size - 1].toNat : Int) == 9) = true := by rw [g1]; rfl
  clear h h1 g g1 n1 n2
  go_enter Try.func12, Try.ntmps12
  go_wp2
  go_ret
  exact ⟨rfl, rfl⟩
theorem pad_no (s : ByteArray) (hs : s.size ≤ maxLen) (c d : UInt8) (h : fst s = some c) (n1 : c ≠ 32) (n2 : c ≠ 9) (g : lst s = some d) (m1 : d ≠ 32) (m2 : d ≠ 9) (w : World) :
    Calls Try.prog 12 #[.string s] w fun e w' => e = .returned (.string ⟨#[]⟩) ∧ w' = w := by
  unfold maxLen at hs
  obtain ⟨h0, h1⟩ := fst_at h
  obtain ⟨g0, g1⟩ := lst_at g
  have b0 : ((s.size : Int) == 0) = false := beq_eq_false_iff_ne.2 (by omega)
  have b1 : ((s[0].toNat : Int) == 32) = false := by rw [h1]; exact byte_ne n1
  have b2 : ((s[0].toNat : Int) == 9) = false := by rw [h1]; exact byte_ne n2
  have b3 : ((s[s.size - 1].toNat : Int) == 32) = false := by rw [g1]; exact byte_ne m1
  have b4 : ((s[s.size - 1].toNat : Int) == 9) = false := by rw [g1]; exact byte_ne m2
  clear h h1 g g1 n1 n2 m1 m2
  go_enter Try.func12, Try.ntmps12
  go_wp2
  go_ret
  exact ⟨rfl, rfl⟩

/-- WHAT padding GIVES, as a plain function -/
def padF (s : ByteArray) : ByteArray :=
  if s.size = 0 then ⟨#[]⟩
  else if fst s = some 32 then ⟨#[98, 101, 103, 105, 110, 115, 32, 119, 105, 116, 104, 32, 97, 32, 115, 112, 97, 99, 101]⟩
  else if fst s = some 9 then ⟨#[98, 101, 103, 105, 110, 115, 32, 119, 105, 116, 104, 32, 97, 32, 116, 97, 98]⟩
  else if lst s = some 32 then ⟨#[101, 110, 100, 115, 32, 119, 105, 116, 104, 32, 97, 32, 115, 112, 97, 99, 101]⟩
  else if lst s = some 9 then ⟨#[101, 110, 100, 115, 32, 119, 105, 116, 104, 32, 97, 32, 116, 97, 98]⟩
  else ⟨#[]⟩

theorem fst_some {s : ByteArray} (h : s.size ≠ 0) : ∃ c, fst s = some c := by
  obtain ⟨⟨l⟩⟩ := s
  cases l with
  | nil => exact absurd rfl h
  | cons x xs => exact ⟨x, rfl⟩
theorem lst_some {s : ByteArray} (h : s.size ≠ 0) : ∃ c, lst s = some c := by
  obtain ⟨⟨l⟩⟩ := s
  cases l with
  | nil => exact absurd rfl h
  | cons x xs => exact ⟨_, List.getLast?_cons⟩

theorem pad_any (s : ByteArray) (hs : s.size ≤ maxLen) (w : World) :
    Calls Try.prog 12 #[.string s] w fun e w' => e = .returned (.string (padF s)) ∧ w' = w := by
  unfold padF
  by_cases h : s.size = 0
  · rw [if_pos h]; exact pad_e s h w
  rw [if_neg h]
  obtain ⟨c, hc⟩ := fst_some h
  obtain ⟨d, hd⟩ := lst_some h
  by_cases c1 : fst s = some 32
  · rw [if_pos c1]; exact pad_bs s hs c1 w
  by_cases c2 : fst s = some 9
  · rw [if_neg c1, if_pos c2]; exact pad_bt s hs c2 w
  have n1 : c ≠ 32 := fun e => c1 (by rw [hc, e])
  have n2 : c ≠ 9 := fun e => c2 (by rw [hc, e])
  rw [if_neg c1, if_neg c2]
  by_cases d1 : lst s = some 32
  · rw [if_pos d1]; exact pad_es s hs c hc n1 n2 d1 w
  by_cases d2 : lst s = some 9
  · rw [if_neg d1, if_pos d2]; exact pad_et s hs c hc n1 n2 d2 w
  have m1 : d ≠ 32 := fun e => d1 (by rw [hd, e])
  have m2 : d ≠ 9 := fun e => d2 (by rw [hd, e])
  rw [if_neg d1, if_neg d2]
  exact pad_no s hs c d hc n1 n2 hd m1 m2 w

theorem zzpad_any (s : ByteArray) (hs : s.size ≤ maxLen) (w : World) :
    Calls Try.prog 7 #[.string s] w fun e w' => e = .returned (.string (padF s)) ∧ w' = w := by
  go_enter Try.func7, Try.ntmps7
  go_wp2_with (go_at_call 12; refine (pad_any s hs _).mono ?_; rintro e w' ⟨rfl, rfl⟩)
  go_ret
  exact ⟨rfl, rfl⟩

/-! ### isPadByteB1 -/
def isPad (c : Int) : Bool := c == 32 || c == 9
theorem isPad_any (c : Int) (w : World) :
    Calls Try.prog 8 #[.int .u8 c] w fun e w' => e = .returned (.bool (isPad c)) ∧ w' = w := by
  by_cases h : c = 32
  · have E : isPad c = true := by rw [h]; rfl
    rw [E]
    have b1 : (c == 32) = true := beq_iff_eq.2 h
    clear h
    go_enter Try.func8, Try.ntmps8
    go_wp2
    go_ret
    exact ⟨rfl, rfl⟩
  · have b1 : (c == 32) = false := beq_eq_false_iff_ne.2 h
    have E : isPad c = (c == 9) := by unfold isPad; rw [b1]; rfl
    rw [E]
    clear h
    go_enter Try.func8, Try.ntmps8
    go_wp2
    go_ret
    exact ⟨rfl, rfl⟩

/-! ### the bounds on lengths -/
theorem bytes6_yes (a b : ByteArray) (h : a.size + b.size ≤ 1048576) (w : World) :
    Calls Try.prog 6 #[.string a, .string b] w fun e w' => e = .returned (.bool true) ∧ w' = w := by
  go_enter Try.func6, Try.ntmps6
  go_wp2
  go_ret
  exact ⟨rfl, rfl⟩
theorem bytes6_no (a b : ByteArray) (h : 1048576 < a.size + b.size) (w : World) :
    Calls Try.prog 6 #[.string a, .string b] w fun e w' => e = .returned (.bool false) ∧ w' = w := by
  by_cases h1 : 1048576 < a.size
  · go_enter Try.func6, Try.ntmps6
    go_wp2
    go_ret
    exact ⟨rfl, rfl⟩
  by_cases h2 : 1048576 < b.size
  · go_enter Try.func6, Try.ntmps6
    go_wp2
    go_ret
    exact ⟨rfl, rfl⟩
  · go_enter Try.func6, Try.ntmps6
    go_wp2
    go_ret
    exact ⟨rfl, rfl⟩
theorem bytes9_yes (a : ByteArray) (h : a.size ≤ 1048576) (w : World) :
    Calls Try.prog 9 #[.string a] w fun e w' => e = .returned (.bool true) ∧ w' = w := by
  go_enter Try.func9, Try.ntmps9
  go_wp2
  go_ret
  exact ⟨rfl, rfl⟩
theorem bytes9_no (a : ByteArray) (h : 1048576 < a.size) (w : World) :
    Calls Try.prog 9 #[.string a] w fun e w' => e = .returned (.bool false) ∧ w' = w := by
  go_enter Try.func9, Try.ntmps9
  go_wp2
  go_ret
  exact ⟨rfl, rfl⟩
end Go.Proofs.Qxb6618019a.Pad
