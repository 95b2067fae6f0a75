/-
  fmt.Errorf (24) at this dump's five formats: an error comes back that is not nil; nothing old has turned.
-/
import Derived.Test.Qxb6618538aFmtFacts
import Derived.WalkKit
import Derived.WalkSpells
import Derived.WalkLawsBesides
namespace Go.Proofs.Qxb6618538aFmt
open Go.RowKit Go.Extern.Stop Go.Stop Go.Extern
set_option linter.unusedVariables false

attribute [local go_sem] Tryf.call27 Tryf.guard Tryf.fmt1 Tryf.fmt1r Tryf.fmt2 Tryf.fmt2r Tryf.fmt3 Tryf.fmt3r Tryf.fmt4 Tryf.fmt4r Tryf.fmt5 Tryf.fmt5r Tryf.act9_113w Tryf.op9_113w Tryf.act9_115w Tryf.op9_115w Tryf.act67_115w Tryf.isString67 Tryf.str67 Tryf.str9 Tryf.ptr85 Tryf.elem85 Tryf.isError85

set_option maxHeartbeats 800000 in
theorem errf1 (F : Interp) (s : ByteArray) (blk : Nat) (w : World) (hF : F.answers w.tape)
    (hc0 : w.cell? ⟨blk, 0, none⟩ = some (.iface 9 (.string s))) :
    Calls Tryf.prog 24 #[.string ⟨#[116, 121, 112, 101, 32, 37, 113, 32, 105, 115, 32, 110, 111, 116, 32, 100, 101, 99, 108, 97, 114, 101, 100, 32, 105, 110, 32, 116, 104, 101, 32, 115, 99, 104, 101, 109, 97]⟩, .slice (some ⟨blk, 0, none⟩) 1 1] w fun e w' => (∃ a, e = .returned (.iface 85 (.pointer (some a)))) ∧ Below w.heap.size w w' := by
  have hF' := answers_open hF
  have hb : blk < w.heap.size := World.block_lt_of_cell? _ _ hc0
  go_enter Tryf.func24, Tryf.ntmps24
  go_wp2
  apply rows_value Tryf.nextTurns
  case hr =>
    go_simp
    exact ⟨rfl, rfl⟩
  case h =>
    go_wp2
    go_ret
    exact ⟨⟨_, rfl⟩, ((Below.refl _ _).alloc (Nat.le_refl _) _).drew⟩
set_option maxHeartbeats 800000 in
theorem errf2 (F : Interp) (s t : ByteArray) (blk : Nat) (w : World) (hF : F.answers w.tape)
    (hc0 : w.cell? ⟨blk, 0, none⟩ = some (.iface 9 (.string s))) (hc1 : w.cell? ⟨blk, 1, none⟩ = some (.iface 9 (.string t))) :
    Calls Tryf.prog 24 #[.string ⟨#[116, 121, 112, 101, 32, 37, 113, 32, 100, 101, 99, 108, 97, 114, 101, 115, 32, 110, 111, 32, 114, 101, 108, 97, 116, 105, 111, 110, 32, 111, 114, 32, 112, 101, 114, 109, 105, 115, 115, 105, 111, 110, 32, 37, 113]⟩, .slice (some ⟨blk, 0, none⟩) 2 2] w fun e w' => (∃ a, e = .returned (.iface 85 (.pointer (some a)))) ∧ Below w.heap.size w w' := by
  have hF' := answers_open hF
  have hb : blk < w.heap.size := World.block_lt_of_cell? _ _ hc0
  go_enter Tryf.func24, Tryf.ntmps24
  go_wp2
  apply rows_value Tryf.nextTurns
  case hr =>
    go_simp
    exact ⟨rfl, rfl⟩
  case h =>
    go_wp2
    go_ret
    exact ⟨⟨_, rfl⟩, ((Below.refl _ _).alloc (Nat.le_refl _) _).drew⟩
set_option maxHeartbeats 800000 in
theorem errf3 (F : Interp) (s t : ByteArray) (blk : Nat) (w : World) (hF : F.answers w.tape)
    (hc0 : w.cell? ⟨blk, 0, none⟩ = some (.iface 9 (.string s))) (hc1 : w.cell? ⟨blk, 1, none⟩ = some (.iface 9 (.string t))) :
    Calls Tryf.prog 24 #[.string ⟨#[116, 121, 112, 101, 32, 37, 113, 32, 100, 101, 99, 108, 97, 114, 101, 115, 32, 110, 111, 32, 114, 101, 108, 97, 116, 105, 111, 110, 32, 37, 113]⟩, .slice (some ⟨blk, 0, none⟩) 2 2] w fun e w' => (∃ a, e = .returned (.iface 85 (.pointer (some a)))) ∧ Below w.heap.size w w' := by
  have hF' := answers_open hF
  have hb : blk < w.heap.size := World.block_lt_of_cell? _ _ hc0
  go_enter Tryf.func24, Tryf.ntmps24
  go_wp2
  apply rows_value Tryf.nextTurns
  case hr =>
    go_simp
    exact ⟨rfl, rfl⟩
  case h =>
    go_wp2
    go_ret
    exact ⟨⟨_, rfl⟩, ((Below.refl _ _).alloc (Nat.le_refl _) _).drew⟩
set_option maxHeartbeats 800000 in
theorem errf4 (F : Interp) (s t : ByteArray) (blk : Nat) (w : World) (hF : F.answers w.tape)
    (hc0 : w.cell? ⟨blk, 0, none⟩ = some (.iface 9 (.string s))) (hc1 : w.cell? ⟨blk, 1, none⟩ = some (.iface 9 (.string t))) :
    Calls Tryf.prog 24 #[.string ⟨#[37, 113, 32, 105, 115, 32, 97, 32, 112, 101, 114, 109, 105, 115, 115, 105, 111, 110, 32, 111, 102, 32, 116, 121, 112, 101, 32, 37, 113, 44, 32, 97, 110, 100, 32, 111, 110, 108, 121, 32, 114, 101, 108, 97, 116, 105, 111, 110, 115, 32, 97, 114, 101, 32, 119, 114, 105, 116, 116, 101, 110]⟩, .slice (some ⟨blk, 0, none⟩) 2 2] w fun e w' => (∃ a, e = .returned (.iface 85 (.pointer (some a)))) ∧ Below w.heap.size w w' := by
  have hF' := answers_open hF
  have hb : blk < w.heap.size := World.block_lt_of_cell? _ _ hc0
  go_enter Tryf.func24, Tryf.ntmps24
  go_wp2
  apply rows_value Tryf.nextTurns
  case hr =>
    go_simp
    exact ⟨rfl, rfl⟩
  case h =>
    go_wp2
    go_ret
    exact ⟨⟨_, rfl⟩, ((Below.refl _ _).alloc (Nat.le_refl _) _).drew⟩

/-! ### (subjectForm).String (25) -/
set_option maxHeartbeats 400000 in
theorem form_plain (a b : ByteArray) (p q : Value) (hb : b.toList.isEmpty = true) (w : World) :
    Calls Tryf.prog 25 #[.agg #[.string a, .string b, p, q]] w fun e w' => (e = .returned (.string a)) ∧ w' = w.alloc (.cells #[.string a, .string b, p, q] 67) := by
  go_enter Tryf.func25, Tryf.ntmps25
  go_wp2
  go_ret
  exact ⟨rfl, rfl⟩
set_option maxHeartbeats 400000 in
theorem form_named (a b : ByteArray) (p q : Value) (hb : b.toList.isEmpty = false) (ha : a.size ≤ 65536) (hb1 : b.size ≤ 65536) (w : World) :
    Calls Tryf.prog 25 #[.agg #[.string a, .string b, p, q]] w fun e w' => (e = .returned (.string (a ++ ⟨#[35]⟩ ++ b))) ∧ w' = w.alloc (.cells #[.string a, .string b, p, q] 67) := by
  go_enter Tryf.func25, Tryf.ntmps25
  go_wp2
  go_ret
  exact ⟨rfl, rfl⟩
/-- whatever it gives: a string of at most 131073 bytes -/
theorem form_any (a b : ByteArray) (p q : Value) (ha : a.size ≤ 65536) (hb : b.size ≤ 65536) (w : World) :
    Calls Tryf.prog 25 #[.agg #[.string a, .string b, p, q]] w fun e w' => (∃ s : ByteArray, e = .returned (.string s) ∧ s.size ≤ 131073) ∧ w' = w.alloc (.cells #[.string a, .string b, p, q] 67) := by
  cases h : b.toList.isEmpty with
  | true =>
    refine (form_plain a b p q h w).mono ?_
    rintro e w' ⟨he, hw⟩
    exact ⟨⟨a, he, by omega⟩, hw⟩
  | false =>
    refine (form_named a b p q h ha hb w).mono ?_
    rintro e w' ⟨he, hw⟩
    refine ⟨⟨_, he, ?_⟩, hw⟩
    rw [ByteArray.size_append, ByteArray.size_append]
    show a.size + 1 + b.size ≤ _
    omega

set_option maxHeartbeats 1600000 in
theorem errf5 (F : Interp) (s t u a b : ByteArray) (p q : Value) (blk : Nat) (w : World) (hF : F.answers w.tape) (ha : a.size ≤ 65536) (hb5 : b.size ≤ 65536)
    (hc0 : w.cell? ⟨blk, 0, none⟩ = some (.iface 9 (.string s))) (hc1 : w.cell? ⟨blk, 1, none⟩ = some (.iface 9 (.string t)))
    (hc2 : w.cell? ⟨blk, 2, none⟩ = some (.iface 9 (.string u))) (hc3 : w.cell? ⟨blk, 3, none⟩ = some (.iface 67 (.agg #[.string a, .string b, p, q]))) :
    Calls Tryf.prog 24 #[.string ⟨#[114, 101, 108, 97, 116, 105, 111, 110, 32, 37, 113, 32, 111, 102, 32, 116, 121, 112, 101, 32, 37, 113, 32, 97, 108, 108, 111, 119, 115, 32, 37, 115, 44, 32, 110, 111, 116, 32, 37, 115]⟩, .slice (some ⟨blk, 0, none⟩) 4 4] w fun e w' => (∃ a, e = .returned (.iface 85 (.pointer (some a)))) ∧ Below w.heap.size w w' := by
  have hF' := answers_open hF
  have hb : blk < w.heap.size := World.block_lt_of_cell? _ _ hc0
  go_enter Tryf.func24, Tryf.ntmps24
  go_wp2
  apply rows_call Tryf.nextTurns
  case hr =>
    go_simp
    exact ⟨⟨rfl, rfl, rfl⟩, rfl⟩
  case hi => exact Tryf.invokeString67 _ _
  case hc =>
    refine (form_any a b p q ha hb5 _).mono ?_
    rintro e w₃ ⟨⟨x, he, hx⟩, hw⟩
    subst he
    have hbl : Below w.heap.size w w₃ := by rw [hw]; exact (Below.refl _ _).alloc (Nat.le_refl _) _
    clear hw
    have hF3 := answers_open (show F.answers w₃.tape by rw [hbl.tape]; exact hF)
    have hc03 : w₃.cell? ⟨blk, 0, none⟩ = some (.iface 9 (.string s)) := by rw [hbl.cell hb]; exact hc0
    have hc13 : w₃.cell? ⟨blk, 1, none⟩ = some (.iface 9 (.string t)) := by rw [hbl.cell hb]; exact hc1
    have hc23 : w₃.cell? ⟨blk, 2, none⟩ = some (.iface 9 (.string u)) := by rw [hbl.cell hb]; exact hc2
    have hc33 : w₃.cell? ⟨blk, 3, none⟩ = some (.iface 67 (.agg #[.string a, .string b, p, q])) := by rw [hbl.cell hb]; exact hc3
    apply rows_value Tryf.nextReturned
    case hr =>
      go_simp
      exact ⟨rfl, rfl⟩
    case h =>
      go_wp2
      go_ret
      exact ⟨⟨_, rfl⟩, (hbl.alloc hbl.size _).drew⟩
end Go.Proofs.Qxb6618538aFmt
