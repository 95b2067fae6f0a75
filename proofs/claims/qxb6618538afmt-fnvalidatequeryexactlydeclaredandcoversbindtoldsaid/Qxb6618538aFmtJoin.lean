/-
  strings.Join over at most two strings, from its laid contract.
-/
import Derived.Test.Qxb6618538aFmtShelf
import Derived.Test.Qxb6618538aFmtHeap
namespace Go.Proofs.Qxb6618538aFmt
open Go.RowKit
set_option linter.unusedVariables false

/-- the cells are n strings of at most 131073 bytes -/
def Strs (cs : Array Value) (n : Nat) : Prop := cs.size = n ∧ ∀ j, j < n → ∃ x : ByteArray, cs[j]? = some (.string x) ∧ x.size ≤ 131073

theorem Strs.set {cs : Array Value} {n : Nat} (h : Strs cs n) (k : Nat) (s : ByteArray) (hs : s.size ≤ 131073) : Strs (cs.setIfInBounds k (.string s)) n := by
  refine ⟨by simpa using h.1, fun j hj => ?_⟩
  by_cases e : k = j
  · subst e
    refine ⟨s, ?_, hs⟩
    rw [Array.getElem?_setIfInBounds_self_of_lt (by rw [h.1]; exact hj)]
  · rw [Array.getElem?_setIfInBounds_ne e]
    exact h.2 j hj

theorem Strs.list {cs : Array Value} : ∀ {n : Nat}, Strs cs n → ∃ xs : List ByteArray, xs.length = n ∧ (∀ x ∈ xs, x.size ≤ 131073) ∧ ∀ (j : Nat) x, xs[j]? = some x → cs[j]? = some (.string x) := by
  intro n h
  have key : ∀ m, m ≤ n → ∃ xs : List ByteArray, xs.length = m ∧ (∀ x ∈ xs, x.size ≤ 131073) ∧ ∀ (j : Nat) x, xs[j]? = some x → cs[j]? = some (.string x) := by
    intro m
    induction m with
    | zero => intro _; exact ⟨[], rfl, by simp, by simp⟩
    | succ m ih =>
      intro hm
      obtain ⟨xs, h1, h2, h3⟩ := ih (by omega)
      obtain ⟨x, hx, hxs⟩ := h.2 m (by omega)
      refine ⟨xs ++ [x], by simp [h1], ?_, ?_⟩
      · intro y hy
        rcases List.mem_append.1 hy with hy | hy
        · exact h2 y hy
        · simp at hy; subst hy; exact hxs
      · intro j y hj
        by_cases e : j < m
        · rw [List.getElem?_append_left (by omega)] at hj
          exact h3 j y hj
        · have e' : j = m := by
            have := (List.getElem?_eq_some_iff.1 hj).1
            simp [h1] at this
            omega
          subst e'
          rw [List.getElem?_append_right (by omega)] at hj
          simp [h1] at hj
          subst hj
          exact hx
  exact key n (Nat.le_refl _)

theorem join_any (ab n : Nat) (cs : Array Value) (w : World) (hr : rowAt w ab 9 cs) (hs : Strs cs n) (hn : n ≤ 2) :
    Calls Tryf.prog 26 #[.slice (some ⟨ab, 0, none⟩) n n, .string ⟨#[32, 124, 32]⟩] w fun e w' => (∃ s : ByteArray, e = .returned (.string s)) ∧ Below w.heap.size w w' := by
  obtain ⟨xs, h1, h2, h3⟩ := hs.list
  have hlen : (Lib.join (xs.map (·.data.toList)) (⟨#[32, 124, 32]⟩ : ByteArray).data.toList).length ≤ 140737488355328 := by
    have e : ∀ x : ByteArray, x.data.toList.length = x.size := fun x => Array.length_toList
    match xs, h1, h2 with
    | [], _, _ => exact Nat.zero_le _
    | [x], _, h2 =>
      have a := h2 x (List.mem_cons_self)
      rw [List.map_cons, List.map_nil, Lib.join_one, e]
      omega
    | [x, y], _, h2 =>
      have a := h2 x (List.mem_cons_self)
      have b := h2 y (List.mem_cons_of_mem _ List.mem_cons_self)
      rw [List.map_cons, List.map_cons, List.map_nil, Lib.join_cons, Lib.joinTail, List.length_append, e]
      have e3 : ((List.map (fun z => (⟨#[32, 124, 32]⟩ : ByteArray).data.toList ++ z) [y.data.toList]).flatten).length = 3 + y.size := by
        rw [List.map_cons, List.map_nil, List.flatten_cons, List.flatten_nil, List.append_nil, List.length_append, e y]
        rfl
      have e4 := e3
      omega
    | _ :: _ :: _ :: _, h, _ => simp at h; omega
  have J := Tryf.strings_Join ab 0 n xs ⟨#[32, 124, 32]⟩ w (fun j x hj => by rw [Nat.zero_add, hr.cell j]; exact h3 j x hj) hr.lt (by omega) (by omega) hlen
  rw [h1] at J
  refine J.mono ?_
  rintro e w' ⟨he, hb⟩
  exact ⟨⟨_, he⟩, hb⟩
end Go.Proofs.Qxb6618538aFmt
