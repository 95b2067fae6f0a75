/-
  relB1 (9), the bound on lengths (12).
-/
import Derived.Test.Qxb6618538aFmtHeap
import Derived.Test.Qxb6618538aFmtRows
import Derived.WalkLawsBesides
namespace Go.Proofs.Qxb6618538aFmt
open Go.RowKit
set_option linter.unusedVariables false

theorem rel_any (ot oi rel st si sn : ByteArray) (w : World) :
    Calls Tryf.prog 9 #[.string ot, .string oi, .string rel, .string st, .string si, .string sn] w fun e w' => e = .returned (.agg #[.string ot, .string oi, .string rel, .string st, .string si, .string sn]) ∧ Below w.heap.size w w' := by
  go_enter Tryf.func9, Tryf.ntmps9
  go_wp2
  exact bodyPost_ret (v := .agg #[.string ot, .string oi, .string rel, .string st, .string si, .string sn]) (by simp [results, Tryf.results9, go_sem]) rfl ⟨rfl, (Below.refl _ w).alloc (Nat.le_refl _) _⟩

set_option maxRecDepth 100000 in
set_option maxHeartbeats 1600000 in
theorem bytes_any (a0 a1 a2 a3 a4 a5 a6 a7 a8 a9 a10 : ByteArray) (h0 : a0.size ≤ maxLen) (h1 : a1.size ≤ maxLen) (h2 : a2.size ≤ maxLen) (h3 : a3.size ≤ maxLen) (h4 : a4.size ≤ maxLen) (h5 : a5.size ≤ maxLen) (h6 : a6.size ≤ maxLen) (h7 : a7.size ≤ maxLen) (h8 : a8.size ≤ maxLen) (h9 : a9.size ≤ maxLen) (h10 : a10.size ≤ maxLen) (w : World) :
    Calls Tryf.prog 12 #[.string a0, .string a1, .string a2, .string a3, .string a4, .string a5, .string a6, .string a7, .string a8, .string a9, .string a10] w fun e w' => (∃ b : Bool, e = .returned (.bool b)) ∧ w' = w := by
  unfold maxLen at h0 h1 h2 h3 h4 h5 h6 h7 h8 h9 h10
  go_enter Tryf.func12, Tryf.ntmps12
  go_wp2
  all_goals
    go_ret
    exact ⟨⟨_, rfl⟩, rfl⟩
end Go.Proofs.Qxb6618538aFmt
