/-
  ValidateQuery (13) over the schema: nil exactly where the law says so.
-/
import Derived.Test.Qxb6618538aFmtAsk
namespace Go.Proofs.Qxb6618538aFmt
open Go.RowKit Go.Extern.Stop Go.Stop Go.Extern
set_option linter.unusedVariables false

/-- what the law expects of a query -/
def want (ta ra pa tb nb ot rel st : ByteArray) : Prop := ((ot = ta ∧ (rel = ra ∨ rel = pa)) ∨ (ot = tb ∧ rel = nb)) ∧ (st = ta ∨ st = tb)

theorem find_hit1 (z v : Value) (k : ByteArray) (r : List (ByteArray × Value)) : findS z ((k, v) :: r) k = v := by simp [findS]
theorem find_skip (z v : Value) (k k' : ByteArray) (r : List (ByteArray × Value)) (h : k ≠ k') : findS z ((k', v) :: r) k = findS z r k := by simp [findS, h]
theorem find_nil (z : Value) (k : ByteArray) : findS z [] k = z := rfl

theorem types_find (ta tb k : ByteArray) (a b : Value) (h : k ≠ ta) (h' : k ≠ tb) : findS (.pointer none) [(ta, a), (tb, b)] k = .pointer none := by
  rw [find_skip _ _ _ _ _ h, find_skip _ _ _ _ _ h', find_nil]
theorem types_hit (ta tb k : ByteArray) (a b : Addr) (h : k = ta ∨ k = tb) : ∃ q, findS (.pointer none) [(ta, .pointer (some a)), (tb, .pointer (some b))] k = .pointer (some q) := by
  by_cases e : k = ta
  · subst e; exact ⟨a, find_hit1 _ _ _ _⟩
  · have e2 : k = tb := h.resolve_left e
    subst e2
    exact ⟨b, by rw [find_skip _ _ _ _ _ e, find_hit1]⟩

section
variable {ta ra pa tb nb : ByteArray} {bs bm pA pB mA mB dR dP dN : Nat} {avR avN : Value}

theorem asked_yes (ot rel st : ByteArray) (w : World) (hab : ta ≠ tb) (hrp : ra ≠ pa) (S : Sch w ta ra pa tb nb bs bm pA pB mA mB dR dP dN avR avN) (hw : want ta ra pa tb nb ot rel st) :
    Calls Tryf.prog 22 #[.pointer (some ⟨bs, 0, none⟩), .string ot, .string rel, .string st] w fun e w' => (∃ v, e = .returned (.tuple #[v, .nilIface])) ∧ w' = w := by
  obtain ⟨tv, hs⟩ := S.s
  obtain ⟨h1, h2⟩ := hw
  obtain ⟨q, hq⟩ := types_hit ta tb st ⟨pA, 0, none⟩ ⟨pB, 0, none⟩ h2
  rcases h1 with ⟨rfl, hr⟩ | ⟨rfl, rfl⟩
  · obtain ⟨i, dv, hA⟩ := S.oA
    obtain ⟨d, hd⟩ := types_hit ra pa rel ⟨dR, 0, none⟩ ⟨dP, 0, none⟩ hr
    refine (asked_ok bs bm pA mA tv i i _ dv _ _ _ _ ot rel st ot d q w hs S.m (find_hit1 _ _ _ _) hA S.mA hd hq).mono ?_
    rintro e w' ⟨he, hw⟩
    exact ⟨⟨_, he⟩, hw⟩
  · obtain ⟨i, dv, hB⟩ := S.oB
    refine (asked_ok bs bm pB mB tv i i _ dv _ _ _ _ ot rel st ot _ q w hs S.m (by rw [find_skip _ _ _ _ _ hab.symm, find_hit1]) hB S.mB (find_hit1 _ _ _ _) hq).mono ?_
    rintro e w' ⟨he, hw⟩
    exact ⟨⟨_, he⟩, hw⟩

theorem asked_no (F : Interp) (ot rel st : ByteArray) (w : World) (hF : F.answers w.tape) (hab : ta ≠ tb) (hrp : ra ≠ pa) (S : Sch w ta ra pa tb nb bs bm pA pB mA mB dR dP dN avR avN) (hw : ¬ want ta ra pa tb nb ot rel st) :
    Calls Tryf.prog 22 #[.pointer (some ⟨bs, 0, none⟩), .string ot, .string rel, .string st] w fun e w' => (∃ v a, e = .returned (.tuple #[v, .iface 85 (.pointer (some a))])) ∧ Below w.heap.size w w' := by
  obtain ⟨tv, hs⟩ := S.s
  have fin : ∀ {C : Ending → World → Prop}, (∀ e w', ((∃ a, e = Ending.returned (.tuple #[.pointer none, .iface 85 (.pointer (some a))])) ∧ Below w.heap.size w w') → (∃ v a, e = Ending.returned (.tuple #[v, .iface 85 (.pointer (some a))])) ∧ Below w.heap.size w w') := by
    rintro C e w' ⟨⟨a, he⟩, hb⟩
    exact ⟨⟨_, a, he⟩, hb⟩
  by_cases e1 : ot = ta
  · subst e1
    obtain ⟨i, dv, hA⟩ := S.oA
    by_cases e2 : rel = ra ∨ rel = pa
    · have h2 : ¬ (st = ot ∨ st = tb) := fun h => hw ⟨Or.inl ⟨rfl, e2⟩, h⟩
      obtain ⟨d, hd⟩ := types_hit ra pa rel ⟨dR, 0, none⟩ ⟨dP, 0, none⟩ e2
      exact (asked_nosub F bs bm pA mA tv i i _ dv _ _ _ _ ot rel st ot d w hF hs S.m (find_hit1 _ _ _ _) hA S.mA hd (types_find _ _ _ _ _ (fun h => h2 (Or.inl h)) (fun h => h2 (Or.inr h)))).mono (fin (C := fun _ _ => True))
    · exact (asked_noname F bs bm pA mA tv i i _ dv _ _ _ _ ot rel st ot w hF hs S.m (find_hit1 _ _ _ _) hA S.mA (types_find _ _ _ _ _ (fun h => e2 (Or.inl h)) (fun h => e2 (Or.inr h)))).mono (fin (C := fun _ _ => True))
  by_cases e1' : ot = tb
  · subst e1'
    obtain ⟨i, dv, hB⟩ := S.oB
    by_cases e2 : rel = nb
    · subst e2
      have h2 : ¬ (st = ta ∨ st = ot) := fun h => hw ⟨Or.inr ⟨rfl, rfl⟩, h⟩
      exact (asked_nosub F bs bm pB mB tv i i _ dv _ _ _ _ ot rel st ot _ w hF hs S.m (by rw [find_skip _ _ _ _ _ e1, find_hit1]) hB S.mB (find_hit1 _ _ _ _) (types_find _ _ _ _ _ (fun h => h2 (Or.inl h)) (fun h => h2 (Or.inr h)))).mono (fin (C := fun _ _ => True))
    · exact (asked_noname F bs bm pB mB tv i i _ dv _ _ _ _ ot rel st ot w hF hs S.m (by rw [find_skip _ _ _ _ _ e1, find_hit1]) hB S.mB (by rw [find_skip _ _ _ _ _ e2, find_nil])).mono (fin (C := fun _ _ => True))
  · exact (asked_notype F bs bm tv _ ot rel st w hF hs S.m (types_find _ _ _ _ _ e1 e1')).mono (fin (C := fun _ _ => True))

/-! ### queryName (20), ValidateQuery (13) -/
set_option maxHeartbeats 800000 in
theorem query_yes (ot oi rel st si : ByteArray) (w : World) (hab : ta ≠ tb) (hrp : ra ≠ pa) (S : Sch w ta ra pa tb nb bs bm pA pB mA mB dR dP dN avR avN) (hw : want ta ra pa tb nb ot rel st) :
    Calls Tryf.prog 20 #[.pointer (some ⟨bs, 0, none⟩), .agg #[.string ot, .string oi, .string rel, .string st, .string si]] w fun e w' => (∃ v, e = .returned (.tuple #[v, .nilIface])) ∧ Below w.heap.size w w' := by
  go_enter Tryf.func20, Tryf.ntmps20
  go_wp2_with fail
  have S1 := S.below (w' := w.alloc (.cells #[.string ot, .string oi, .string rel, .string st, .string si] 35)) ((Below.refl _ w).alloc (Nat.le_refl _) _)
  refine (asked_yes ot rel st _ hab hrp S1 hw).mono ?_
  rintro e w1 ⟨⟨v, rfl⟩, hw1⟩
  have B1 : Below w.heap.size w w1 := by rw [hw1]; exact (Below.refl _ w).alloc (Nat.le_refl _) _
  clear hw1
  go_wp2
  go_ret2
  exact ⟨⟨v, rfl⟩, B1⟩
set_option maxHeartbeats 800000 in
theorem query_no (F : Interp) (ot oi rel st si : ByteArray) (w : World) (hF : F.answers w.tape) (hab : ta ≠ tb) (hrp : ra ≠ pa) (S : Sch w ta ra pa tb nb bs bm pA pB mA mB dR dP dN avR avN) (hw : ¬ want ta ra pa tb nb ot rel st) :
    Calls Tryf.prog 20 #[.pointer (some ⟨bs, 0, none⟩), .agg #[.string ot, .string oi, .string rel, .string st, .string si]] w fun e w' => (∃ v a, e = .returned (.tuple #[v, .iface 85 (.pointer (some a))])) ∧ Below w.heap.size w w' := by
  go_enter Tryf.func20, Tryf.ntmps20
  go_wp2_with fail
  have S1 := S.below (w' := w.alloc (.cells #[.string ot, .string oi, .string rel, .string st, .string si] 35)) ((Below.refl _ w).alloc (Nat.le_refl _) _)
  refine (asked_no F ot rel st _ (by exact hF) hab hrp S1 hw).mono ?_
  rintro e w1 ⟨⟨v, a, rfl⟩, hw1⟩
  have B1 : Below w.heap.size w w1 := ((Below.refl _ w).alloc (Nat.le_refl _) _).trans (hw1.mono (by simp))
  clear hw1
  go_wp2
  go_ret2
  exact ⟨⟨v, a, rfl⟩, B1⟩
set_option maxHeartbeats 800000 in
theorem validate_yes (ot oi rel st si : ByteArray) (w : World) (hab : ta ≠ tb) (hrp : ra ≠ pa) (S : Sch w ta ra pa tb nb bs bm pA pB mA mB dR dP dN avR avN) (hw : want ta ra pa tb nb ot rel st) :
    Calls Tryf.prog 13 #[.pointer (some ⟨bs, 0, none⟩), .agg #[.string ot, .string oi, .string rel, .string st, .string si]] w fun e w' => e = .returned .nilIface ∧ Below w.heap.size w w' := by
  go_enter Tryf.func13, Tryf.ntmps13
  go_wp2_with fail
  have S1 := S.below (w' := w.alloc (.cells #[.string ot, .string oi, .string rel, .string st, .string si] 35)) ((Below.refl _ w).alloc (Nat.le_refl _) _)
  refine (query_yes ot oi rel st si _ hab hrp S1 hw).mono ?_
  rintro e w1 ⟨⟨v, rfl⟩, hw1⟩
  have B1 : Below w.heap.size w w1 := ((Below.refl _ w).alloc (Nat.le_refl _) _).trans (hw1.mono (by simp))
  clear hw1
  go_wp2
  go_ret
  exact ⟨rfl, B1⟩
set_option maxHeartbeats 800000 in
theorem validate_no (F : Interp) (ot oi rel st si : ByteArray) (w : World) (hF : F.answers w.tape) (hab : ta ≠ tb) (hrp : ra ≠ pa) (S : Sch w ta ra pa tb nb bs bm pA pB mA mB dR dP dN avR avN) (hw : ¬ want ta ra pa tb nb ot rel st) :
    Calls Tryf.prog 13 #[.pointer (some ⟨bs, 0, none⟩), .agg #[.string ot, .string oi, .string rel, .string st, .string si]] w fun e w' => (∃ a, e = .returned (.iface 85 (.pointer (some a)))) ∧ Below w.heap.size w w' := by
  go_enter Tryf.func13, Tryf.ntmps13
  go_wp2_with fail
  have S1 := S.below (w' := w.alloc (.cells #[.string ot, .string oi, .string rel, .string st, .string si] 35)) ((Below.refl _ w).alloc (Nat.le_refl _) _)
  refine (query_no F ot oi rel st si _ (by exact hF) hab hrp S1 hw).mono ?_
  rintro e w1 ⟨⟨v, a, rfl⟩, hw1⟩
  have B1 : Below w.heap.size w w1 := ((Below.refl _ w).alloc (Nat.le_refl _) _).trans (hw1.mono (by simp))
  clear hw1
  go_wp2
  go_ret
  exact ⟨⟨a, rfl⟩, B1⟩
end
end Go.Proofs.Qxb6618538aFmt
