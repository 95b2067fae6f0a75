/-
  bind (21) over the schema, all ways joined.
-/
import Derived.Test.Qxb6618538aFmtBindHit
namespace Go.Proofs.Qxb6618538aFmt
open Go.RowKit Go.Extern.Stop Go.Stop Go.Extern
set_option linter.unusedVariables false

/-- a slice that owns at least one element lies in a block -/
theorem own_form {w : World} {base : Nat} {e : TypeId} {size n : Nat} {v : Value} {xs : List Value} (h : w.ownsRow base e size v (n + 1) xs) : ∃ g cap, v = .slice (some ⟨g, 0, none⟩) (n + 1) cap ∧ g < w.heap.size ∧ ∀ j u, xs[j]? = some u → w.cell? ⟨g, j, none⟩ = some u := by
  rcases h.2 with ⟨_, h0⟩ | ⟨g, cap, cur, rfl, hb, hg, _⟩
  · omega
  · refine ⟨g, cap, rfl, (Array.getElem?_eq_some_iff.1 hg).1, fun j u hj => ?_⟩
    have := h.cells (g := g) rfl j u hj
    have e : (⟨g, 0, none⟩ : Addr).add j = ⟨g, j, none⟩ := by unfold Addr.add; split <;> simp_all
    rw [e] at this
    exact this

section
variable {ta ra pa tb nb : ByteArray} {bs bm pA pB mA mB dR dP dN : Nat} {avR avN : Value}

/-- what bind comes to: a binding of strings and pointers, and: no error, where the law's 'want' holds; or an error -/
def BindPost (ta ra pa tb nb ot rel st : ByteArray) (w : World) (e : Ending) (w' : World) : Prop :=
  (∃ (s1 s2 s3 s4 : ByteArray) (p1 p2 p3 p4 : Option Addr) (er : Value), e = .returned (.tuple #[.agg #[.string s1, .string s2, .string s3, .string s4, .pointer p1, .pointer p2, .pointer p3, .pointer p4], er]) ∧
    ((er = .nilIface ∧ want ta ra pa tb nb ot rel st) ∨ ∃ a, er = .iface 85 (.pointer (some a)))) ∧ Below w.heap.size w w'

theorem BindPost.err {ot rel st : ByteArray} {w : World} : ∀ (e : Ending) (w' : World), ((∃ a, e = .returned (.tuple #[.agg noBind, .iface 85 (.pointer (some a))])) ∧ Below w.heap.size w w') → BindPost ta ra pa tb nb ot rel st w e w' := by
  rintro e w' ⟨⟨a, he⟩, hb⟩
  exact ⟨⟨⟨#[]⟩, ⟨#[]⟩, ⟨#[]⟩, ⟨#[]⟩, none, none, none, none, _, he, Or.inr ⟨a, rfl⟩⟩, hb⟩

theorem bind_any (F : Interp) (ot oi rel st si sn : ByteArray) (w : World) (hF : F.answers w.tape) (hab : ta ≠ tb) (hrp : ra ≠ pa) (S : Sch w ta ra pa tb nb bs bm pA pB mA mB dR dP dN avR avN)
    (z1 : ta.size ≤ 65536) (z2 : tb.size ≤ 65536) (z3 : nb.size ≤ 65536) (z4 : st.size ≤ 65536) (z5 : sn.size ≤ 65536) :
    Calls Tryf.prog 21 #[.pointer (some ⟨bs, 0, none⟩), .agg #[.string ot, .string oi, .string rel, .string st, .string si, .string sn]] w (BindPost ta ra pa tb nb ot rel st w) := by
  obtain ⟨tv, hs⟩ := S.s
  have zE : (⟨#[]⟩ : ByteArray).size ≤ 65536 := by decide
  by_cases e1 : ot = ta
  · subst e1
    obtain ⟨i, dv, hA⟩ := S.oA
    by_cases e2 : rel = ra
    · subst e2
      obtain ⟨di, hR⟩ := S.R
      obtain ⟨g, cap, rfl, hg, hc⟩ := own_form S.aR
      have hrow : ∀ j, j < 1 + 1 → w.cell? ⟨g, j * 4, none⟩ = some (.string ((fun _ => tb) j)) ∧ w.cell? ⟨g, j * 4 + 1, none⟩ = some (.string ((fun j => if j = 0 then ⟨#[]⟩ else nb) j)) ∧ w.cell? ⟨g, j * 4 + 2, none⟩ = some (.pointer ((fun _ => some ⟨pB, 0, none⟩) j)) ∧ w.cell? ⟨g, j * 4 + 3, none⟩ = some (.pointer ((fun j => if j = 0 then none else some ⟨dN, 0, none⟩) j)) := by
        intro j hj
        match j, hj with
        | 0, _ => exact ⟨hc 0 _ rfl, hc 1 _ rfl, hc 2 _ rfl, hc 3 _ rfl⟩
        | 1, _ => exact ⟨hc 4 _ rfl, hc 5 _ rfl, hc 6 _ rfl, hc 7 _ rfl⟩
      by_cases m0 : st = tb ∧ sn = ⟨#[]⟩
      · refine (bind_hit bs bm pA mA dR g (1 + 1) cap tv i _ dv _ _ di _ _ _ _ _ _ _ (fun _ => tb) (fun j => if j = 0 then ⟨#[]⟩ else nb) (fun _ => some ⟨pB, 0, none⟩) (fun j => if j = 0 then none else some ⟨dN, 0, none⟩) ot rel ot oi rel st si sn 0 w hs S.m (find_hit1 _ _ _ _) hA S.mA (find_hit1 _ _ _ _) hR (by omega) hrow (fun j hj => by omega) hg (by omega) m0.1.symm m0.2.symm).mono ?_
        rintro e w' ⟨he, hb⟩
        exact ⟨⟨_, _, _, _, _, _, _, _, _, he, Or.inl ⟨rfl, Or.inl ⟨rfl, Or.inl rfl⟩, Or.inr m0.1⟩⟩, hb⟩
      by_cases m1 : st = tb ∧ sn = nb
      · refine (bind_hit bs bm pA mA dR g (1 + 1) cap tv i _ dv _ _ di _ _ _ _ _ _ _ (fun _ => tb) (fun j => if j = 0 then ⟨#[]⟩ else nb) (fun _ => some ⟨pB, 0, none⟩) (fun j => if j = 0 then none else some ⟨dN, 0, none⟩) ot rel ot oi rel st si sn 1 w hs S.m (find_hit1 _ _ _ _) hA S.mA (find_hit1 _ _ _ _) hR (by omega) hrow (fun j hj => by
          obtain rfl : j = 0 := by omega
          exact fun h => m0 ⟨h.1.symm, h.2.symm⟩) hg (by omega) m1.1.symm m1.2.symm).mono ?_
        rintro e w' ⟨he, hb⟩
        exact ⟨⟨_, _, _, _, _, _, _, _, _, he, Or.inl ⟨rfl, Or.inl ⟨rfl, Or.inl rfl⟩, Or.inr m1.1⟩⟩, hb⟩
      · exact (bind_none F bs bm pA mA dR g (1 + 1) cap tv i _ dv _ _ di _ _ _ _ _ _ _ (fun _ => tb) (fun j => if j = 0 then ⟨#[]⟩ else nb) (fun _ => some ⟨pB, 0, none⟩) (fun j => if j = 0 then none else some ⟨dN, 0, none⟩) ot rel ot oi rel st si sn w hF hs S.m (find_hit1 _ _ _ _) hA S.mA (find_hit1 _ _ _ _) hR (by omega) hrow (fun j hj => by
          match j, hj with
          | 0, _ => exact fun h => m0 ⟨h.1.symm, h.2.symm⟩
          | 1, _ => exact fun h => m1 ⟨h.1.symm, h.2.symm⟩) hg (fun j hj => ⟨z2, by
          match j, hj with
          | 0, _ => exact zE
          | 1, _ => exact z3⟩) z4 z5).mono BindPost.err
    by_cases e3 : rel = pa
    · subst e3
      obtain ⟨di, hP⟩ := S.P
      exact (bind_perm F bs bm pA mA dP tv i _ dv _ _ di _ _ _ _ _ _ _ _ ot rel ot oi rel st si sn w hF hs S.m (find_hit1 _ _ _ _) hA S.mA (by rw [find_skip _ _ _ _ _ e2, find_hit1]) hP).mono BindPost.err
    · exact (bind_noname F bs bm pA mA tv i _ dv _ _ _ _ ot ot oi rel st si sn w hF hs S.m (find_hit1 _ _ _ _) hA S.mA (types_find _ _ _ _ _ e2 e3)).mono BindPost.err
  by_cases e1' : ot = tb
  · subst e1'
    obtain ⟨i, dv, hB⟩ := S.oB
    by_cases e2 : rel = nb
    · subst e2
      obtain ⟨di, hN⟩ := S.N
      obtain ⟨g, cap, rfl, hg, hc⟩ := own_form S.aN
      have hrow : ∀ j, j < 0 + 1 → w.cell? ⟨g, j * 4, none⟩ = some (.string ((fun _ => ta) j)) ∧ w.cell? ⟨g, j * 4 + 1, none⟩ = some (.string ((fun _ => ⟨#[]⟩) j)) ∧ w.cell? ⟨g, j * 4 + 2, none⟩ = some (.pointer ((fun _ => some ⟨pA, 0, none⟩) j)) ∧ w.cell? ⟨g, j * 4 + 3, none⟩ = some (.pointer ((fun _ => none) j)) := by
        intro j hj
        match j, hj with
        | 0, _ => exact ⟨hc 0 _ rfl, hc 1 _ rfl, hc 2 _ rfl, hc 3 _ rfl⟩
      have hfb : findS (.pointer none) [(ta, .pointer (some ⟨pA, 0, none⟩)), (ot, .pointer (some ⟨pB, 0, none⟩))] ot = .pointer (some ⟨pB, 0, none⟩) := by rw [find_skip _ _ _ _ _ e1, find_hit1]
      by_cases m0 : st = ta ∧ sn = ⟨#[]⟩
      · refine (bind_hit bs bm pB mB dN g (0 + 1) cap tv i _ dv _ _ di _ _ _ _ _ _ _ (fun _ => ta) (fun _ => ⟨#[]⟩) (fun _ => some ⟨pA, 0, none⟩) (fun _ => none) ot rel ot oi rel st si sn 0 w hs S.m hfb hB S.mB (find_hit1 _ _ _ _) hN (by omega) hrow (fun j hj => by omega) hg (by omega) m0.1.symm m0.2.symm).mono ?_
        rintro e w' ⟨he, hb⟩
        exact ⟨⟨_, _, _, _, _, _, _, _, _, he, Or.inl ⟨rfl, Or.inr ⟨rfl, rfl⟩, Or.inl m0.1⟩⟩, hb⟩
      · exact (bind_none F bs bm pB mB dN g (0 + 1) cap tv i _ dv _ _ di _ _ _ _ _ _ _ (fun _ => ta) (fun _ => ⟨#[]⟩) (fun _ => some ⟨pA, 0, none⟩) (fun _ => none) ot rel ot oi rel st si sn w hF hs S.m hfb hB S.mB (find_hit1 _ _ _ _) hN (by omega) hrow (fun j hj => fun h => m0 ⟨h.1.symm, h.2.symm⟩) hg (fun j hj => ⟨z1, zE⟩) z4 z5).mono BindPost.err
    · exact (bind_noname F bs bm pB mB tv i _ dv _ _ _ _ ot ot oi rel st si sn w hF hs S.m (by rw [find_skip _ _ _ _ _ e1, find_hit1]) hB S.mB (by rw [find_skip _ _ _ _ _ e2, find_nil])).mono BindPost.err
  · exact (bind_notype F bs bm tv _ ot oi rel st si sn w hF hs S.m (types_find _ _ _ _ _ e1 e1')).mono BindPost.err
end
end Go.Proofs.Qxb6618538aFmt
