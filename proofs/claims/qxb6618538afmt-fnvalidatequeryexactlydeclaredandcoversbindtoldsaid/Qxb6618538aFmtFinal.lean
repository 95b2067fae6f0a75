/-
  THE STATEMENT 'Rows.FnValidateQueryExactlyDeclaredAndCoversBindToldSaid': the ways of the law joined, and the card.
-/
import Derived.Test.Qxb6618538aFmtTop
import Derived.Test.Qxb6618538aFmtEarly
import Derived.Test.Qxb6618538aFmtLaw0
import Derived.Test.Qxb6618538aFmtLaw1
import Derived.Test.Qxb6618538aFmtLaw2
namespace Go.Proofs.Qxb6618538aFmt
open Go.RowKit Go.Extern.Stop Go.Stop Go.Extern
set_option linter.unusedVariables false

theorem same_of {a b : ByteArray} (h : (a.toList == b.toList) = true) : a = b := by
  refine WideShapes.bytes_inj ?_
  rw [← ByteArray.toList_eq, ← ByteArray.toList_eq]
  exact beq_iff_eq.1 h
theorem ne_of {a b : ByteArray} (h : (a.toList == b.toList) = false) : a ≠ b := by
  rintro rfl
  rw [beq_self_eq_true] at h
  cases h

theorem walk : WalkSaid := by
  intro F ta ra pa tb nb ot oi rel st si sn h0 h1 h2 h3 h4 h5 h6 h7 h8 h9 h10 w hF
  by_cases g0 : 65536 < ta.size
  · exact long_0 ta ra pa tb nb ot oi rel st si sn h0 h1 h2 h3 h4 h5 h6 h7 h8 h9 h10  g0 w
  have l0 : ta.size ≤ 65536 := by omega
  by_cases g1 : 65536 < ra.size
  · exact long_1 ta ra pa tb nb ot oi rel st si sn h0 h1 h2 h3 h4 h5 h6 h7 h8 h9 h10 l0 g1 w
  have l1 : ra.size ≤ 65536 := by omega
  by_cases g2 : 65536 < pa.size
  · exact long_2 ta ra pa tb nb ot oi rel st si sn h0 h1 h2 h3 h4 h5 h6 h7 h8 h9 h10 l0 l1 g2 w
  have l2 : pa.size ≤ 65536 := by omega
  by_cases g3 : 65536 < tb.size
  · exact long_3 ta ra pa tb nb ot oi rel st si sn h0 h1 h2 h3 h4 h5 h6 h7 h8 h9 h10 l0 l1 l2 g3 w
  have l3 : tb.size ≤ 65536 := by omega
  by_cases g4 : 65536 < nb.size
  · exact long_4 ta ra pa tb nb ot oi rel st si sn h0 h1 h2 h3 h4 h5 h6 h7 h8 h9 h10 l0 l1 l2 l3 g4 w
  have l4 : nb.size ≤ 65536 := by omega
  by_cases g5 : 65536 < ot.size
  · exact long_5 ta ra pa tb nb ot oi rel st si sn h0 h1 h2 h3 h4 h5 h6 h7 h8 h9 h10 l0 l1 l2 l3 l4 g5 w
  have l5 : ot.size ≤ 65536 := by omega
  by_cases g6 : 65536 < oi.size
  · exact long_6 ta ra pa tb nb ot oi rel st si sn h0 h1 h2 h3 h4 h5 h6 h7 h8 h9 h10 l0 l1 l2 l3 l4 l5 g6 w
  have l6 : oi.size ≤ 65536 := by omega
  by_cases g7 : 65536 < rel.size
  · exact long_7 ta ra pa tb nb ot oi rel st si sn h0 h1 h2 h3 h4 h5 h6 h7 h8 h9 h10 l0 l1 l2 l3 l4 l5 l6 g7 w
  have l7 : rel.size ≤ 65536 := by omega
  by_cases g8 : 65536 < st.size
  · exact long_8 ta ra pa tb nb ot oi rel st si sn h0 h1 h2 h3 h4 h5 h6 h7 h8 h9 h10 l0 l1 l2 l3 l4 l5 l6 l7 g8 w
  have l8 : st.size ≤ 65536 := by omega
  by_cases g9 : 65536 < si.size
  · exact long_9 ta ra pa tb nb ot oi rel st si sn h0 h1 h2 h3 h4 h5 h6 h7 h8 h9 h10 l0 l1 l2 l3 l4 l5 l6 l7 l8 g9 w
  have l9 : si.size ≤ 65536 := by omega
  by_cases g10 : 65536 < sn.size
  · exact long_10 ta ra pa tb nb ot oi rel st si sn h0 h1 h2 h3 h4 h5 h6 h7 h8 h9 h10 l0 l1 l2 l3 l4 l5 l6 l7 l8 l9 g10 w
  have l10 : sn.size ≤ 65536 := by omega
  rcases Bool.eq_false_or_eq_true ta.toList.isEmpty with tg | t0
  · exact bad_0 ta ra pa tb nb ot oi rel st si sn h0 h1 h2 h3 h4 h5 h6 h7 h8 h9 h10 l0 l1 l2 l3 l4 l5 l6 l7 l8 l9 l10  tg w
  rcases Bool.eq_false_or_eq_true ra.toList.isEmpty with tg | t1
  · exact bad_1 ta ra pa tb nb ot oi rel st si sn h0 h1 h2 h3 h4 h5 h6 h7 h8 h9 h10 l0 l1 l2 l3 l4 l5 l6 l7 l8 l9 l10 t0 tg w
  rcases Bool.eq_false_or_eq_true pa.toList.isEmpty with tg | t2
  · exact bad_2 ta ra pa tb nb ot oi rel st si sn h0 h1 h2 h3 h4 h5 h6 h7 h8 h9 h10 l0 l1 l2 l3 l4 l5 l6 l7 l8 l9 l10 t0 t1 tg w
  rcases Bool.eq_false_or_eq_true tb.toList.isEmpty with tg | t3
  · exact bad_3 ta ra pa tb nb ot oi rel st si sn h0 h1 h2 h3 h4 h5 h6 h7 h8 h9 h10 l0 l1 l2 l3 l4 l5 l6 l7 l8 l9 l10 t0 t1 t2 tg w
  rcases Bool.eq_false_or_eq_true nb.toList.isEmpty with tg | t4
  · exact bad_4 ta ra pa tb nb ot oi rel st si sn h0 h1 h2 h3 h4 h5 h6 h7 h8 h9 h10 l0 l1 l2 l3 l4 l5 l6 l7 l8 l9 l10 t0 t1 t2 t3 tg w
  rcases Bool.eq_false_or_eq_true (ta.toList == tb.toList) with tg | t5
  · exact bad_5 ta ra pa tb nb ot oi rel st si sn h0 h1 h2 h3 h4 h5 h6 h7 h8 h9 h10 l0 l1 l2 l3 l4 l5 l6 l7 l8 l9 l10 t0 t1 t2 t3 t4 tg w
  rcases Bool.eq_false_or_eq_true (ra.toList == pa.toList) with tg | t6
  · exact bad_6 ta ra pa tb nb ot oi rel st si sn h0 h1 h2 h3 h4 h5 h6 h7 h8 h9 h10 l0 l1 l2 l3 l4 l5 l6 l7 l8 l9 l10 t0 t1 t2 t3 t4 t5 tg w
  have hab : ta ≠ tb := ne_of t5
  have hrp : ra ≠ pa := ne_of t6
  rcases Bool.eq_false_or_eq_true (ot.toList == ta.toList) with o1 | o1
  · rcases Bool.eq_false_or_eq_true (rel.toList == ra.toList) with q1 | q1
    ·
      rcases Bool.eq_false_or_eq_true (st.toList == ta.toList) with s1 | s1
      · exact way_ra_sa F ta ra pa tb nb ot oi rel st si sn h0 h1 h2 h3 h4 h5 h6 h7 h8 h9 h10 l0 l1 l2 l3 l4 l5 l6 l7 l8 l9 l10 t0 t1 t2 t3 t4 t5 t6 o1 q1 s1 hab hrp ⟨Or.inl ⟨same_of o1, Or.inl (same_of q1)⟩, Or.inl (same_of s1)⟩ w hF
      rcases Bool.eq_false_or_eq_true (st.toList == tb.toList) with s2 | s2
      · exact way_ra_sb F ta ra pa tb nb ot oi rel st si sn h0 h1 h2 h3 h4 h5 h6 h7 h8 h9 h10 l0 l1 l2 l3 l4 l5 l6 l7 l8 l9 l10 t0 t1 t2 t3 t4 t5 t6 o1 q1 s1 s2 hab hrp ⟨Or.inl ⟨same_of o1, Or.inl (same_of q1)⟩, Or.inr (same_of s2)⟩ w hF
      · exact way_ra_sn F ta ra pa tb nb ot oi rel st si sn h0 h1 h2 h3 h4 h5 h6 h7 h8 h9 h10 l0 l1 l2 l3 l4 l5 l6 l7 l8 l9 l10 t0 t1 t2 t3 t4 t5 t6 o1 q1 s1 s2 hab hrp (fun h => h.2.elim (ne_of s1) (ne_of s2)) w hF
    rcases Bool.eq_false_or_eq_true (rel.toList == pa.toList) with q2 | q2
    ·
      rcases Bool.eq_false_or_eq_true (st.toList == ta.toList) with s1 | s1
      · exact way_pa_sa F ta ra pa tb nb ot oi rel st si sn h0 h1 h2 h3 h4 h5 h6 h7 h8 h9 h10 l0 l1 l2 l3 l4 l5 l6 l7 l8 l9 l10 t0 t1 t2 t3 t4 t5 t6 o1 q1 q2 s1 hab hrp ⟨Or.inl ⟨same_of o1, Or.inr (same_of q2)⟩, Or.inl (same_of s1)⟩ w hF
      rcases Bool.eq_false_or_eq_true (st.toList == tb.toList) with s2 | s2
      · exact way_pa_sb F ta ra pa tb nb ot oi rel st si sn h0 h1 h2 h3 h4 h5 h6 h7 h8 h9 h10 l0 l1 l2 l3 l4 l5 l6 l7 l8 l9 l10 t0 t1 t2 t3 t4 t5 t6 o1 q1 q2 s1 s2 hab hrp ⟨Or.inl ⟨same_of o1, Or.inr (same_of q2)⟩, Or.inr (same_of s2)⟩ w hF
      · exact way_pa_sn F ta ra pa tb nb ot oi rel st si sn h0 h1 h2 h3 h4 h5 h6 h7 h8 h9 h10 l0 l1 l2 l3 l4 l5 l6 l7 l8 l9 l10 t0 t1 t2 t3 t4 t5 t6 o1 q1 q2 s1 s2 hab hrp (fun h => h.2.elim (ne_of s1) (ne_of s2)) w hF
    · have o2 : (ot.toList == tb.toList) = false := by
        rcases Bool.eq_false_or_eq_true (ot.toList == tb.toList) with x | x
        · exact absurd ((same_of o1).symm.trans (same_of x)) hab
        · exact x
      exact way_a_none F ta ra pa tb nb ot oi rel st si sn h0 h1 h2 h3 h4 h5 h6 h7 h8 h9 h10 l0 l1 l2 l3 l4 l5 l6 l7 l8 l9 l10 t0 t1 t2 t3 t4 t5 t6 o1 q1 q2 o2 hab hrp (fun h => h.1.elim (fun x => x.2.elim (ne_of q1) (ne_of q2)) (fun x => ne_of o2 x.1)) w hF
  rcases Bool.eq_false_or_eq_true (ot.toList == tb.toList) with o2 | o2
  · rcases Bool.eq_false_or_eq_true (rel.toList == nb.toList) with q1 | q1
    ·
      rcases Bool.eq_false_or_eq_true (st.toList == ta.toList) with s1 | s1
      · exact way_nb_sa F ta ra pa tb nb ot oi rel st si sn h0 h1 h2 h3 h4 h5 h6 h7 h8 h9 h10 l0 l1 l2 l3 l4 l5 l6 l7 l8 l9 l10 t0 t1 t2 t3 t4 t5 t6 o1 o2 q1 s1 hab hrp ⟨Or.inr ⟨same_of o2, same_of q1⟩, Or.inl (same_of s1)⟩ w hF
      rcases Bool.eq_false_or_eq_true (st.toList == tb.toList) with s2 | s2
      · exact way_nb_sb F ta ra pa tb nb ot oi rel st si sn h0 h1 h2 h3 h4 h5 h6 h7 h8 h9 h10 l0 l1 l2 l3 l4 l5 l6 l7 l8 l9 l10 t0 t1 t2 t3 t4 t5 t6 o1 o2 q1 s1 s2 hab hrp ⟨Or.inr ⟨same_of o2, same_of q1⟩, Or.inr (same_of s2)⟩ w hF
      · exact way_nb_sn F ta ra pa tb nb ot oi rel st si sn h0 h1 h2 h3 h4 h5 h6 h7 h8 h9 h10 l0 l1 l2 l3 l4 l5 l6 l7 l8 l9 l10 t0 t1 t2 t3 t4 t5 t6 o1 o2 q1 s1 s2 hab hrp (fun h => h.2.elim (ne_of s1) (ne_of s2)) w hF
    · exact way_b_none F ta ra pa tb nb ot oi rel st si sn h0 h1 h2 h3 h4 h5 h6 h7 h8 h9 h10 l0 l1 l2 l3 l4 l5 l6 l7 l8 l9 l10 t0 t1 t2 t3 t4 t5 t6 o1 o2 q1 hab hrp (fun h => h.1.elim (fun x => ne_of o1 x.1) (fun x => ne_of q1 x.2)) w hF
  · exact way_none F ta ra pa tb nb ot oi rel st si sn h0 h1 h2 h3 h4 h5 h6 h7 h8 h9 h10 l0 l1 l2 l3 l4 l5 l6 l7 l8 l9 l10 t0 t1 t2 t3 t4 t5 t6 o1 o2 hab hrp (fun h => h.1.elim (fun x => ne_of o1 x.1) (fun x => ne_of o2 x.1)) w hF

/-- THE STATEMENT -/
theorem fnValidateQueryExactlyDeclaredAndCoversBind_proved : Rows.FnValidateQueryExactlyDeclaredAndCoversBindToldSaid := card_of walk

end Go.Proofs.Qxb6618538aFmt
