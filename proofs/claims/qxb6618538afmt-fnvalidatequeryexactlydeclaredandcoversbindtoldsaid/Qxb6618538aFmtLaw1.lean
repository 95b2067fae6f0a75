/-
  THE LAW (5), way by way (part 2 of 3).
-/
import Derived.Test.Qxb6618538aFmtRel
import Derived.Test.Qxb6618538aFmtZBind
namespace Go.Proofs.Qxb6618538aFmt
open Go.RowKit Go.Extern.Stop Go.Stop Go.Extern
set_option linter.unusedVariables false
set_option maxRecDepth 100000 in
set_option maxHeartbeats 3200000 in
theorem way_pa_sb (F : Interp) (ta ra pa tb nb ot oi rel st si sn : ByteArray) (h0 : ta.size ≤ maxLen) (h1 : ra.size ≤ maxLen) (h2 : pa.size ≤ maxLen) (h3 : tb.size ≤ maxLen) (h4 : nb.size ≤ maxLen) (h5 : ot.size ≤ maxLen) (h6 : oi.size ≤ maxLen) (h7 : rel.size ≤ maxLen) (h8 : st.size ≤ maxLen) (h9 : si.size ≤ maxLen) (h10 : sn.size ≤ maxLen) (l0 : ta.size ≤ 65536) (l1 : ra.size ≤ 65536) (l2 : pa.size ≤ 65536) (l3 : tb.size ≤ 65536) (l4 : nb.size ≤ 65536) (l5 : ot.size ≤ 65536) (l6 : oi.size ≤ 65536) (l7 : rel.size ≤ 65536) (l8 : st.size ≤ 65536) (l9 : si.size ≤ 65536) (l10 : sn.size ≤ 65536) (t0 : ta.toList.isEmpty = false) (t1 : ra.toList.isEmpty = false) (t2 : pa.toList.isEmpty = false) (t3 : tb.toList.isEmpty = false) (t4 : nb.toList.isEmpty = false) (t5 : (ta.toList == tb.toList) = false) (t6 : (ra.toList == pa.toList) = false) (e0 : (ot.toList == ta.toList) = true) (e1 : (rel.toList == ra.toList) = false) (e2 : (rel.toList == pa.toList) = true) (e3 : (st.toList == ta.toList) = false) (e4 : (st.toList == tb.toList) = true)
    (hab : ta ≠ tb) (hrp : ra ≠ pa) (hw : want ta ra pa tb nb ot rel st) (w : World) (hF : F.answers w.tape) :
    Calls Tryf.prog 5 #[.string ta, .string ra, .string pa, .string tb, .string nb, .string ot, .string oi, .string rel, .string st, .string si, .string sn] w fun e w' => e = .returned (.bool true) ∧ Below w.heap.size w w' := by
  have c0 : decide (65536 < (ta.size : Int)) = false := decide_eq_false (by omega)
  have c1 : decide (65536 < (ra.size : Int)) = false := decide_eq_false (by omega)
  have c2 : decide (65536 < (pa.size : Int)) = false := decide_eq_false (by omega)
  have c3 : decide (65536 < (tb.size : Int)) = false := decide_eq_false (by omega)
  have c4 : decide (65536 < (nb.size : Int)) = false := decide_eq_false (by omega)
  have c5 : decide (65536 < (ot.size : Int)) = false := decide_eq_false (by omega)
  have c6 : decide (65536 < (oi.size : Int)) = false := decide_eq_false (by omega)
  have c7 : decide (65536 < (rel.size : Int)) = false := decide_eq_false (by omega)
  have c8 : decide (65536 < (st.size : Int)) = false := decide_eq_false (by omega)
  have c9 : decide (65536 < (si.size : Int)) = false := decide_eq_false (by omega)
  have c10 : decide (65536 < (sn.size : Int)) = false := decide_eq_false (by omega)
  have HF : Hid (F.answers w.tape) := hF
  clear hF
  go_enter Tryf.func5, Tryf.ntmps5
  go_wp2_with fail
  refine (bytes_any ta ra pa tb nb ot oi rel st si sn h0 h1 h2 h3 h4 h5 h6 h7 h8 h9 h10 _).mono ?_
  rintro e w1 ⟨⟨b, rfl⟩, hw⟩
  subst hw
  cases b
  · go_wp2
    go_ret
    exact ⟨rfl, Below.refl _ _⟩
  · go_wp2_with fail
    refine (schema_any ta ra pa tb nb t2 hab hrp _).mono ?_
    rintro e w2 ⟨bs, bm, pA, pB, mA, mB, dR, dP, dN, avR, avN, rfl, S2, B2⟩
    go_wp2_with fail
    refine (rel_any ot oi rel st si sn _).mono ?_
    rintro e w3 ⟨rfl, hb3⟩
    have S3 := S2.below hb3
    have B3 := B2.trans (hb3.mono B2.size)
    clear S2 B2 hb3
    go_wp2_with fail
    have K3 : Below w3.heap.size w3 ((w3.alloc (.cells #[.string ot, .string oi, .string rel, .string st, .string si, .string sn] 31)).alloc (.cells #[.string ot, .string oi, .string rel, .string st, .string si] 35)) := ((Below.refl _ w3).alloc (Nat.le_refl _) _).alloc (by simp) _
    have S4 := S3.below K3
    have R3 : rowAt ((w3.alloc (.cells #[.string ot, .string oi, .string rel, .string st, .string si, .string sn] 31)).alloc (.cells #[.string ot, .string oi, .string rel, .string st, .string si] 35)) w3.heap.size 31 #[.string ot, .string oi, .string rel, .string st, .string si, .string sn] := (rowAt_alloc w3 31 _).of_block (Below.heap_alloc _ _ _ (by simp))
    refine (validate_yes ot oi rel st si _ hab hrp S4 hw).mono ?_
    rintro e w4 ⟨rfl, hb4⟩
    have S5 := S4.below hb4
    have R4 := below_row hb4 R3 R3.lt
    obtain ⟨r0, r1, r2, r3, r4, r5⟩ := six R4
    have B4 : Below w1.heap.size w1 w4 := (B3.trans (K3.mono B3.size)).trans (hb4.mono (by simp; have := B3.size; omega))
    clear S3 S4 R3 R4 B3 K3 hb4
    go_wp2_with fail
    refine (zzbind_any F ot oi rel st si sn _ (by rw [B4.tape]; exact HF.out) hab hrp S5 l0 l3 l4 l8 l10).mono ?_
    rintro e w5 ⟨⟨s1, s2, s3, s4, p1, p2, p3, p4, er, rfl, her⟩, hb5⟩
    have B5 := B4.trans (hb5.mono B4.size)
    have HER : Hid ((er = .nilIface ∧ want ta ra pa tb nb ot rel st) ∨ ∃ a, er = .iface 85 (.pointer (some a))) := her
    clear her S5 r0 r1 r2 r3 r4 r5 B4 hb5
    rcases HER.out with ⟨he, _⟩ | ⟨a, he⟩
    · subst he
      go_wp2
      go_ret
      exact ⟨rfl, (B5.alloc B5.size _).alloc (by simp; have := B5.size; omega) _⟩
    · subst he
      go_wp2
      go_ret
      exact ⟨rfl, (B5.alloc B5.size _).alloc (by simp; have := B5.size; omega) _⟩
set_option maxRecDepth 100000 in
set_option maxHeartbeats 3200000 in
theorem way_pa_sn (F : Interp) (ta ra pa tb nb ot oi rel st si sn : ByteArray) (h0 : ta.size ≤ maxLen) (h1 : ra.size ≤ maxLen) (h2 : pa.size ≤ maxLen) (h3 : tb.size ≤ maxLen) (h4 : nb.size ≤ maxLen) (h5 : ot.size ≤ maxLen) (h6 : oi.size ≤ maxLen) (h7 : rel.size ≤ maxLen) (h8 : st.size ≤ maxLen) (h9 : si.size ≤ maxLen) (h10 : sn.size ≤ maxLen) (l0 : ta.size ≤ 65536) (l1 : ra.size ≤ 65536) (l2 : pa.size ≤ 65536) (l3 : tb.size ≤ 65536) (l4 : nb.size ≤ 65536) (l5 : ot.size ≤ 65536) (l6 : oi.size ≤ 65536) (l7 : rel.size ≤ 65536) (l8 : st.size ≤ 65536) (l9 : si.size ≤ 65536) (l10 : sn.size ≤ 65536) (t0 : ta.toList.isEmpty = false) (t1 : ra.toList.isEmpty = false) (t2 : pa.toList.isEmpty = false) (t3 : tb.toList.isEmpty = false) (t4 : nb.toList.isEmpty = false) (t5 : (ta.toList == tb.toList) = false) (t6 : (ra.toList == pa.toList) = false) (e0 : (ot.toList == ta.toList) = true) (e1 : (rel.toList == ra.toList) = false) (e2 : (rel.toList == pa.toList) = true) (e3 : (st.toList == ta.toList) = false) (e4 : (st.toList == tb.toList) = false)
    (hab : ta ≠ tb) (hrp : ra ≠ pa) (hw : ¬ want ta ra pa tb nb ot rel st) (w : World) (hF : F.answers w.tape) :
    Calls Tryf.prog 5 #[.string ta, .string ra, .string pa, .string tb, .string nb, .string ot, .string oi, .string rel, .string st, .string si, .string sn] w fun e w' => e = .returned (.bool true) ∧ Below w.heap.size w w' := by
  have c0 : decide (65536 < (ta.size : Int)) = false := decide_eq_false (by omega)
  have c1 : decide (65536 < (ra.size : Int)) = false := decide_eq_false (by omega)
  have c2 : decide (65536 < (pa.size : Int)) = false := decide_eq_false (by omega)
  have c3 : decide (65536 < (tb.size : Int)) = false := decide_eq_false (by omega)
  have c4 : decide (65536 < (nb.size : Int)) = false := decide_eq_false (by omega)
  have c5 : decide (65536 < (ot.size : Int)) = false := decide_eq_false (by omega)
  have c6 : decide (65536 < (oi.size : Int)) = false := decide_eq_false (by omega)
  have c7 : decide (65536 < (rel.size : Int)) = false := decide_eq_false (by omega)
  have c8 : decide (65536 < (st.size : Int)) = false := decide_eq_false (by omega)
  have c9 : decide (65536 < (si.size : Int)) = false := decide_eq_false (by omega)
  have c10 : decide (65536 < (sn.size : Int)) = false := decide_eq_false (by omega)
  have HF : Hid (F.answers w.tape) := hF
  clear hF
  go_enter Tryf.func5, Tryf.ntmps5
  go_wp2_with fail
  refine (bytes_any ta ra pa tb nb ot oi rel st si sn h0 h1 h2 h3 h4 h5 h6 h7 h8 h9 h10 _).mono ?_
  rintro e w1 ⟨⟨b, rfl⟩, hw⟩
  subst hw
  cases b
  · go_wp2
    go_ret
    exact ⟨rfl, Below.refl _ _⟩
  · go_wp2_with fail
    refine (schema_any ta ra pa tb nb t2 hab hrp _).mono ?_
    rintro e w2 ⟨bs, bm, pA, pB, mA, mB, dR, dP, dN, avR, avN, rfl, S2, B2⟩
    go_wp2_with fail
    refine (rel_any ot oi rel st si sn _).mono ?_
    rintro e w3 ⟨rfl, hb3⟩
    have S3 := S2.below hb3
    have B3 := B2.trans (hb3.mono B2.size)
    clear S2 B2 hb3
    go_wp2_with fail
    have K3 : Below w3.heap.size w3 ((w3.alloc (.cells #[.string ot, .string oi, .string rel, .string st, .string si, .string sn] 31)).alloc (.cells #[.string ot, .string oi, .string rel, .string st, .string si] 35)) := ((Below.refl _ w3).alloc (Nat.le_refl _) _).alloc (by simp) _
    have S4 := S3.below K3
    have R3 : rowAt ((w3.alloc (.cells #[.string ot, .string oi, .string rel, .string st, .string si, .string sn] 31)).alloc (.cells #[.string ot, .string oi, .string rel, .string st, .string si] 35)) w3.heap.size 31 #[.string ot, .string oi, .string rel, .string st, .string si, .string sn] := (rowAt_alloc w3 31 _).of_block (Below.heap_alloc _ _ _ (by simp))
    refine (validate_no F ot oi rel st si _ (by show F.answers w3.tape; rw [B3.tape]; exact HF.out) hab hrp S4 hw).mono ?_
    rintro e w4 ⟨⟨a, rfl⟩, hb4⟩
    have S5 := S4.below hb4
    have R4 := below_row hb4 R3 R3.lt
    obtain ⟨r0, r1, r2, r3, r4, r5⟩ := six R4
    have B4 : Below w1.heap.size w1 w4 := (B3.trans (K3.mono B3.size)).trans (hb4.mono (by simp; have := B3.size; omega))
    clear S3 S4 R3 R4 B3 K3 hb4
    go_wp2_with fail
    refine (zzbind_any F ot oi rel st si sn _ (by rw [B4.tape]; exact HF.out) hab hrp S5 l0 l3 l4 l8 l10).mono ?_
    rintro e w5 ⟨⟨s1, s2, s3, s4, p1, p2, p3, p4, er, rfl, her⟩, hb5⟩
    have B5 := B4.trans (hb5.mono B4.size)
    have HER : Hid ((er = .nilIface ∧ want ta ra pa tb nb ot rel st) ∨ ∃ a, er = .iface 85 (.pointer (some a))) := her
    clear her S5 r0 r1 r2 r3 r4 r5 B4 hb5
    rcases HER.out with ⟨_, hx⟩ | ⟨a', he⟩
    · exact absurd hx hw
    · subst he
      go_wp2
      go_ret
      exact ⟨rfl, (B5.alloc B5.size _).alloc (by simp; have := B5.size; omega) _⟩
set_option maxRecDepth 100000 in
set_option maxHeartbeats 3200000 in
theorem way_nb_sa (F : Interp) (ta ra pa tb nb ot oi rel st si sn : ByteArray) (h0 : ta.size ≤ maxLen) (h1 : ra.size ≤ maxLen) (h2 : pa.size ≤ maxLen) (h3 : tb.size ≤ maxLen) (h4 : nb.size ≤ maxLen) (h5 : ot.size ≤ maxLen) (h6 : oi.size ≤ maxLen) (h7 : rel.size ≤ maxLen) (h8 : st.size ≤ maxLen) (h9 : si.size ≤ maxLen) (h10 : sn.size ≤ maxLen) (l0 : ta.size ≤ 65536) (l1 : ra.size ≤ 65536) (l2 : pa.size ≤ 65536) (l3 : tb.size ≤ 65536) (l4 : nb.size ≤ 65536) (l5 : ot.size ≤ 65536) (l6 : oi.size ≤ 65536) (l7 : rel.size ≤ 65536) (l8 : st.size ≤ 65536) (l9 : si.size ≤ 65536) (l10 : sn.size ≤ 65536) (t0 : ta.toList.isEmpty = false) (t1 : ra.toList.isEmpty = false) (t2 : pa.toList.isEmpty = false) (t3 : tb.toList.isEmpty = false) (t4 : nb.toList.isEmpty = false) (t5 : (ta.toList == tb.toList) = false) (t6 : (ra.toList == pa.toList) = false) (e0 : (ot.toList == ta.toList) = false) (e1 : (ot.toList == tb.toList) = true) (e2 : (rel.toList == nb.toList) = true) (e3 : (st.toList == ta.toList) = true)
    (hab : ta ≠ tb) (hrp : ra ≠ pa) (hw : want ta ra pa tb nb ot rel st) (w : World) (hF : F.answers w.tape) :
    Calls Tryf.prog 5 #[.string ta, .string ra, .string pa, .string tb, .string nb, .string ot, .string oi, .string rel, .string st, .string si, .string sn] w fun e w' => e = .returned (.bool true) ∧ Below w.heap.size w w' := by
  have c0 : decide (65536 < (ta.size : Int)) = false := decide_eq_false (by omega)
  have c1 : decide (65536 < (ra.size : Int)) = false := decide_eq_false (by omega)
  have c2 : decide (65536 < (pa.size : Int)) = false := decide_eq_false (by omega)
  have c3 : decide (65536 < (tb.size : Int)) = false := decide_eq_false (by omega)
  have c4 : decide (65536 < (nb.size : Int)) = false := decide_eq_false (by omega)
  have c5 : decide (65536 < (ot.size : Int)) = false := decide_eq_false (by omega)
  have c6 : decide (65536 < (oi.size : Int)) = false := decide_eq_false (by omega)
  have c7 : decide (65536 < (rel.size : Int)) = false := decide_eq_false (by omega)
  have c8 : decide (65536 < (st.size : Int)) = false := decide_eq_false (by omega)
  have c9 : decide (65536 < (si.size : Int)) = false := decide_eq_false (by omega)
  have c10 : decide (65536 < (sn.size : Int)) = false := decide_eq_false (by omega)
  have HF : Hid (F.answers w.tape) := hF
  clear hF
  go_enter Tryf.func5, Tryf.ntmps5
  go_wp2_with fail
  refine (bytes_any ta ra pa tb nb ot oi rel st si sn h0 h1 h2 h3 h4 h5 h6 h7 h8 h9 h10 _).mono ?_
  rintro e w1 ⟨⟨b, rfl⟩, hw⟩
  subst hw
  cases b
  · go_wp2
    go_ret
    exact ⟨rfl, Below.refl _ _⟩
  · go_wp2_with fail
    refine (schema_any ta ra pa tb nb t2 hab hrp _).mono ?_
    rintro e w2 ⟨bs, bm, pA, pB, mA, mB, dR, dP, dN, avR, avN, rfl, S2, B2⟩
    go_wp2_with fail
    refine (rel_any ot oi rel st si sn _).mono ?_
    rintro e w3 ⟨rfl, hb3⟩
    have S3 := S2.below hb3
    have B3 := B2.trans (hb3.mono B2.size)
    clear S2 B2 hb3
    go_wp2_with fail
    have K3 : Below w3.heap.size w3 ((w3.alloc (.cells #[.string ot, .string oi, .string rel, .string st, .string si, .string sn] 31)).alloc (.cells #[.string ot, .string oi, .string rel, .string st, .string si] 35)) := ((Below.refl _ w3).alloc (Nat.le_refl _) _).alloc (by simp) _
    have S4 := S3.below K3
    have R3 : rowAt ((w3.alloc (.cells #[.string ot, .string oi, .string rel, .string st, .string si, .string sn] 31)).alloc (.cells #[.string ot, .string oi, .string rel, .string st, .string si] 35)) w3.heap.size 31 #[.string ot, .string oi, .string rel, .string st, .string si, .string sn] := (rowAt_alloc w3 31 _).of_block (Below.heap_alloc _ _ _ (by simp))
    refine (validate_yes ot oi rel st si _ hab hrp S4 hw).mono ?_
    rintro e w4 ⟨rfl, hb4⟩
    have S5 := S4.below hb4
    have R4 := below_row hb4 R3 R3.lt
    obtain ⟨r0, r1, r2, r3, r4, r5⟩ := six R4
    have B4 : Below w1.heap.size w1 w4 := (B3.trans (K3.mono B3.size)).trans (hb4.mono (by simp; have := B3.size; omega))
    clear S3 S4 R3 R4 B3 K3 hb4
    go_wp2_with fail
    refine (zzbind_any F ot oi rel st si sn _ (by rw [B4.tape]; exact HF.out) hab hrp S5 l0 l3 l4 l8 l10).mono ?_
    rintro e w5 ⟨⟨s1, s2, s3, s4, p1, p2, p3, p4, er, rfl, her⟩, hb5⟩
    have B5 := B4.trans (hb5.mono B4.size)
    have HER : Hid ((er = .nilIface ∧ want ta ra pa tb nb ot rel st) ∨ ∃ a, er = .iface 85 (.pointer (some a))) := her
    clear her S5 r0 r1 r2 r3 r4 r5 B4 hb5
    rcases HER.out with ⟨he, _⟩ | ⟨a, he⟩
    · subst he
      go_wp2
      go_ret
      exact ⟨rfl, (B5.alloc B5.size _).alloc (by simp; have := B5.size; omega) _⟩
    · subst he
      go_wp2
      go_ret
      exact ⟨rfl, (B5.alloc B5.size _).alloc (by simp; have := B5.size; omega) _⟩
set_option maxRecDepth 100000 in
set_option maxHeartbeats 3200000 in
theorem way_nb_sb (F : Interp) (ta ra pa tb nb ot oi rel st si sn : ByteArray) (h0 : ta.size ≤ maxLen) (h1 : ra.size ≤ maxLen) (h2 : pa.size ≤ maxLen) (h3 : tb.size ≤ maxLen) (h4 : nb.size ≤ maxLen) (h5 : ot.size ≤ maxLen) (h6 : oi.size ≤ maxLen) (h7 : rel.size ≤ maxLen) (h8 : st.size ≤ maxLen) (h9 : si.size ≤ maxLen) (h10 : sn.size ≤ maxLen) (l0 : ta.size ≤ 65536) (l1 : ra.size ≤ 65536) (l2 : pa.size ≤ 65536) (l3 : tb.size ≤ 65536) (l4 : nb.size ≤ 65536) (l5 : ot.size ≤ 65536) (l6 : oi.size ≤ 65536) (l7 : rel.size ≤ 65536) (l8 : st.size ≤ 65536) (l9 : si.size ≤ 65536) (l10 : sn.size ≤ 65536) (t0 : ta.toList.isEmpty = false) (t1 : ra.toList.isEmpty = false) (t2 : pa.toList.isEmpty = false) (t3 : tb.toList.isEmpty = false) (t4 : nb.toList.isEmpty = false) (t5 : (ta.toList == tb.toList) = false) (t6 : (ra.toList == pa.toList) = false) (e0 : (ot.toList == ta.toList) = false) (e1 : (ot.toList == tb.toList) = true) (e2 : (rel.toList == nb.toList) = true) (e3 : (st.toList == ta.toList) = false) (e4 : (st.toList == tb.toList) = true)
    (hab : ta ≠ tb) (hrp : ra ≠ pa) (hw : want ta ra pa tb nb ot rel st) (w : World) (hF : F.answers w.tape) :
    Calls Tryf.prog 5 #[.string ta, .string ra, .string pa, .string tb, .string nb, .string ot, .string oi, .string rel, .string st, .string si, .string sn] w fun e w' => e = .returned (.bool true) ∧ Below w.heap.size w w' := by
  have c0 : decide (65536 < (ta.size : Int)) = false := decide_eq_false (by omega)
  have c1 : decide (65536 < (ra.size : Int)) = false := decide_eq_false (by omega)
  have c2 : decide (65536 < (pa.size : Int)) = false := decide_eq_false (by omega)
  have c3 : decide (65536 < (tb.size : Int)) = false := decide_eq_false (by omega)
  have c4 : decide (65536 < (nb.size : Int)) = false := decide_eq_false (by omega)
  have c5 : decide (65536 < (ot.size : Int)) = false := decide_eq_false (by omega)
  have c6 : decide (65536 < (oi.size : Int)) = false := decide_eq_false (by omega)
  have c7 : decide (65536 < (rel.size : Int)) = false := decide_eq_false (by omega)
  have c8 : decide (65536 < (st.size : Int)) = false := decide_eq_false (by omega)
  have c9 : decide (65536 < (si.size : Int)) = false := decide_eq_false (by omega)
  have c10 : decide (65536 < (sn.size : Int)) = false := decide_eq_false (by omega)
  have HF : Hid (F.answers w.tape) := hF
  clear hF
  go_enter Tryf.func5, Tryf.ntmps5
  go_wp2_with fail
  refine (bytes_any ta ra pa tb nb ot oi rel st si sn h0 h1 h2 h3 h4 h5 h6 h7 h8 h9 h10 _).mono ?_
  rintro e w1 ⟨⟨b, rfl⟩, hw⟩
  subst hw
  cases b
  · go_wp2
    go_ret
    exact ⟨rfl, Below.refl _ _⟩
  · go_wp2_with fail
    refine (schema_any ta ra pa tb nb t2 hab hrp _).mono ?_
    rintro e w2 ⟨bs, bm, pA, pB, mA, mB, dR, dP, dN, avR, avN, rfl, S2, B2⟩
    go_wp2_with fail
    refine (rel_any ot oi rel st si sn _).mono ?_
    rintro e w3 ⟨rfl, hb3⟩
    have S3 := S2.below hb3
    have B3 := B2.trans (hb3.mono B2.size)
    clear S2 B2 hb3
    go_wp2_with fail
    have K3 : Below w3.heap.size w3 ((w3.alloc (.cells #[.string ot, .string oi, .string rel, .string st, .string si, .string sn] 31)).alloc (.cells #[.string ot, .string oi, .string rel, .string st, .string si] 35)) := ((Below.refl _ w3).alloc (Nat.le_refl _) _).alloc (by simp) _
    have S4 := S3.below K3
    have R3 : rowAt ((w3.alloc (.cells #[.string ot, .string oi, .string rel, .string st, .string si, .string sn] 31)).alloc (.cells #[.string ot, .string oi, .string rel, .string st, .string si] 35)) w3.heap.size 31 #[.string ot, .string oi, .string rel, .string st, .string si, .string sn] := (rowAt_alloc w3 31 _).of_block (Below.heap_alloc _ _ _ (by simp))
    refine (validate_yes ot oi rel st si _ hab hrp S4 hw).mono ?_
    rintro e w4 ⟨rfl, hb4⟩
    have S5 := S4.below hb4
    have R4 := below_row hb4 R3 R3.lt
    obtain ⟨r0, r1, r2, r3, r4, r5⟩ := six R4
    have B4 : Below w1.heap.size w1 w4 := (B3.trans (K3.mono B3.size)).trans (hb4.mono (by simp; have := B3.size; omega))
    clear S3 S4 R3 R4 B3 K3 hb4
    go_wp2_with fail
    refine (zzbind_any F ot oi rel st si sn _ (by rw [B4.tape]; exact HF.out) hab hrp S5 l0 l3 l4 l8 l10).mono ?_
    rintro e w5 ⟨⟨s1, s2, s3, s4, p1, p2, p3, p4, er, rfl, her⟩, hb5⟩
    have B5 := B4.trans (hb5.mono B4.size)
    have HER : Hid ((er = .nilIface ∧ want ta ra pa tb nb ot rel st) ∨ ∃ a, er = .iface 85 (.pointer (some a))) := her
    clear her S5 r0 r1 r2 r3 r4 r5 B4 hb5
    rcases HER.out with ⟨he, _⟩ | ⟨a, he⟩
    · subst he
      go_wp2
      go_ret
      exact ⟨rfl, (B5.alloc B5.size _).alloc (by simp; have := B5.size; omega) _⟩
    · subst he
      go_wp2
      go_ret
      exact ⟨rfl, (B5.alloc B5.size _).alloc (by simp; have := B5.size; omega) _⟩
end Go.Proofs.Qxb6618538aFmt
