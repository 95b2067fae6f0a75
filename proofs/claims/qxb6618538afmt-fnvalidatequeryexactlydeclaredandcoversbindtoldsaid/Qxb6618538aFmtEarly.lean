/-
  THE LAW (5), its early returns.
-/
import Derived.Test.Qxb6618538aFmtRel
namespace Go.Proofs.Qxb6618538aFmt
open Go.RowKit
set_option linter.unusedVariables false
set_option maxRecDepth 100000 in
set_option maxHeartbeats 800000 in
theorem long_0 (ta ra pa tb nb ot oi rel st si sn : ByteArray) (h0 : ta.size ≤ maxLen) (h1 : ra.size ≤ maxLen) (h2 : pa.size ≤ maxLen) (h3 : tb.size ≤ maxLen) (h4 : nb.size ≤ maxLen) (h5 : ot.size ≤ maxLen) (h6 : oi.size ≤ maxLen) (h7 : rel.size ≤ maxLen) (h8 : st.size ≤ maxLen) (h9 : si.size ≤ maxLen) (h10 : sn.size ≤ maxLen)  (g : 65536 < ta.size) (w : World) :
    Calls Tryf.prog 5 #[.string ta, .string ra, .string pa, .string tb, .string nb, .string ot, .string oi, .string rel, .string st, .string si, .string sn] w fun e w' => e = .returned (.bool true) ∧ Below w.heap.size w w' := by
  have cg : decide (65536 < (ta.size : Int)) = true := decide_eq_true (by omega)
  go_enter Tryf.func5, Tryf.ntmps5
  go_wp2_with fail
  refine (bytes_any ta ra pa tb nb ot oi rel st si sn h0 h1 h2 h3 h4 h5 h6 h7 h8 h9 h10 _).mono ?_
  rintro e w1 ⟨⟨b, rfl⟩, hw⟩
  subst hw
  cases b
  · go_wp2
    go_ret
    exact ⟨rfl, Below.refl _ _⟩
  · go_wp2
    go_ret
    exact ⟨rfl, Below.refl _ _⟩
set_option maxRecDepth 100000 in
set_option maxHeartbeats 800000 in
theorem long_1 (ta ra pa tb nb ot oi rel st si sn : ByteArray) (h0 : ta.size ≤ maxLen) (h1 : ra.size ≤ maxLen) (h2 : pa.size ≤ maxLen) (h3 : tb.size ≤ maxLen) (h4 : nb.size ≤ maxLen) (h5 : ot.size ≤ maxLen) (h6 : oi.size ≤ maxLen) (h7 : rel.size ≤ maxLen) (h8 : st.size ≤ maxLen) (h9 : si.size ≤ maxLen) (h10 : sn.size ≤ maxLen) (l0 : ta.size ≤ 65536) (g : 65536 < ra.size) (w : World) :
    Calls Tryf.prog 5 #[.string ta, .string ra, .string pa, .string tb, .string nb, .string ot, .string oi, .string rel, .string st, .string si, .string sn] w fun e w' => e = .returned (.bool true) ∧ Below w.heap.size w w' := by
  have c0 : decide (65536 < (ta.size : Int)) = false := decide_eq_false (by omega)
  have cg : decide (65536 < (ra.size : Int)) = true := decide_eq_true (by omega)
  go_enter Tryf.func5, Tryf.ntmps5
  go_wp2_with fail
  refine (bytes_any ta ra pa tb nb ot oi rel st si sn h0 h1 h2 h3 h4 h5 h6 h7 h8 h9 h10 _).mono ?_
  rintro e w1 ⟨⟨b, rfl⟩, hw⟩
  subst hw
  cases b
  · go_wp2
    go_ret
    exact ⟨rfl, Below.refl _ _⟩
  · go_wp2
    go_ret
    exact ⟨rfl, Below.refl _ _⟩
set_option maxRecDepth 100000 in
set_option maxHeartbeats 800000 in
theorem long_2 (ta ra pa tb nb ot oi rel st si sn : ByteArray) (h0 : ta.size ≤ maxLen) (h1 : ra.size ≤ maxLen) (h2 : pa.size ≤ maxLen) (h3 : tb.size ≤ maxLen) (h4 : nb.size ≤ maxLen) (h5 : ot.size ≤ maxLen) (h6 : oi.size ≤ maxLen) (h7 : rel.size ≤ maxLen) (h8 : st.size ≤ maxLen) (h9 : si.size ≤ maxLen) (h10 : sn.size ≤ maxLen) (l0 : ta.size ≤ 65536) (l1 : ra.size ≤ 65536) (g : 65536 < pa.size) (w : World) :
    Calls Tryf.prog 5 #[.string ta, .string ra, .string pa, .string tb, .string nb, .string ot, .string oi, .string rel, .string st, .string si, .string sn] w fun e w' => e = .returned (.bool true) ∧ Below w.heap.size w w' := by
  have c0 : decide (65536 < (ta.size : Int)) = false := decide_eq_false (by omega)
  have c1 : decide (65536 < (ra.size : Int)) = false := decide_eq_false (by omega)
  have cg : decide (65536 < (pa.size : Int)) = true := decide_eq_true (by omega)
  go_enter Tryf.func5, Tryf.ntmps5
  go_wp2_with fail
  refine (bytes_any ta ra pa tb nb ot oi rel st si sn h0 h1 h2 h3 h4 h5 h6 h7 h8 h9 h10 _).mono ?_
  rintro e w1 ⟨⟨b, rfl⟩, hw⟩
  subst hw
  cases b
  · go_wp2
    go_ret
    exact ⟨rfl, Below.refl _ _⟩
  · go_wp2
    go_ret
    exact ⟨rfl, Below.refl _ _⟩
set_option maxRecDepth 100000 in
set_option maxHeartbeats 800000 in
theorem long_3 (ta ra pa tb nb ot oi rel st si sn : ByteArray) (h0 : ta.size ≤ maxLen) (h1 : ra.size ≤ maxLen) (h2 : pa.size ≤ maxLen) (h3 : tb.size ≤ maxLen) (h4 : nb.size ≤ maxLen) (h5 : ot.size ≤ maxLen) (h6 : oi.size ≤ maxLen) (h7 : rel.size ≤ maxLen) (h8 : st.size ≤ maxLen) (h9 : si.size ≤ maxLen) (h10 : sn.size ≤ maxLen) (l0 : ta.size ≤ 65536) (l1 : ra.size ≤ 65536) (l2 : pa.size ≤ 65536) (g : 65536 < tb.size) (w : World) :
    Calls Tryf.prog 5 #[.string ta, .string ra, .string pa, .string tb, .string nb, .string ot, .string oi, .string rel, .string st, .string si, .string sn] w fun e w' => e = .returned (.bool true) ∧ Below w.heap.size w w' := by
  have c0 : decide (65536 < (ta.size : Int)) = false := decide_eq_false (by omega)
  have c1 : decide (65536 < (ra.size : Int)) = false := decide_eq_false (by omega)
  have c2 : decide (65536 < (pa.size : Int)) = false := decide_eq_false (by omega)
  have cg : decide (65536 < (tb.size : Int)) = true := decide_eq_true (by omega)
  go_enter Tryf.func5, Tryf.ntmps5
  go_wp2_with fail
  refine (bytes_any ta ra pa tb nb ot oi rel st si sn h0 h1 h2 h3 h4 h5 h6 h7 h8 h9 h10 _).mono ?_
  rintro e w1 ⟨⟨b, rfl⟩, hw⟩
  subst hw
  cases b
  · go_wp2
    go_ret
    exact ⟨rfl, Below.refl _ _⟩
  · go_wp2
    go_ret
    exact ⟨rfl, Below.refl _ _⟩
set_option maxRecDepth 100000 in
set_option maxHeartbeats 800000 in
theorem long_4 (ta ra pa tb nb ot oi rel st si sn : ByteArray) (h0 : ta.size ≤ maxLen) (h1 : ra.size ≤ maxLen) (h2 : pa.size ≤ maxLen) (h3 : tb.size ≤ maxLen) (h4 : nb.size ≤ maxLen) (h5 : ot.size ≤ maxLen) (h6 : oi.size ≤ maxLen) (h7 : rel.size ≤ maxLen) (h8 : st.size ≤ maxLen) (h9 : si.size ≤ maxLen) (h10 : sn.size ≤ maxLen) (l0 : ta.size ≤ 65536) (l1 : ra.size ≤ 65536) (l2 : pa.size ≤ 65536) (l3 : tb.size ≤ 65536) (g : 65536 < nb.size) (w : World) :
    Calls Tryf.prog 5 #[.string ta, .string ra, .string pa, .string tb, .string nb, .string ot, .string oi, .string rel, .string st, .string si, .string sn] w fun e w' => e = .returned (.bool true) ∧ Below w.heap.size w w' := by
  have c0 : decide (65536 < (ta.size : Int)) = false := decide_eq_false (by omega)
  have c1 : decide (65536 < (ra.size : Int)) = false := decide_eq_false (by omega)
  have c2 : decide (65536 < (pa.size : Int)) = false := decide_eq_false (by omega)
  have c3 : decide (65536 < (tb.size : Int)) = false := decide_eq_false (by omega)
  have cg : decide (65536 < (nb.size : Int)) = true := decide_eq_true (by omega)
  go_enter Tryf.func5, Tryf.ntmps5
  go_wp2_with fail
  refine (bytes_any ta ra pa tb nb ot oi rel st si sn h0 h1 h2 h3 h4 h5 h6 h7 h8 h9 h10 _).mono ?_
  rintro e w1 ⟨⟨b, rfl⟩, hw⟩
  subst hw
  cases b
  · go_wp2
    go_ret
    exact ⟨rfl, Below.refl _ _⟩
  · go_wp2
    go_ret
    exact ⟨rfl, Below.refl _ _⟩
set_option maxRecDepth 100000 in
set_option maxHeartbeats 800000 in
theorem long_5 (ta ra pa tb nb ot oi rel st si sn : ByteArray) (h0 : ta.size ≤ maxLen) (h1 : ra.size ≤ maxLen) (h2 : pa.size ≤ maxLen) (h3 : tb.size ≤ maxLen) (h4 : nb.size ≤ maxLen) (h5 : ot.size ≤ maxLen) (h6 : oi.size ≤ maxLen) (h7 : rel.size ≤ maxLen) (h8 : st.size ≤ maxLen) (h9 : si.size ≤ maxLen) (h10 : sn.size ≤ maxLen) (l0 : ta.size ≤ 65536) (l1 : ra.size ≤ 65536) (l2 : pa.size ≤ 65536) (l3 : tb.size ≤ 65536) (l4 : nb.size ≤ 65536) (g : 65536 < ot.size) (w : World) :
    Calls Tryf.prog 5 #[.string ta, .string ra, .string pa, .string tb, .string nb, .string ot, .string oi, .string rel, .string st, .string si, .string sn] w fun e w' => e = .returned (.bool true) ∧ Below w.heap.size w w' := by
  have c0 : decide (65536 < (ta.size : Int)) = false := decide_eq_false (by omega)
  have c1 : decide (65536 < (ra.size : Int)) = false := decide_eq_false (by omega)
  have c2 : decide (65536 < (pa.size : Int)) = false := decide_eq_false (by omega)
  have c3 : decide (65536 < (tb.size : Int)) = false := decide_eq_false (by omega)
  have c4 : decide (65536 < (nb.size : Int)) = false := decide_eq_false (by omega)
  have cg : decide (65536 < (ot.size : Int)) = true := decide_eq_true (by omega)
  go_enter Tryf.func5, Tryf.ntmps5
  go_wp2_with fail
  refine (bytes_any ta ra pa tb nb ot oi rel st si sn h0 h1 h2 h3 h4 h5 h6 h7 h8 h9 h10 _).mono ?_
  rintro e w1 ⟨⟨b, rfl⟩, hw⟩
  subst hw
  cases b
  · go_wp2
    go_ret
    exact ⟨rfl, Below.refl _ _⟩
  · go_wp2
    go_ret
    exact ⟨rfl, Below.refl _ _⟩
set_option maxRecDepth 100000 in
set_option maxHeartbeats 800000 in
theorem long_6 (ta ra pa tb nb ot oi rel st si sn : ByteArray) (h0 : ta.size ≤ maxLen) (h1 : ra.size ≤ maxLen) (h2 : pa.size ≤ maxLen) (h3 : tb.size ≤ maxLen) (h4 : nb.size ≤ maxLen) (h5 : ot.size ≤ maxLen) (h6 : oi.size ≤ maxLen) (h7 : rel.size ≤ maxLen) (h8 : st.size ≤ maxLen) (h9 : si.size ≤ maxLen) (h10 : sn.size ≤ maxLen) (l0 : ta.size ≤ 65536) (l1 : ra.size ≤ 65536) (l2 : pa.size ≤ 65536) (l3 : tb.size ≤ 65536) (l4 : nb.size ≤ 65536) (l5 : ot.size ≤ 65536) (g : 65536 < oi.size) (w : World) :
    Calls Tryf.prog 5 #[.string ta, .string ra, .string pa, .string tb, .string nb, .string ot, .string oi, .string rel, .string st, .string si, .string sn] w fun e w' => e = .returned (.bool true) ∧ Below w.heap.size w w' := by
  have c0 : decide (65536 < (ta.size : Int)) = false := decide_eq_false (by omega)
  have c1 : decide (65536 < (ra.size : Int)) = false := decide_eq_false (by omega)
  have c2 : decide (65536 < (pa.size : Int)) = false := decide_eq_false (by omega)
  have c3 : decide (65536 < (tb.size : Int)) = false := decide_eq_false (by omega)
  have c4 : decide (65536 < (nb.size : Int)) = false := decide_eq_false (by omega)
  have c5 : decide (65536 < (ot.size : Int)) = false := decide_eq_false (by omega)
  have cg : decide (65536 < (oi.size : Int)) = true := decide_eq_true (by omega)
  go_enter Tryf.func5, Tryf.ntmps5
  go_wp2_with fail
  refine (bytes_any ta ra pa tb nb ot oi rel st si sn h0 h1 h2 h3 h4 h5 h6 h7 h8 h9 h10 _).mono ?_
  rintro e w1 ⟨⟨b, rfl⟩, hw⟩
  subst hw
  cases b
  · go_wp2
    go_ret
    exact ⟨rfl, Below.refl _ _⟩
  · go_wp2
    go_ret
    exact ⟨rfl, Below.refl _ _⟩
set_option maxRecDepth 100000 in
set_option maxHeartbeats 800000 in
theorem long_7 (ta ra pa tb nb ot oi rel st si sn : ByteArray) (h0 : ta.size ≤ maxLen) (h1 : ra.size ≤ maxLen) (h2 : pa.size ≤ maxLen) (h3 : tb.size ≤ maxLen) (h4 : nb.size ≤ maxLen) (h5 : ot.size ≤ maxLen) (h6 : oi.size ≤ maxLen) (h7 : rel.size ≤ maxLen) (h8 : st.size ≤ maxLen) (h9 : si.size ≤ maxLen) (h10 : sn.size ≤ maxLen) (l0 : ta.size ≤ 65536) (l1 : ra.size ≤ 65536) (l2 : pa.size ≤ 65536) (l3 : tb.size ≤ 65536) (l4 : nb.size ≤ 65536) (l5 : ot.size ≤ 65536) (l6 : oi.size ≤ 65536) (g : 65536 < rel.size) (w : World) :
    Calls Tryf.prog 5 #[.string ta, .string ra, .string pa, .string tb, .string nb, .string ot, .string oi, .string rel, .string st, .string si, .string sn] w fun e w' => e = .returned (.bool true) ∧ Below w.heap.size w w' := by
  have c0 : decide (65536 < (ta.size : Int)) = false := decide_eq_false (by omega)
  have c1 : decide (65536 < (ra.size : Int)) = false := decide_eq_false (by omega)
  have c2 : decide (65536 < (pa.size : Int)) = false := decide_eq_false (by omega)
  have c3 : decide (65536 < (tb.size : Int)) = false := decide_eq_false (by omega)
  have c4 : decide (65536 < (nb.size : Int)) = false := decide_eq_false (by omega)
  have c5 : decide (65536 < (ot.size : Int)) = false := decide_eq_false (by omega)
  have c6 : decide (65536 < (oi.size : Int)) = false := decide_eq_false (by omega)
  have cg : decide (65536 < (rel.size : Int)) = true := decide_eq_true (by omega)
  go_enter Tryf.func5, Tryf.ntmps5
  go_wp2_with fail
  refine (bytes_any ta ra pa tb nb ot oi rel st si sn h0 h1 h2 h3 h4 h5 h6 h7 h8 h9 h10 _).mono ?_
  rintro e w1 ⟨⟨b, rfl⟩, hw⟩
  subst hw
  cases b
  · go_wp2
    go_ret
    exact ⟨rfl, Below.refl _ _⟩
  · go_wp2
    go_ret
    exact ⟨rfl, Below.refl _ _⟩
set_option maxRecDepth 100000 in
set_option maxHeartbeats 800000 in
theorem long_8 (ta ra pa tb nb ot oi rel st si sn : ByteArray) (h0 : ta.size ≤ maxLen) (h1 : ra.size ≤ maxLen) (h2 : pa.size ≤ maxLen) (h3 : tb.size ≤ maxLen) (h4 : nb.size ≤ maxLen) (h5 : ot.size ≤ maxLen) (h6 : oi.size ≤ maxLen) (h7 : rel.size ≤ maxLen) (h8 : st.size ≤ maxLen) (h9 : si.size ≤ maxLen) (h10 : sn.size ≤ maxLen) (l0 : ta.size ≤ 65536) (l1 : ra.size ≤ 65536) (l2 : pa.size ≤ 65536) (l3 : tb.size ≤ 65536) (l4 : nb.size ≤ 65536) (l5 : ot.size ≤ 65536) (l6 : oi.size ≤ 65536) (l7 : rel.size ≤ 65536) (g : 65536 < st.size) (w : World) :
    Calls Tryf.prog 5 #[.string ta, .string ra, .string pa, .string tb, .string nb, .string ot, .string oi, .string rel, .string st, .string si, .string sn] w fun e w' => e = .returned (.bool true) ∧ Below w.heap.size w w' := by
  have c0 : decide (65536 < (ta.size : Int)) = false := decide_eq_false (by omega)
  have c1 : decide (65536 < (ra.size : Int)) = false := decide_eq_false (by omega)
  have c2 : decide (65536 < (pa.size : Int)) = false := decide_eq_false (by omega)
  have c3 : decide (65536 < (tb.size : Int)) = false := decide_eq_false (by omega)
  have c4 : decide (65536 < (nb.size : Int)) = false := decide_eq_false (by omega)
  have c5 : decide (65536 < (ot.size : Int)) = false := decide_eq_false (by omega)
  have c6 : decide (65536 < (oi.size : Int)) = false := decide_eq_false (by omega)
  have c7 : decide (65536 < (rel.size : Int)) = false := decide_eq_false (by omega)
  have cg : decide (65536 < (st.size : Int)) = true := decide_eq_true (by omega)
  go_enter Tryf.func5, Tryf.ntmps5
  go_wp2_with fail
  refine (bytes_any ta ra pa tb nb ot oi rel st si sn h0 h1 h2 h3 h4 h5 h6 h7 h8 h9 h10 _).mono ?_
  rintro e w1 ⟨⟨b, rfl⟩, hw⟩
  subst hw
  cases b
  · go_wp2
    go_ret
    exact ⟨rfl, Below.refl _ _⟩
  · go_wp2
    go_ret
    exact ⟨rfl, Below.refl _ _⟩
set_option maxRecDepth 100000 in
set_option maxHeartbeats 800000 in
theorem long_9 (ta ra pa tb nb ot oi rel st si sn : ByteArray) (h0 : ta.size ≤ maxLen) (h1 : ra.size ≤ maxLen) (h2 : pa.size ≤ maxLen) (h3 : tb.size ≤ maxLen) (h4 : nb.size ≤ maxLen) (h5 : ot.size ≤ maxLen) (h6 : oi.size ≤ maxLen) (h7 : rel.size ≤ maxLen) (h8 : st.size ≤ maxLen) (h9 : si.size ≤ maxLen) (h10 : sn.size ≤ maxLen) (l0 : ta.size ≤ 65536) (l1 : ra.size ≤ 65536) (l2 : pa.size ≤ 65536) (l3 : tb.size ≤ 65536) (l4 : nb.size ≤ 65536) (l5 : ot.size ≤ 65536) (l6 : oi.size ≤ 65536) (l7 : rel.size ≤ 65536) (l8 : st.size ≤ 65536) (g : 65536 < si.size) (w : World) :
    Calls Tryf.prog 5 #[.string ta, .string ra, .string pa, .string tb, .string nb, .string ot, .string oi, .string rel, .string st, .string si, .string sn] w fun e w' => e = .returned (.bool true) ∧ Below w.heap.size w w' := by
  have c0 : decide (65536 < (ta.size : Int)) = false := decide_eq_false (by omega)
  have c1 : decide (65536 < (ra.size : Int)) = false := decide_eq_false (by omega)
  have c2 : decide (65536 < (pa.size : Int)) = false := decide_eq_false (by omega)
  have c3 : decide (65536 < (tb.size : Int)) = false := decide_eq_false (by omega)
  have c4 : decide (65536 < (nb.size : Int)) = false := decide_eq_false (by omega)
  have c5 : decide (65536 < (ot.size : Int)) = false := decide_eq_false (by omega)
  have c6 : decide (65536 < (oi.size : Int)) = false := decide_eq_false (by omega)
  have c7 : decide (65536 < (rel.size : Int)) = false := decide_eq_false (by omega)
  have c8 : decide (65536 < (st.size : Int)) = false := decide_eq_false (by omega)
  have cg : decide (65536 < (si.size : Int)) = true := decide_eq_true (by omega)
  go_enter Tryf.func5, Tryf.ntmps5
  go_wp2_with fail
  refine (bytes_any ta ra pa tb nb ot oi rel st si sn h0 h1 h2 h3 h4 h5 h6 h7 h8 h9 h10 _).mono ?_
  rintro e w1 ⟨⟨b, rfl⟩, hw⟩
  subst hw
  cases b
  · go_wp2
    go_ret
    exact ⟨rfl, Below.refl _ _⟩
  · go_wp2
    go_ret
    exact ⟨rfl, Below.refl _ _⟩
set_option maxRecDepth 100000 in
set_option maxHeartbeats 800000 in
theorem long_10 (ta ra pa tb nb ot oi rel st si sn : ByteArray) (h0 : ta.size ≤ maxLen) (h1 : ra.size ≤ maxLen) (h2 : pa.size ≤ maxLen) (h3 : tb.size ≤ maxLen) (h4 : nb.size ≤ maxLen) (h5 : ot.size ≤ maxLen) (h6 : oi.size ≤ maxLen) (h7 : rel.size ≤ maxLen) (h8 : st.size ≤ maxLen) (h9 : si.size ≤ maxLen) (h10 : sn.size ≤ maxLen) (l0 : ta.size ≤ 65536) (l1 : ra.size ≤ 65536) (l2 : pa.size ≤ 65536) (l3 : tb.size ≤ 65536) (l4 : nb.size ≤ 65536) (l5 : ot.size ≤ 65536) (l6 : oi.size ≤ 65536) (l7 : rel.size ≤ 65536) (l8 : st.size ≤ 65536) (l9 : si.size ≤ 65536) (g : 65536 < sn.size) (w : World) :
    Calls Tryf.prog 5 #[.string ta, .string ra, .string pa, .string tb, .string nb, .string ot, .string oi, .string rel, .string st, .string si, .string sn] w fun e w' => e = .returned (.bool true) ∧ Below w.heap.size w w' := by
  have c0 : decide (65536 < (ta.size : Int)) = false := decide_eq_false (by omega)
  have c1 : decide (65536 < (ra.size : Int)) = false := decide_eq_false (by omega)
  have c2 : decide (65536 < (pa.size : Int)) = false := decide_eq_false (by omega)
  have c3 : decide (65536 < (tb.size : Int)) = false := decide_eq_false (by omega)
  have c4 : decide (65536 < (nb.size : Int)) = false := decide_eq_false (by omega)
  have c5 : decide (65536 < (ot.size : Int)) = false := decide_eq_false (by omega)
  have c6 : decide (65536 < (oi.size : Int)) = false := decide_eq_false (by omega)
  have c7 : decide (65536 < (rel.size : Int)) = false := decide_eq_false (by omega)
  have c8 : decide (65536 < (st.size : Int)) = false := decide_eq_false (by omega)
  have c9 : decide (65536 < (si.size : Int)) = false := decide_eq_false (by omega)
  have cg : decide (65536 < (sn.size : Int)) = true := decide_eq_true (by omega)
  go_enter Tryf.func5, Tryf.ntmps5
  go_wp2_with fail
  refine (bytes_any ta ra pa tb nb ot oi rel st si sn h0 h1 h2 h3 h4 h5 h6 h7 h8 h9 h10 _).mono ?_
  rintro e w1 ⟨⟨b, rfl⟩, hw⟩
  subst hw
  cases b
  · go_wp2
    go_ret
    exact ⟨rfl, Below.refl _ _⟩
  · go_wp2
    go_ret
    exact ⟨rfl, Below.refl _ _⟩
set_option maxRecDepth 100000 in
set_option maxHeartbeats 800000 in
theorem bad_0 (ta ra pa tb nb ot oi rel st si sn : ByteArray) (h0 : ta.size ≤ maxLen) (h1 : ra.size ≤ maxLen) (h2 : pa.size ≤ maxLen) (h3 : tb.size ≤ maxLen) (h4 : nb.size ≤ maxLen) (h5 : ot.size ≤ maxLen) (h6 : oi.size ≤ maxLen) (h7 : rel.size ≤ maxLen) (h8 : st.size ≤ maxLen) (h9 : si.size ≤ maxLen) (h10 : sn.size ≤ maxLen) (l0 : ta.size ≤ 65536) (l1 : ra.size ≤ 65536) (l2 : pa.size ≤ 65536) (l3 : tb.size ≤ 65536) (l4 : nb.size ≤ 65536) (l5 : ot.size ≤ 65536) (l6 : oi.size ≤ 65536) (l7 : rel.size ≤ 65536) (l8 : st.size ≤ 65536) (l9 : si.size ≤ 65536) (l10 : sn.size ≤ 65536)  (tg : ta.toList.isEmpty = true) (w : World) :
    Calls Tryf.prog 5 #[.string ta, .string ra, .string pa, .string tb, .string nb, .string ot, .string oi, .string rel, .string st, .string si, .string sn] w fun e w' => e = .returned (.bool true) ∧ Below w.heap.size w w' := by
  have c0 : decide (65536 < (ta.size : Int)) = false := decide_eq_false (by omega)
  have c1 : decide (65536 < (ra.size : Int)) = false := decide_eq_false (by omega)
  have c2 : decide (65536 < (pa.size : Int)) = false := decide_eq_false (by omega)
  have c3 : decide (65536 < (tb.size : Int)) = false := decide_eq_false (by omega)
  have c4 : decide (65536 < (nb.size : Int)) = false := decide_eq_false (by omega)
  have c5 : decide (65536 < (ot.size : Int)) = false := decide_eq_false (by omega)
  have c6 : decide (65536 < (oi.size : Int)) = false := decide_eq_false (by omega)
  have c7 : decide (65536 < (rel.size : Int)) = false := decide_eq_false (by omega)
  have c8 : decide (65536 < (st.size : Int)) = false := decide_eq_false (by omega)
  have c9 : decide (65536 < (si.size : Int)) = false := decide_eq_false (by omega)
  have c10 : decide (65536 < (sn.size : Int)) = false := decide_eq_false (by omega)
  go_enter Tryf.func5, Tryf.ntmps5
  go_wp2_with fail
  refine (bytes_any ta ra pa tb nb ot oi rel st si sn h0 h1 h2 h3 h4 h5 h6 h7 h8 h9 h10 _).mono ?_
  rintro e w1 ⟨⟨b, rfl⟩, hw⟩
  subst hw
  cases b
  · go_wp2
    go_ret
    exact ⟨rfl, Below.refl _ _⟩
  · go_wp2
    go_ret
    exact ⟨rfl, Below.refl _ _⟩
set_option maxRecDepth 100000 in
set_option maxHeartbeats 800000 in
theorem bad_1 (ta ra pa tb nb ot oi rel st si sn : ByteArray) (h0 : ta.size ≤ maxLen) (h1 : ra.size ≤ maxLen) (h2 : pa.size ≤ maxLen) (h3 : tb.size ≤ maxLen) (h4 : nb.size ≤ maxLen) (h5 : ot.size ≤ maxLen) (h6 : oi.size ≤ maxLen) (h7 : rel.size ≤ maxLen) (h8 : st.size ≤ maxLen) (h9 : si.size ≤ maxLen) (h10 : sn.size ≤ maxLen) (l0 : ta.size ≤ 65536) (l1 : ra.size ≤ 65536) (l2 : pa.size ≤ 65536) (l3 : tb.size ≤ 65536) (l4 : nb.size ≤ 65536) (l5 : ot.size ≤ 65536) (l6 : oi.size ≤ 65536) (l7 : rel.size ≤ 65536) (l8 : st.size ≤ 65536) (l9 : si.size ≤ 65536) (l10 : sn.size ≤ 65536) (t0 : ta.toList.isEmpty = false) (tg : ra.toList.isEmpty = true) (w : World) :
    Calls Tryf.prog 5 #[.string ta, .string ra, .string pa, .string tb, .string nb, .string ot, .string oi, .string rel, .string st, .string si, .string sn] w fun e w' => e = .returned (.bool true) ∧ Below w.heap.size w w' := by
  have c0 : decide (65536 < (ta.size : Int)) = false := decide_eq_false (by omega)
  have c1 : decide (65536 < (ra.size : Int)) = false := decide_eq_false (by omega)
  have c2 : decide (65536 < (pa.size : Int)) = false := decide_eq_false (by omega)
  have c3 : decide (65536 < (tb.size : Int)) = false := decide_eq_false (by omega)
  have c4 : decide (65536 < (nb.size : Int)) = false := decide_eq_false (by omega)
  have c5 : decide (65536 < (ot.size : Int)) = false := decide_eq_false (by omega)
  have c6 : decide (65536 < (oi.size : Int)) = false := decide_eq_false (by omega)
  have c7 : decide (65536 < (rel.size : Int)) = false := decide_eq_false (by omega)
  have c8 : decide (65536 < (st.size : Int)) = false := decide_eq_false (by omega)
  have c9 : decide (65536 < (si.size : Int)) = false := decide_eq_false (by omega)
  have c10 : decide (65536 < (sn.size : Int)) = false := decide_eq_false (by omega)
  go_enter Tryf.func5, Tryf.ntmps5
  go_wp2_with fail
  refine (bytes_any ta ra pa tb nb ot oi rel st si sn h0 h1 h2 h3 h4 h5 h6 h7 h8 h9 h10 _).mono ?_
  rintro e w1 ⟨⟨b, rfl⟩, hw⟩
  subst hw
  cases b
  · go_wp2
    go_ret
    exact ⟨rfl, Below.refl _ _⟩
  · go_wp2
    go_ret
    exact ⟨rfl, Below.refl _ _⟩
set_option maxRecDepth 100000 in
set_option maxHeartbeats 800000 in
theorem bad_2 (ta ra pa tb nb ot oi rel st si sn : ByteArray) (h0 : ta.size ≤ maxLen) (h1 : ra.size ≤ maxLen) (h2 : pa.size ≤ maxLen) (h3 : tb.size ≤ maxLen) (h4 : nb.size ≤ maxLen) (h5 : ot.size ≤ maxLen) (h6 : oi.size ≤ maxLen) (h7 : rel.size ≤ maxLen) (h8 : st.size ≤ maxLen) (h9 : si.size ≤ maxLen) (h10 : sn.size ≤ maxLen) (l0 : ta.size ≤ 65536) (l1 : ra.size ≤ 65536) (l2 : pa.size ≤ 65536) (l3 : tb.size ≤ 65536) (l4 : nb.size ≤ 65536) (l5 : ot.size ≤ 65536) (l6 : oi.size ≤ 65536) (l7 : rel.size ≤ 65536) (l8 : st.size ≤ 65536) (l9 : si.size ≤ 65536) (l10 : sn.size ≤ 65536) (t0 : ta.toList.isEmpty = false) (t1 : ra.toList.isEmpty = false) (tg : pa.toList.isEmpty = true) (w : World) :
    Calls Tryf.prog 5 #[.string ta, .string ra, .string pa, .string tb, .string nb, .string ot, .string oi, .string rel, .string st, .string si, .string sn] w fun e w' => e = .returned (.bool true) ∧ Below w.heap.size w w' := by
  have c0 : decide (65536 < (ta.size : Int)) = false := decide_eq_false (by omega)
  have c1 : decide (65536 < (ra.size : Int)) = false := decide_eq_false (by omega)
  have c2 : decide (65536 < (pa.size : Int)) = false := decide_eq_false (by omega)
  have c3 : decide (65536 < (tb.size : Int)) = false := decide_eq_false (by omega)
  have c4 : decide (65536 < (nb.size : Int)) = false := decide_eq_false (by omega)
  have c5 : decide (65536 < (ot.size : Int)) = false := decide_eq_false (by omega)
  have c6 : decide (65536 < (oi.size : Int)) = false := decide_eq_false (by omega)
  have c7 : decide (65536 < (rel.size : Int)) = false := decide_eq_false (by omega)
  have c8 : decide (65536 < (st.size : Int)) = false := decide_eq_false (by omega)
  have c9 : decide (65536 < (si.size : Int)) = false := decide_eq_false (by omega)
  have c10 : decide (65536 < (sn.size : Int)) = false := decide_eq_false (by omega)
  go_enter Tryf.func5, Tryf.ntmps5
  go_wp2_with fail
  refine (bytes_any ta ra pa tb nb ot oi rel st si sn h0 h1 h2 h3 h4 h5 h6 h7 h8 h9 h10 _).mono ?_
  rintro e w1 ⟨⟨b, rfl⟩, hw⟩
  subst hw
  cases b
  · go_wp2
    go_ret
    exact ⟨rfl, Below.refl _ _⟩
  · go_wp2
    go_ret
    exact ⟨rfl, Below.refl _ _⟩
set_option maxRecDepth 100000 in
set_option maxHeartbeats 800000 in
theorem bad_3 (ta ra pa tb nb ot oi rel st si sn : ByteArray) (h0 : ta.size ≤ maxLen) (h1 : ra.size ≤ maxLen) (h2 : pa.size ≤ maxLen) (h3 : tb.size ≤ maxLen) (h4 : nb.size ≤ maxLen) (h5 : ot.size ≤ maxLen) (h6 : oi.size ≤ maxLen) (h7 : rel.size ≤ maxLen) (h8 : st.size ≤ maxLen) (h9 : si.size ≤ maxLen) (h10 : sn.size ≤ maxLen) (l0 : ta.size ≤ 65536) (l1 : ra.size ≤ 65536) (l2 : pa.size ≤ 65536) (l3 : tb.size ≤ 65536) (l4 : nb.size ≤ 65536) (l5 : ot.size ≤ 65536) (l6 : oi.size ≤ 65536) (l7 : rel.size ≤ 65536) (l8 : st.size ≤ 65536) (l9 : si.size ≤ 65536) (l10 : sn.size ≤ 65536) (t0 : ta.toList.isEmpty = false) (t1 : ra.toList.isEmpty = false) (t2 : pa.toList.isEmpty = false) (tg : tb.toList.isEmpty = true) (w : World) :
    Calls Tryf.prog 5 #[.string ta, .string ra, .string pa, .string tb, .string nb, .string ot, .string oi, .string rel, .string st, .string si, .string sn] w fun e w' => e = .returned (.bool true) ∧ Below w.heap.size w w' := by
  have c0 : decide (65536 < (ta.size : Int)) = false := decide_eq_false (by omega)
  have c1 : decide (65536 < (ra.size : Int)) = false := decide_eq_false (by omega)
  have c2 : decide (65536 < (pa.size : Int)) = false := decide_eq_false (by omega)
  have c3 : decide (65536 < (tb.size : Int)) = false := decide_eq_false (by omega)
  have c4 : decide (65536 < (nb.size : Int)) = false := decide_eq_false (by omega)
  have c5 : decide (65536 < (ot.size : Int)) = false := decide_eq_false (by omega)
  have c6 : decide (65536 < (oi.size : Int)) = false := decide_eq_false (by omega)
  have c7 : decide (65536 < (rel.size : Int)) = false := decide_eq_false (by omega)
  have c8 : decide (65536 < (st.size : Int)) = false := decide_eq_false (by omega)
  have c9 : decide (65536 < (si.size : Int)) = false := decide_eq_false (by omega)
  have c10 : decide (65536 < (sn.size : Int)) = false := decide_eq_false (by omega)
  go_enter Tryf.func5, Tryf.ntmps5
  go_wp2_with fail
  refine (bytes_any ta ra pa tb nb ot oi rel st si sn h0 h1 h2 h3 h4 h5 h6 h7 h8 h9 h10 _).mono ?_
  rintro e w1 ⟨⟨b, rfl⟩, hw⟩
  subst hw
  cases b
  · go_wp2
    go_ret
    exact ⟨rfl, Below.refl _ _⟩
  · go_wp2
    go_ret
    exact ⟨rfl, Below.refl _ _⟩
set_option maxRecDepth 100000 in
set_option maxHeartbeats 800000 in
theorem bad_4 (ta ra pa tb nb ot oi rel st si sn : ByteArray) (h0 : ta.size ≤ maxLen) (h1 : ra.size ≤ maxLen) (h2 : pa.size ≤ maxLen) (h3 : tb.size ≤ maxLen) (h4 : nb.size ≤ maxLen) (h5 : ot.size ≤ maxLen) (h6 : oi.size ≤ maxLen) (h7 : rel.size ≤ maxLen) (h8 : st.size ≤ maxLen) (h9 : si.size ≤ maxLen) (h10 : sn.size ≤ maxLen) (l0 : ta.size ≤ 65536) (l1 : ra.size ≤ 65536) (l2 : pa.size ≤ 65536) (l3 : tb.size ≤ 65536) (l4 : nb.size ≤ 65536) (l5 : ot.size ≤ 65536) (l6 : oi.size ≤ 65536) (l7 : rel.size ≤ 65536) (l8 : st.size ≤ 65536) (l9 : si.size ≤ 65536) (l10 : sn.size ≤ 65536) (t0 : ta.toList.isEmpty = false) (t1 : ra.toList.isEmpty = false) (t2 : pa.toList.isEmpty = false) (t3 : tb.toList.isEmpty = false) (tg : nb.toList.isEmpty = true) (w : World) :
    Calls Tryf.prog 5 #[.string ta, .string ra, .string pa, .string tb, .string nb, .string ot, .string oi, .string rel, .string st, .string si, .string sn] w fun e w' => e = .returned (.bool true) ∧ Below w.heap.size w w' := by
  have c0 : decide (65536 < (ta.size : Int)) = false := decide_eq_false (by omega)
  have c1 : decide (65536 < (ra.size : Int)) = false := decide_eq_false (by omega)
  have c2 : decide (65536 < (pa.size : Int)) = false := decide_eq_false (by omega)
  have c3 : decide (65536 < (tb.size : Int)) = false := decide_eq_false (by omega)
  have c4 : decide (65536 < (nb.size : Int)) = false := decide_eq_false (by omega)
  have c5 : decide (65536 < (ot.size : Int)) = false := decide_eq_false (by omega)
  have c6 : decide (65536 < (oi.size : Int)) = false := decide_eq_false (by omega)
  have c7 : decide (65536 < (rel.size : Int)) = false := decide_eq_false (by omega)
  have c8 : decide (65536 < (st.size : Int)) = false := decide_eq_false (by omega)
  have c9 : decide (65536 < (si.size : Int)) = false := decide_eq_false (by omega)
  have c10 : decide (65536 < (sn.size : Int)) = false := decide_eq_false (by omega)
  go_enter Tryf.func5, Tryf.ntmps5
  go_wp2_with fail
  refine (bytes_any ta ra pa tb nb ot oi rel st si sn h0 h1 h2 h3 h4 h5 h6 h7 h8 h9 h10 _).mono ?_
  rintro e w1 ⟨⟨b, rfl⟩, hw⟩
  subst hw
  cases b
  · go_wp2
    go_ret
    exact ⟨rfl, Below.refl _ _⟩
  · go_wp2
    go_ret
    exact ⟨rfl, Below.refl _ _⟩
set_option maxRecDepth 100000 in
set_option maxHeartbeats 800000 in
theorem bad_5 (ta ra pa tb nb ot oi rel st si sn : ByteArray) (h0 : ta.size ≤ maxLen) (h1 : ra.size ≤ maxLen) (h2 : pa.size ≤ maxLen) (h3 : tb.size ≤ maxLen) (h4 : nb.size ≤ maxLen) (h5 : ot.size ≤ maxLen) (h6 : oi.size ≤ maxLen) (h7 : rel.size ≤ maxLen) (h8 : st.size ≤ maxLen) (h9 : si.size ≤ maxLen) (h10 : sn.size ≤ maxLen) (l0 : ta.size ≤ 65536) (l1 : ra.size ≤ 65536) (l2 : pa.size ≤ 65536) (l3 : tb.size ≤ 65536) (l4 : nb.size ≤ 65536) (l5 : ot.size ≤ 65536) (l6 : oi.size ≤ 65536) (l7 : rel.size ≤ 65536) (l8 : st.size ≤ 65536) (l9 : si.size ≤ 65536) (l10 : sn.size ≤ 65536) (t0 : ta.toList.isEmpty = false) (t1 : ra.toList.isEmpty = false) (t2 : pa.toList.isEmpty = false) (t3 : tb.toList.isEmpty = false) (t4 : nb.toList.isEmpty = false) (tg : (ta.toList == tb.toList) = true) (w : World) :
    Calls Tryf.prog 5 #[.string ta, .string ra, .string pa, .string tb, .string nb, .string ot, .string oi, .string rel, .string st, .string si, .string sn] w fun e w' => e = .returned (.bool true) ∧ Below w.heap.size w w' := by
  have c0 : decide (65536 < (ta.size : Int)) = false := decide_eq_false (by omega)
  have c1 : decide (65536 < (ra.size : Int)) = false := decide_eq_false (by omega)
  have c2 : decide (65536 < (pa.size : Int)) = false := decide_eq_false (by omega)
  have c3 : decide (65536 < (tb.size : Int)) = false := decide_eq_false (by omega)
  have c4 : decide (65536 < (nb.size : Int)) = false := decide_eq_false (by omega)
  have c5 : decide (65536 < (ot.size : Int)) = false := decide_eq_false (by omega)
  have c6 : decide (65536 < (oi.size : Int)) = false := decide_eq_false (by omega)
  have c7 : decide (65536 < (rel.size : Int)) = false := decide_eq_false (by omega)
  have c8 : decide (65536 < (st.size : Int)) = false := decide_eq_false (by omega)
  have c9 : decide (65536 < (si.size : Int)) = false := decide_eq_false (by omega)
  have c10 : decide (65536 < (sn.size : Int)) = false := decide_eq_false (by omega)
  go_enter Tryf.func5, Tryf.ntmps5
  go_wp2_with fail
  refine (bytes_any ta ra pa tb nb ot oi rel st si sn h0 h1 h2 h3 h4 h5 h6 h7 h8 h9 h10 _).mono ?_
  rintro e w1 ⟨⟨b, rfl⟩, hw⟩
  subst hw
  cases b
  · go_wp2
    go_ret
    exact ⟨rfl, Below.refl _ _⟩
  · go_wp2
    go_ret
    exact ⟨rfl, Below.refl _ _⟩
set_option maxRecDepth 100000 in
set_option maxHeartbeats 800000 in
theorem bad_6 (ta ra pa tb nb ot oi rel st si sn : ByteArray) (h0 : ta.size ≤ maxLen) (h1 : ra.size ≤ maxLen) (h2 : pa.size ≤ maxLen) (h3 : tb.size ≤ maxLen) (h4 : nb.size ≤ maxLen) (h5 : ot.size ≤ maxLen) (h6 : oi.size ≤ maxLen) (h7 : rel.size ≤ maxLen) (h8 : st.size ≤ maxLen) (h9 : si.size ≤ maxLen) (h10 : sn.size ≤ maxLen) (l0 : ta.size ≤ 65536) (l1 : ra.size ≤ 65536) (l2 : pa.size ≤ 65536) (l3 : tb.size ≤ 65536) (l4 : nb.size ≤ 65536) (l5 : ot.size ≤ 65536) (l6 : oi.size ≤ 65536) (l7 : rel.size ≤ 65536) (l8 : st.size ≤ 65536) (l9 : si.size ≤ 65536) (l10 : sn.size ≤ 65536) (t0 : ta.toList.isEmpty = false) (t1 : ra.toList.isEmpty = false) (t2 : pa.toList.isEmpty = false) (t3 : tb.toList.isEmpty = false) (t4 : nb.toList.isEmpty = false) (t5 : (ta.toList == tb.toList) = false) (tg : (ra.toList == pa.toList) = true) (w : World) :
    Calls Tryf.prog 5 #[.string ta, .string ra, .string pa, .string tb, .string nb, .string ot, .string oi, .string rel, .string st, .string si, .string sn] w fun e w' => e = .returned (.bool true) ∧ Below w.heap.size w w' := by
  have c0 : decide (65536 < (ta.size : Int)) = false := decide_eq_false (by omega)
  have c1 : decide (65536 < (ra.size : Int)) = false := decide_eq_false (by omega)
  have c2 : decide (65536 < (pa.size : Int)) = false := decide_eq_false (by omega)
  have c3 : decide (65536 < (tb.size : Int)) = false := decide_eq_false (by omega)
  have c4 : decide (65536 < (nb.size : Int)) = false := decide_eq_false (by omega)
  have c5 : decide (65536 < (ot.size : Int)) = false := decide_eq_false (by omega)
  have c6 : decide (65536 < (oi.size : Int)) = false := decide_eq_false (by omega)
  have c7 : decide (65536 < (rel.size : Int)) = false := decide_eq_false (by omega)
  have c8 : decide (65536 < (st.size : Int)) = false := decide_eq_false (by omega)
  have c9 : decide (65536 < (si.size : Int)) = false := decide_eq_false (by omega)
  have c10 : decide (65536 < (sn.size : Int)) = false := decide_eq_false (by omega)
  go_enter Tryf.func5, Tryf.ntmps5
  go_wp2_with fail
  refine (bytes_any ta ra pa tb nb ot oi rel st si sn h0 h1 h2 h3 h4 h5 h6 h7 h8 h9 h10 _).mono ?_
  rintro e w1 ⟨⟨b, rfl⟩, hw⟩
  subst hw
  cases b
  · go_wp2
    go_ret
    exact ⟨rfl, Below.refl _ _⟩
  · go_wp2
    go_ret
    exact ⟨rfl, Below.refl _ _⟩
end Go.Proofs.Qxb6618538aFmt
