/-
  bind (21): way by way.
-/
import Derived.Test.Qxb6618538aFmtQuery
namespace Go.Proofs.Qxb6618538aFmt
open Go.RowKit Go.Extern.Stop Go.Stop Go.Extern
set_option linter.unusedVariables false

/-- the zero binding -/
def noBind : Array Value := #[.string ⟨#[]⟩, .string ⟨#[]⟩, .string ⟨#[]⟩, .string ⟨#[]⟩, .pointer none, .pointer none, .pointer none, .pointer none]

/-- the cells of the result's variable, one by one -/
theorem eight {w : World} {b : Nat} {v0 v1 v2 v3 v4 v5 v6 v7 : Value} (h : rowAt w b 49 #[v0, v1, v2, v3, v4, v5, v6, v7]) :
    w.cell? ⟨b, 0, none⟩ = some v0 ∧ w.cell? ⟨b, 1, none⟩ = some v1 ∧ w.cell? ⟨b, 2, none⟩ = some v2 ∧ w.cell? ⟨b, 3, none⟩ = some v3 ∧ w.cell? ⟨b, 4, none⟩ = some v4 ∧ w.cell? ⟨b, 5, none⟩ = some v5 ∧ w.cell? ⟨b, 6, none⟩ = some v6 ∧ w.cell? ⟨b, 7, none⟩ = some v7 :=
  ⟨h.cell 0, h.cell 1, h.cell 2, h.cell 3, h.cell 4, h.cell 5, h.cell 6, h.cell 7⟩
theorem six {w : World} {b : Nat} {v0 v1 v2 v3 v4 v5 : Value} (h : rowAt w b 31 #[v0, v1, v2, v3, v4, v5]) :
    w.cell? ⟨b, 0, none⟩ = some v0 ∧ w.cell? ⟨b, 1, none⟩ = some v1 ∧ w.cell? ⟨b, 2, none⟩ = some v2 ∧ w.cell? ⟨b, 3, none⟩ = some v3 ∧ w.cell? ⟨b, 4, none⟩ = some v4 ∧ w.cell? ⟨b, 5, none⟩ = some v5 :=
  ⟨h.cell 0, h.cell 1, h.cell 2, h.cell 3, h.cell 4, h.cell 5⟩
/-- the two blocks that bind lays first -/
theorem prelude (w : World) (v0 v1 v2 v3 v4 v5 : Value) (cs : Array Value) : rowAt ((w.alloc (.cells #[v0, v1, v2, v3, v4, v5] 31)).alloc (.cells cs 49)) w.heap.size 31 #[v0, v1, v2, v3, v4, v5] ∧
    rowAt ((w.alloc (.cells #[v0, v1, v2, v3, v4, v5] 31)).alloc (.cells cs 49)) (w.heap.size + 1) 49 cs ∧ Below w.heap.size w ((w.alloc (.cells #[v0, v1, v2, v3, v4, v5] 31)).alloc (.cells cs 49)) := by
  refine ⟨(rowAt_alloc w 31 _).of_block (Below.heap_alloc _ _ _ (by simp)), ?_, ((Below.refl _ w).alloc (Nat.le_refl _) _).alloc (by simp) _⟩
  have := rowAt_alloc (w.alloc (.cells #[v0, v1, v2, v3, v4, v5] 31)) 49 cs
  simpa using this

/-- the function's return: the binding is read out of its variable -/
theorem ret_bind {Q : Ending → World → Prop} {a : Act} {W : World} {b : Nat} {er v0 v1 v2 v3 v4 v5 v6 v7 : Value} (hr : rowAt W b 49 #[v0, v1, v2, v3, v4, v5, v6, v7]) (h4 : a.tmps.getD 4 undef = .pointer (some ⟨b, 0, none⟩)) (h5 : a.tmps.getD 5 undef = er)
    (hd : a.defers = []) (hQ : Q (.returned (.tuple #[.agg #[v0, v1, v2, v3, v4, v5, v6, v7], er])) W) : bodyPost Tryf.prog Tryf.f21 Q Exit.ret a W := by
  obtain ⟨c0, c1, c2, c3, c4, c5, c6, c7⟩ := eight hr
  have h4' : a.tmps[4]?.getD undef = .pointer (some ⟨b, 0, none⟩) := by rw [← h4]; simp
  have h5' : a.tmps[5]?.getD undef = er := by rw [← h5]; simp
  exact bodyPost_ret (v := .tuple #[.agg #[v0, v1, v2, v3, v4, v5, v6, v7], er]) (by simp [results, Tryf.results21, go_sem, h4', h5', c0, c1, c2, c3, c4, c5, c6, c7]) hd hQ

/-- 'return binding{}, err': the zero binding stored into the result's variable -/
def clear8 (w : World) (b : Nat) : World :=
  (((((((w.setCell ⟨b, 0, none⟩ (.string ⟨#[]⟩)).setCell ⟨b, 1, none⟩ (.string ⟨#[]⟩)).setCell ⟨b, 2, none⟩ (.string ⟨#[]⟩)).setCell ⟨b, 3, none⟩ (.string ⟨#[]⟩)).setCell ⟨b, 4, none⟩ (.pointer none)).setCell ⟨b, 5, none⟩ (.pointer none)).setCell ⟨b, 6, none⟩ (.pointer none)).setCell ⟨b, 7, none⟩ (.pointer none)
theorem clear8_row {w : World} {b : Nat} {v0 v1 v2 v3 v4 v5 v6 v7 : Value} (h : rowAt w b 49 #[v0, v1, v2, v3, v4, v5, v6, v7]) : rowAt (clear8 w b) b 49 noBind := by
  have g := (((((((h.set 0 (.string ⟨#[]⟩)).set 1 (.string ⟨#[]⟩)).set 2 (.string ⟨#[]⟩)).set 3 (.string ⟨#[]⟩)).set 4 (.pointer none)).set 5 (.pointer none)).set 6 (.pointer none)).set 7 (.pointer none)
  simpa [clear8, noBind] using g
theorem clear8_below {B : Nat} {a w : World} {b : Nat} (h : Below B a w) (hb : B ≤ b) : Below B a (clear8 w b) :=
  (((((((h.setCell (p := ⟨b, 0, none⟩) hb _).setCell (p := ⟨b, 1, none⟩) hb _).setCell (p := ⟨b, 2, none⟩) hb _).setCell (p := ⟨b, 3, none⟩) hb _).setCell (p := ⟨b, 4, none⟩) hb _).setCell (p := ⟨b, 5, none⟩) hb _).setCell (p := ⟨b, 6, none⟩) hb _).setCell (p := ⟨b, 7, none⟩) hb _
theorem ret_none {Q : Ending → World → Prop} {a : Act} {W : World} {b : Nat} {er v0 v1 v2 v3 v4 v5 v6 v7 : Value} (hr : rowAt W b 49 #[v0, v1, v2, v3, v4, v5, v6, v7]) (h4 : a.tmps.getD 4 undef = .pointer (some ⟨b, 0, none⟩)) (h5 : a.tmps.getD 5 undef = er)
    (hd : a.defers = []) (hQ : Q (.returned (.tuple #[.agg noBind, er])) (clear8 W b)) : bodyPost Tryf.prog Tryf.f21 Q Exit.ret a (clear8 W b) :=
  ret_bind (clear8_row hr) h4 h5 hd hQ

set_option maxHeartbeats 800000 in
theorem bind_notype (F : Interp) (bs bm : Nat) (tv : Value) (kvs : List (ByteArray × Value)) (ot oi rel st si sn : ByteArray) (w : World) (hF : F.answers w.tape)
    (hs : rowAt w bs 55 #[tv, .map (some bm)]) (hm : strMap w bm kvs) (hf : findS (.pointer none) kvs ot = .pointer none) :
    Calls Tryf.prog 21 #[.pointer (some ⟨bs, 0, none⟩), .agg #[.string ot, .string oi, .string rel, .string st, .string si, .string sn]] w fun e w' => (∃ a, e = .returned (.tuple #[.agg noBind, .iface 85 (.pointer (some a))])) ∧ Below w.heap.size w w' := by
  go_enter Tryf.func21, Tryf.ntmps21
  go_wp2_with fail
  obtain ⟨q1, q2, B0⟩ := prelude w (.string ot) (.string oi) (.string rel) (.string st) (.string si) (.string sn) noBind
  refine (named_miss F bs bm tv kvs ot _ (by exact hF) (below_row B0 hs hs.lt) (below_map B0 hm hm.lt) hf).mono ?_
  rintro e w1 ⟨⟨a, rfl⟩, hb⟩
  have z1 : w.heap.size + 1 < w1.heap.size := by have := hb.size; simp at this; omega
  have Q2 := below_row hb q2 q2.lt
  have B1 : Below w.heap.size w w1 := B0.trans (hb.mono (by simp; omega))
  obtain ⟨c0, c1, c2, c3, c4, c5, c6, c7⟩ := eight Q2
  have f0 := fun i => Q2.frozen i
  clear q1 q2 B0 hb
  go_wp2
  exact ret_none (W := w1) (b := w.heap.size + 1) (er := .iface 85 (.pointer (some a))) Q2 rfl rfl rfl ⟨⟨a, rfl⟩, clear8_below B1 (Nat.le_succ _)⟩
end Go.Proofs.Qxb6618538aFmt
