/-
  ZZbind (14), relB1 (9), the bound on lengths (12).
-/
import Derived.Test.Qxb6618538aFmtBindAll
import Derived.BigRegion
namespace Go.Proofs.Qxb6618538aFmt
open Go.RowKit Go.Extern.Stop Go.Stop Go.Extern
set_option linter.unusedVariables false

section
variable {ta ra pa tb nb : ByteArray} {bs bm pA pB mA mB dR dP dN : Nat} {avR avN : Value}

theorem prelude14 (w : World) (cs ds es : Array Value) : rowAt (((w.alloc (.cells cs 31)).alloc (.cells ds 29)).alloc (.cells es 29)) w.heap.size 31 cs ∧ rowAt (((w.alloc (.cells cs 31)).alloc (.cells ds 29)).alloc (.cells es 29)) (w.heap.size + 1) 29 ds ∧
    rowAt (((w.alloc (.cells cs 31)).alloc (.cells ds 29)).alloc (.cells es 29)) (w.heap.size + 1 + 1) 29 es ∧ Below w.heap.size w (((w.alloc (.cells cs 31)).alloc (.cells ds 29)).alloc (.cells es 29)) := by
  refine ⟨?_, ?_, ?_, (((Below.refl _ w).alloc (Nat.le_refl _) _).alloc (by simp) _).alloc (by simp; omega) _⟩
  · exact (rowAt_alloc w 31 cs).of_block ((Below.heap_alloc _ _ _ (by simp; omega)).trans (Below.heap_alloc _ _ _ (by simp)))
  · have := (rowAt_alloc (w.alloc (.cells cs 31)) 29 ds).of_block (Below.heap_alloc _ (.cells es 29) _ (by simp))
    simpa using this
  · have := rowAt_alloc ((w.alloc (.cells cs 31)).alloc (.cells ds 29)) 29 es
    simpa using this

/-- the return: two results lie in variables -/
theorem ret14 {Q : Ending → World → Prop} {a : Act} {W : World} {b c : Nat} {t4 t5 t6 t7 er u0 u1 u2 u3 : Value} (hr : rowAt W b 29 #[u0, u1]) (hs : rowAt W c 29 #[u2, u3])
    (h4 : a.tmps.getD 4 undef = t4) (h5 : a.tmps.getD 5 undef = t5) (h6 : a.tmps.getD 6 undef = t6) (h7 : a.tmps.getD 7 undef = t7) (h8 : a.tmps.getD 8 undef = .pointer (some ⟨b, 0, none⟩)) (h9 : a.tmps.getD 9 undef = .pointer (some ⟨c, 0, none⟩)) (h10 : a.tmps.getD 10 undef = er)
    (hd : a.defers = []) (hQ : Q (.returned (.tuple #[t4, t5, t6, t7, .agg #[u0, u1], .agg #[u2, u3], er])) W) : bodyPost Tryf.prog Tryf.f14 Q Exit.ret a W := by
  have e4 : a.tmps[4]?.getD undef = t4 := by rw [← h4]; simp
  have e5 : a.tmps[5]?.getD undef = t5 := by rw [← h5]; simp
  have e6 : a.tmps[6]?.getD undef = t6 := by rw [← h6]; simp
  have e7 : a.tmps[7]?.getD undef = t7 := by rw [← h7]; simp
  have e8 : a.tmps[8]?.getD undef = .pointer (some ⟨b, 0, none⟩) := by rw [← h8]; simp
  have e9 : a.tmps[9]?.getD undef = .pointer (some ⟨c, 0, none⟩) := by rw [← h9]; simp
  have e10 : a.tmps[10]?.getD undef = er := by rw [← h10]; simp
  have c0 : W.cell? ⟨b, 0, none⟩ = some u0 := hr.cell 0
  have c1 : W.cell? ⟨b, 1, none⟩ = some u1 := hr.cell 1
  have c2 : W.cell? ⟨c, 0, none⟩ = some u2 := hs.cell 0
  have c3 : W.cell? ⟨c, 1, none⟩ = some u3 := hs.cell 1
  exact bodyPost_ret (v := .tuple #[t4, t5, t6, t7, .agg #[u0, u1], .agg #[u2, u3], er]) (by simp [results, Tryf.results14, go_sem, e4, e5, e6, e7, e8, e9, e10, c0, c1, c2, c3]) hd hQ

/-- the world behind ZZbind's two stores -/
def end14 (w1 : World) (b c : Nat) (u0 u1 u2 u3 : Value) (o : Obj) : World :=
  (((((w1.setCell ⟨b, 0, none⟩ u0).setCell ⟨b, 1, none⟩ u1).setCell ⟨c, 0, none⟩ u2).setCell ⟨c, 1, none⟩ u3).alloc o).drew
theorem end14_rows {w1 : World} {b c : Nat} {x0 x1 x2 x3 : Value} (hb : rowAt w1 b 29 #[x0, x1]) (hc : rowAt w1 c 29 #[x2, x3]) (hbc : b ≠ c) (u0 u1 u2 u3 : Value) (o : Obj) :
    rowAt (end14 w1 b c u0 u1 u2 u3 o) b 29 #[u0, u1] ∧ rowAt (end14 w1 b c u0 u1 u2 u3 o) c 29 #[u2, u3] := by
  have g1 : rowAt ((w1.setCell ⟨b, 0, none⟩ u0).setCell ⟨b, 1, none⟩ u1) b 29 #[u0, u1] := by
    have := (hb.set 0 u0).set 1 u1
    simpa using this
  have g2 : rowAt ((w1.setCell ⟨b, 0, none⟩ u0).setCell ⟨b, 1, none⟩ u1) c 29 #[x2, x3] := hc.of_block ((Below.heap_setCell _ _ _ _ (fun e => hbc e.symm)).trans (Below.heap_setCell _ _ _ _ (fun e => hbc e.symm)))
  have k1 : rowAt ((((w1.setCell ⟨b, 0, none⟩ u0).setCell ⟨b, 1, none⟩ u1).setCell ⟨c, 0, none⟩ u2).setCell ⟨c, 1, none⟩ u3) b 29 #[u0, u1] := g1.of_block ((Below.heap_setCell _ _ _ _ hbc).trans (Below.heap_setCell _ _ _ _ hbc))
  have k2 : rowAt ((((w1.setCell ⟨b, 0, none⟩ u0).setCell ⟨b, 1, none⟩ u1).setCell ⟨c, 0, none⟩ u2).setCell ⟨c, 1, none⟩ u3) c 29 #[u2, u3] := by
    have := (g2.set 0 u2).set 1 u3
    simpa using this
  exact ⟨k1.of_block (Below.heap_alloc _ _ _ k1.lt), k2.of_block (Below.heap_alloc _ _ _ k2.lt)⟩
theorem end14_below {B : Nat} {a w1 : World} {b c : Nat} (h : Below B a w1) (hb : B ≤ b) (hc : B ≤ c) (hB : B ≤ w1.heap.size) (u0 u1 u2 u3 : Value) (o : Obj) : Below B a (end14 w1 b c u0 u1 u2 u3 o) :=
  (((((h.setCell (p := ⟨b, 0, none⟩) hb _).setCell (p := ⟨b, 1, none⟩) hb _).setCell (p := ⟨c, 0, none⟩) hc _).setCell (p := ⟨c, 1, none⟩) hc _).alloc (by simp [World.setCell]; exact hB) _).drew

set_option maxRecDepth 100000 in
set_option maxHeartbeats 1600000 in
theorem zzbind_any (F : Interp) (ot oi rel st si sn : ByteArray) (w : World) (hF : F.answers w.tape) (hab : ta ≠ tb) (hrp : ra ≠ pa) (S : Sch w ta ra pa tb nb bs bm pA pB mA mB dR dP dN avR avN)
    (z1 : ta.size ≤ 65536) (z2 : tb.size ≤ 65536) (z3 : nb.size ≤ 65536) (z4 : st.size ≤ 65536) (z5 : sn.size ≤ 65536) :
    Calls Tryf.prog 14 #[.pointer (some ⟨bs, 0, none⟩), .agg #[.string ot, .string oi, .string rel, .string st, .string si, .string sn]] w fun e w' =>
      (∃ (s1 s2 s3 s4 : ByteArray) (p1 p2 p3 p4 : Option Addr) (er : Value), e = .returned (.tuple #[.pointer p1, .pointer p2, .pointer p3, .pointer p4, .agg #[.string s1, .string s2], .agg #[.string s3, .string s4], er]) ∧
        ((er = .nilIface ∧ want ta ra pa tb nb ot rel st) ∨ ∃ a, er = .iface 85 (.pointer (some a)))) ∧ Below w.heap.size w w' := by
  go_enter Tryf.func14, Tryf.ntmps14
  go_wp2_with fail
  obtain ⟨y0, y1, y2, B0⟩ := prelude14 w #[.string ot, .string oi, .string rel, .string st, .string si, .string sn] #[.string ⟨#[]⟩, .string ⟨#[]⟩] #[.string ⟨#[]⟩, .string ⟨#[]⟩]
  refine (bind_any F ot oi rel st si sn _ (by exact hF) hab hrp (S.below B0) z1 z2 z3 z4 z5).mono ?_
  rintro e w1 ⟨⟨s1, s2, s3, s4, p1, p2, p3, p4, er, rfl, her⟩, hb⟩
  have Y1 : rowAt w1 (w.heap.size + 1) 29 #[.string ⟨#[]⟩, .string ⟨#[]⟩] := below_row hb y1 y1.lt
  have Y2 : rowAt w1 (w.heap.size + 1 + 1) 29 #[.string ⟨#[]⟩, .string ⟨#[]⟩] := below_row hb y2 y2.lt
  have h1 := Y1.lt
  have h2 := Y2.lt
  have B1 : Below w.heap.size w w1 := B0.trans (hb.mono (by simp; omega))
  have a0 : w1.cell? ⟨w.heap.size + 1, 0, none⟩ = some (.string ⟨#[]⟩) := Y1.cell 0
  have a1 : w1.cell? ⟨w.heap.size + 1, 1, none⟩ = some (.string ⟨#[]⟩) := Y1.cell 1
  have b0 : w1.cell? ⟨w.heap.size + 1 + 1, 0, none⟩ = some (.string ⟨#[]⟩) := Y2.cell 0
  have b1 : w1.cell? ⟨w.heap.size + 1 + 1, 1, none⟩ = some (.string ⟨#[]⟩) := Y2.cell 1
  have fa := fun i => Y1.frozen i
  have fb := fun i => Y2.frozen i
  have HER : Hid ((er = .nilIface ∧ want ta ra pa tb nb ot rel st) ∨ ∃ a, er = .iface 85 (.pointer (some a))) := her
  clear her y0 y1 y2 B0 hb
  go_wp2_with fail
  go_region
  go_wp2
  obtain ⟨G1, G2⟩ := end14_rows Y1 Y2 (by omega) (.string s1) (.string s2) (.string s3) (.string s4) (.cells #[.string s1, .string s2, .string s3, .string s4, .pointer p1, .pointer p2, .pointer p3, .pointer p4] 49)
  exact ret14 (W := end14 w1 (w.heap.size + 1) (w.heap.size + 1 + 1) (.string s1) (.string s2) (.string s3) (.string s4) (.cells #[.string s1, .string s2, .string s3, .string s4, .pointer p1, .pointer p2, .pointer p3, .pointer p4] 49)) G1 G2 rfl rfl rfl rfl rfl rfl rfl rfl ⟨⟨s1, s2, s3, s4, p1, p2, p3, p4, er, rfl, HER.out⟩, end14_below B1 (by omega) (by omega) B1.size _ _ _ _ _⟩
end
end Go.Proofs.Qxb6618538aFmt
