/-
  bind (21): a form of the relation fits: the first such one is taken.
-/
import Derived.Test.Qxb6618538aFmtBindNone
namespace Go.Proofs.Qxb6618538aFmt
open Go.RowKit Go.Extern.Stop Go.Stop Go.Extern
set_option linter.unusedVariables false

def put8 (w : World) (b : Nat) (v0 v1 v2 v3 v4 v5 v6 v7 : Value) : World :=
  (((((((w.setCell ⟨b, 0, none⟩ v0).setCell ⟨b, 1, none⟩ v1).setCell ⟨b, 2, none⟩ v2).setCell ⟨b, 3, none⟩ v3).setCell ⟨b, 4, none⟩ v4).setCell ⟨b, 5, none⟩ v5).setCell ⟨b, 6, none⟩ v6).setCell ⟨b, 7, none⟩ v7
theorem put8_row {w : World} {b : Nat} {u0 u1 u2 u3 u4 u5 u6 u7 : Value} (h : rowAt w b 49 #[u0, u1, u2, u3, u4, u5, u6, u7]) (v0 v1 v2 v3 v4 v5 v6 v7 : Value) : rowAt (put8 w b v0 v1 v2 v3 v4 v5 v6 v7) b 49 #[v0, v1, v2, v3, v4, v5, v6, v7] := by
  have g := ((((((((h.set 0 v0).set 1 v1).set 2 v2).set 3 v3).set 4 v4).set 5 v5).set 6 v6).set 7 v7)
  simpa [put8] using g
theorem put8_below {B : Nat} {a w : World} {b : Nat} (h : Below B a w) (hb : B ≤ b) (v0 v1 v2 v3 v4 v5 v6 v7 : Value) : Below B a (put8 w b v0 v1 v2 v3 v4 v5 v6 v7) :=
  ((((((((h.setCell (p := ⟨b, 0, none⟩) hb _).setCell (p := ⟨b, 1, none⟩) hb _).setCell (p := ⟨b, 2, none⟩) hb _).setCell (p := ⟨b, 3, none⟩) hb _).setCell (p := ⟨b, 4, none⟩) hb _).setCell (p := ⟨b, 5, none⟩) hb _).setCell (p := ⟨b, 6, none⟩) hb _).setCell (p := ⟨b, 7, none⟩) hb _)
theorem put8_size (w : World) (b : Nat) (v0 v1 v2 v3 v4 v5 v6 v7 : Value) : (put8 w b v0 v1 v2 v3 v4 v5 v6 v7).heap.size = w.heap.size := by
  simp [put8, World.setCell]
theorem ret_some {Q : Ending → World → Prop} {a : Act} {W : World} {b : Nat} {o : Obj} {er u0 u1 u2 u3 u4 u5 u6 u7 v0 v1 v2 v3 v4 v5 v6 v7 : Value} (hr : rowAt W b 49 #[u0, u1, u2, u3, u4, u5, u6, u7]) (h4 : a.tmps.getD 4 undef = .pointer (some ⟨b, 0, none⟩)) (h5 : a.tmps.getD 5 undef = er)
    (hd : a.defers = []) (hQ : Q (.returned (.tuple #[.agg #[v0, v1, v2, v3, v4, v5, v6, v7], er])) ((put8 W b v0 v1 v2 v3 v4 v5 v6 v7).alloc o)) : bodyPost Tryf.prog Tryf.f21 Q Exit.ret a ((put8 W b v0 v1 v2 v3 v4 v5 v6 v7).alloc o) := by
  have g := put8_row hr v0 v1 v2 v3 v4 v5 v6 v7
  exact ret_bind (g.of_block (Below.heap_alloc _ _ _ g.lt)) h4 h5 hd hQ

set_option maxRecDepth 100000 in
set_option maxHeartbeats 1600000 in
theorem bind_hit (bs bm po mo pd g n cap : Nat) (tv i l dv r pl di dl dr u1 u2 u3 : Value) (kvs ms : List (ByteArray × Value)) (T N : Nat → ByteArray) (X Y : Nat → Option Addr) (ty dn ot oi rel st si sn : ByteArray) (j0 : Nat) (w : World)
    (hs : rowAt w bs 55 #[tv, .map (some bm)]) (hm : strMap w bm kvs) (hf : findS (.pointer none) kvs ot = .pointer (some ⟨po, 0, none⟩))
    (ho : rowAt w po 60 #[i, .string ty, l, dv, .map (some mo), r, pl]) (hmo : strMap w mo ms) (hg : findS (.pointer none) ms rel = .pointer (some ⟨pd, 0, none⟩))
    (hd : rowAt w pd 65 #[di, .string dn, dl, .bool false, dr, .slice (some ⟨g, 0, none⟩) n cap, u1, u2, u3]) (hn : n ≤ 2)
    (hrow : ∀ j, j < n → w.cell? ⟨g, j * 4, none⟩ = some (.string (T j)) ∧ w.cell? ⟨g, j * 4 + 1, none⟩ = some (.string (N j)) ∧ w.cell? ⟨g, j * 4 + 2, none⟩ = some (.pointer (X j)) ∧ w.cell? ⟨g, j * 4 + 3, none⟩ = some (.pointer (Y j)))
    (hno : ∀ j, j < j0 → ¬ (T j = st ∧ N j = sn)) (hgl : g < w.heap.size) (hj0 : j0 < n) (hT0 : T j0 = st) (hN0 : N j0 = sn) :
    Calls Tryf.prog 21 #[.pointer (some ⟨bs, 0, none⟩), .agg #[.string ot, .string oi, .string rel, .string st, .string si, .string sn]] w fun e w' => e = .returned (.tuple #[.agg #[.string ot, .string oi, .string st, .string si, .pointer (some ⟨po, 0, none⟩), .pointer (X j0), .pointer (some ⟨pd, 0, none⟩), .pointer (Y j0)], .nilIface]) ∧ Below w.heap.size w w' := by
  have c1 := ho.cell 1
  have c4 := ho.cell 4
  have hl := ho.lt
  have e1 := hd.cell 1
  have e3 := hd.cell 3
  have e5 := hd.cell 5
  have hl2 := hd.lt
  simp at c1 c4 e1 e3 e5
  obtain ⟨q1, q2, B0⟩ := prelude w (.string ot) (.string oi) (.string rel) (.string st) (.string si) (.string sn) noBind
  have hlk : ∀ n, (Instr.lookup 56 (.map (some mo)) (.string rel) false).run Tryf.prog (((w.alloc (.cells #[.string ot, .string oi, .string rel, .string st, .string si, .string sn] 31)).alloc (.cells noBind 49)).drewN n) = .ok (.pointer (some ⟨pd, 0, none⟩)) _ := fun n => by
    rw [← hg]
    exact strMap.look (w := ((w.alloc _).alloc _).drewN n) (below_map (below_drewN B0 n) hmo hmo.lt) Tryf.underlying56 Tryf.underlying9 (Tryf.zero25 _) rel
  have HF' : Hid (findS (.pointer none) kvs ot = .pointer (some ⟨po, 0, none⟩)) := hf
  have HR : Hid (∀ j, j < n → w.cell? ⟨g, j * 4, none⟩ = some (.string (T j)) ∧ w.cell? ⟨g, j * 4 + 1, none⟩ = some (.string (N j)) ∧ w.cell? ⟨g, j * 4 + 2, none⟩ = some (.pointer (X j)) ∧ w.cell? ⟨g, j * 4 + 3, none⟩ = some (.pointer (Y j))) := hrow
  have HN : Hid (∀ j, j < j0 → ¬ (T j = st ∧ N j = sn)) := hno
  clear hg hf hrow hno
  go_enter Tryf.func21, Tryf.ntmps21
  go_wp2_with fail
  refine (named_hit bs bm tv kvs ot _ _ (below_row B0 hs hs.lt) (below_map B0 hm hm.lt) HF'.out).mono ?_
  rintro e w1 ⟨rfl, hw⟩
  subst hw
  go_wp2_with fail
  go_quiet (fail)
  go_wp2_with fail
  go_loopw [69] (fun t wr => ∃ k : Nat, k ≤ j0 ∧ t = .int .i64 k ∧ Below (w.heap.size + 2) ((w.alloc (.cells #[.string ot, .string oi, .string rel, .string st, .string si, .string sn] 31)).alloc (.cells noBind 49)) wr) (fun t _ => j0 - (intOf t).toNat)
  case atStart => exact ⟨0, Nat.zero_le _, rfl, below_drewN (Below.refl _ _) _⟩
  case round =>
    obtain ⟨k, hk, rfl, hb⟩ := hrel
    have hz : w.heap.size + 2 ≤ wr.heap.size := by have := hb.size; simp at this; omega
    have R1 : rowAt wr w.heap.size 31 #[.string ot, .string oi, .string rel, .string st, .string si, .string sn] := below_row hb q1 (by omega)
    obtain ⟨r0, r1, r2, r3, r4, r5⟩ := six R1
    have hz1 : w.heap.size < wr.heap.size := by omega
    have hpd : pd < wr.heap.size := by omega
    have hpo : po < wr.heap.size := by omega
    have D1 : rowAt wr pd 65 #[di, .string dn, dl, .bool false, dr, .slice (some ⟨g, 0, none⟩) n cap, u1, u2, u3] := below_row hb (below_row B0 hd hl2) (by omega)
    have O1 : rowAt wr po 60 #[i, .string ty, l, dv, .map (some mo), r, pl] := below_row hb (below_row B0 ho hl) (by omega)
    have x1 := D1.cell 1
    have x5 := D1.cell 5
    have y1 := O1.cell 1
    simp at x1 x5 y1
    obtain ⟨f0, f1, f2, f3⟩ := HR.out k (by omega)
    have g0 : wr.cell? ⟨g, k * 4, none⟩ = some (.string (T k)) := (hb.cell (p := ⟨g, k * 4, none⟩) (by show g < _; omega)).trans ((B0.cell (p := ⟨g, k * 4, none⟩) hgl).trans f0)
    have g1 : wr.cell? ⟨g, k * 4 + 1, none⟩ = some (.string (N k)) := (hb.cell (p := ⟨g, k * 4 + 1, none⟩) (by show g < _; omega)).trans ((B0.cell (p := ⟨g, k * 4 + 1, none⟩) hgl).trans f1)
    have g2 : wr.cell? ⟨g, k * 4 + 2, none⟩ = some (.pointer (X k)) := (hb.cell (p := ⟨g, k * 4 + 2, none⟩) (by show g < _; omega)).trans ((B0.cell (p := ⟨g, k * 4 + 2, none⟩) hgl).trans f2)
    have g3 : wr.cell? ⟨g, k * 4 + 3, none⟩ = some (.pointer (Y k)) := (hb.cell (p := ⟨g, k * 4 + 3, none⟩) (by show g < _; omega)).trans ((B0.cell (p := ⟨g, k * 4 + 3, none⟩) hgl).trans f3)
    clear f0 f1 f2 f3
    have hkn : k < n := by omega
    by_cases hlt : k < j0
    · by_cases hT : T k = st
      · have b1 : ((T k).toList == st.toList) = true := by rw [hT]; exact beq_iff_eq.2 rfl
        have b2 : ((N k).toList == sn.toList) = false := toList_ne (fun e => HN.out k hlt ⟨hT, e⟩)
        clear hT
        go_wp2
        go_roundw
        case rel => exact ⟨k + 1, by omega, by go_num, hb.alloc (by omega) _⟩
        case measure => simp [intOf]; omega
      · have b1 : ((T k).toList == st.toList) = false := toList_ne hT
        clear hT
        go_wp2
        go_roundw
        case rel => exact ⟨k + 1, by omega, by go_num, hb.alloc (by omega) _⟩
        case measure => simp [intOf]; omega
    · have ek : k = j0 := by omega
      subst ek
      have b1 : ((T k).toList == st.toList) = true := by rw [hT0]; exact beq_iff_eq.2 rfl
      have b2 : ((N k).toList == sn.toList) = true := by rw [hN0]; exact beq_iff_eq.2 rfl
      have P1 : rowAt wr (w.heap.size + 1) 49 noBind := below_row hb q2 (by omega)
      obtain ⟨d0, d1, d2, d3, d4, d5, d6, d7⟩ := eight P1
      have fz := fun i => P1.frozen i
      have hz2 : w.heap.size + 1 < wr.heap.size := by omega
      have B9 : Below w.heap.size w wr := B0.trans (hb.mono (by omega))
      clear hT0 hN0
      go_wp2
      refine ret_some (W := wr) (b := w.heap.size + 1) (er := .nilIface) P1 rfl rfl rfl ⟨rfl, ?_⟩
      exact (put8_below B9 (Nat.le_succ _) _ _ _ _ _ _ _ _).alloc (by rw [put8_size]; exact B9.size) _
end Go.Proofs.Qxb6618538aFmt
