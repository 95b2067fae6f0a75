/-
  bind (21): the relation is not declared; it is a permission.
-/
import Derived.Test.Qxb6618538aFmtBind
import Derived.Deep.QuietTactic
import Derived.BigQuiet
import Derived.Deep.RegionWith
import Derived.WalkSmall
namespace Go.Proofs.Qxb6618538aFmt
open Go.RowKit Go.Extern.Stop Go.Stop Go.Extern
set_option linter.unusedVariables false

set_option maxRecDepth 100000 in
set_option maxHeartbeats 800000 in
theorem bind_noname (F : Interp) (bs bm po mo : Nat) (tv i l dv r pl : Value) (kvs ms : List (ByteArray × Value)) (ty ot oi rel st si sn : ByteArray) (w : World) (hF : F.answers w.tape)
    (hs : rowAt w bs 55 #[tv, .map (some bm)]) (hm : strMap w bm kvs) (hf : findS (.pointer none) kvs ot = .pointer (some ⟨po, 0, none⟩))
    (ho : rowAt w po 60 #[i, .string ty, l, dv, .map (some mo), r, pl]) (hmo : strMap w mo ms) (hg : findS (.pointer none) ms rel = .pointer none) :
    Calls Tryf.prog 21 #[.pointer (some ⟨bs, 0, none⟩), .agg #[.string ot, .string oi, .string rel, .string st, .string si, .string sn]] w fun e w' => (∃ a, e = .returned (.tuple #[.agg noBind, .iface 85 (.pointer (some a))])) ∧ Below w.heap.size w w' := by
  have c1 := ho.cell 1
  have c4 := ho.cell 4
  have hl := ho.lt
  simp at c1 c4
  obtain ⟨q1, q2, B0⟩ := prelude w (.string ot) (.string oi) (.string rel) (.string st) (.string si) (.string sn) noBind
  have hlk : ∀ n, (Instr.lookup 56 (.map (some mo)) (.string rel) false).run Tryf.prog (((w.alloc (.cells #[.string ot, .string oi, .string rel, .string st, .string si, .string sn] 31)).alloc (.cells noBind 49)).drewN n) = .ok (.pointer none) _ := fun n => by
    rw [← hg]
    exact strMap.look (w := ((w.alloc _).alloc _).drewN n) (below_map (below_drewN B0 n) hmo hmo.lt) Tryf.underlying56 Tryf.underlying9 (Tryf.zero25 _) rel
  have HF' : Hid (findS (.pointer none) kvs ot = .pointer (some ⟨po, 0, none⟩)) := hf
  clear hg hf
  go_enter Tryf.func21, Tryf.ntmps21
  go_wp2_with fail
  refine (named_hit bs bm tv kvs ot _ _ (below_row B0 hs hs.lt) (below_map B0 hm hm.lt) HF'.out).mono ?_
  rintro e w1 ⟨rfl, hw⟩
  subst hw
  go_wp2_with fail
  go_quiet (fail)
  go_wp2_with fail
  go_region_with (
    go_at_call 24
    refine (errf3 F ty rel _ _ (by exact hF) (by simp [go_sem]) (by simp [go_sem])).mono ?_
    rintro e w2 ⟨⟨a, rfl⟩, hb⟩
    have z2 : w.heap.size + 1 < w2.heap.size := by have := hb.size; simp at this; omega
    have Q2 : rowAt w2 (w.heap.size + 1) 49 noBind := q2.of_block ((hb.block (w.heap.size + 1) (by simp)).trans (Below.heap_alloc _ _ _ q2.lt))
    have B2 : Below w.heap.size w w2 := (below_drewN (B0.alloc B0.size _) _).trans (hb.mono (by simp; omega))
    obtain ⟨d0, d1, d2, d3, d4, d5, d6, d7⟩ := eight Q2
    have f0 := fun i => Q2.frozen i
    clear hb)
  all_goals
    go_wp2
    exact ret_none (W := w2) (b := w.heap.size + 1) (er := .iface 85 (.pointer (some a))) Q2 rfl rfl rfl ⟨⟨a, rfl⟩, clear8_below B2 (Nat.le_succ _)⟩

set_option maxRecDepth 100000 in
set_option maxHeartbeats 800000 in
theorem bind_perm (F : Interp) (bs bm po mo pd : Nat) (tv i l dv r pl di dl dr da u1 u2 u3 : Value) (kvs ms : List (ByteArray × Value)) (ty dn ot oi rel st si sn : ByteArray) (w : World) (hF : F.answers w.tape)
    (hs : rowAt w bs 55 #[tv, .map (some bm)]) (hm : strMap w bm kvs) (hf : findS (.pointer none) kvs ot = .pointer (some ⟨po, 0, none⟩))
    (ho : rowAt w po 60 #[i, .string ty, l, dv, .map (some mo), r, pl]) (hmo : strMap w mo ms) (hg : findS (.pointer none) ms rel = .pointer (some ⟨pd, 0, none⟩))
    (hd : rowAt w pd 65 #[di, .string dn, dl, .bool true, dr, da, u1, u2, u3]) :
    Calls Tryf.prog 21 #[.pointer (some ⟨bs, 0, none⟩), .agg #[.string ot, .string oi, .string rel, .string st, .string si, .string sn]] w fun e w' => (∃ a, e = .returned (.tuple #[.agg noBind, .iface 85 (.pointer (some a))])) ∧ Below w.heap.size w w' := by
  have c1 := ho.cell 1
  have c4 := ho.cell 4
  have hl := ho.lt
  have e1 := hd.cell 1
  have e3 := hd.cell 3
  have hl2 := hd.lt
  simp at c1 c4 e1 e3
  obtain ⟨q1, q2, B0⟩ := prelude w (.string ot) (.string oi) (.string rel) (.string st) (.string si) (.string sn) noBind
  have hlk : ∀ n, (Instr.lookup 56 (.map (some mo)) (.string rel) false).run Tryf.prog (((w.alloc (.cells #[.string ot, .string oi, .string rel, .string st, .string si, .string sn] 31)).alloc (.cells noBind 49)).drewN n) = .ok (.pointer (some ⟨pd, 0, none⟩)) _ := fun n => by
    rw [← hg]
    exact strMap.look (w := ((w.alloc _).alloc _).drewN n) (below_map (below_drewN B0 n) hmo hmo.lt) Tryf.underlying56 Tryf.underlying9 (Tryf.zero25 _) rel
  have HF' : Hid (findS (.pointer none) kvs ot = .pointer (some ⟨po, 0, none⟩)) := hf
  clear hg hf
  go_enter Tryf.func21, Tryf.ntmps21
  go_wp2_with fail
  refine (named_hit bs bm tv kvs ot _ _ (below_row B0 hs hs.lt) (below_map B0 hm hm.lt) HF'.out).mono ?_
  rintro e w1 ⟨rfl, hw⟩
  subst hw
  go_wp2_with fail
  go_quiet (fail)
  go_wp2_with fail
  go_region_with (
    go_at_call 24
    refine (errf4 F dn ty _ _ (by exact hF) (by simp [go_sem]) (by simp [go_sem])).mono ?_
    rintro e w2 ⟨⟨a, rfl⟩, hb⟩
    have z2 : w.heap.size + 1 < w2.heap.size := by have := hb.size; simp at this; omega
    have Q2 : rowAt w2 (w.heap.size + 1) 49 noBind := q2.of_block ((hb.block (w.heap.size + 1) (by simp)).trans (Below.heap_alloc _ _ _ q2.lt))
    have B2 : Below w.heap.size w w2 := (below_drewN (B0.alloc B0.size _) _).trans (hb.mono (by simp; omega))
    obtain ⟨d0, d1, d2, d3, d4, d5, d6, d7⟩ := eight Q2
    have f0 := fun i => Q2.frozen i
    clear hb)
  all_goals
    go_wp2
    exact ret_none (W := w2) (b := w.heap.size + 1) (er := .iface 85 (.pointer (some a))) Q2 rfl rfl rfl ⟨⟨a, rfl⟩, clear8_below B2 (Nat.le_succ _)⟩
end Go.Proofs.Qxb6618538aFmt
