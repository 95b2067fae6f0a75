/-
  ZZnewSchema (19), ZZaddType (16), ZZaddDef (17), ZZallow (18).
-/
import Derived.Test.Qxb6618538aFmtRows
import Derived.Test.Qxb6618538aFmtHeap
import Derived.WalkKit
import Derived.WalkSpells
import Derived.WalkLawsBesides
import Derived.Maps.AppendAt
namespace Go.Proofs.Qxb6618538aFmt
open Go.RowKit
open Go.ChangeMaps (setBlock heap_setBlock_same heap_setBlock_other)
set_option linter.unusedVariables false

theorem Tryf.info24 : (Tryf.prog.info? 24).map (fun i => (i.zero, i.size, i.bytes)) = some (some (.pointer none), 1, 8) := by kernel_rfl
theorem Tryf.info25 : (Tryf.prog.info? 25).map (fun i => (i.zero, i.size, i.bytes)) = some (some (.pointer none), 1, 8) := by kernel_rfl

theorem new_any (w : World) :
    Calls Tryf.prog 19 #[] w fun e w' => e = .returned (.pointer (some ⟨w.heap.size + 1, 0, none⟩)) ∧ w' = (w.alloc (.map #[] 0)).alloc (.cells #[.slice none 0 0, .map (some w.heap.size)] 55) := by
  have hmm := @run_makeMap Tryf.prog
  go_enter Tryf.func19, Tryf.ntmps19
  go_wp2
  go_ret
  exact ⟨rfl, rfl⟩

set_option maxHeartbeats 800000 in
theorem addType_any (bs bm : Nat) (tv : Value) (base n : Nat) (xs : List Value) (kvs : List (ByteArray × Value)) (name : ByteArray) (w : World)
    (hs : rowAt w bs 55 #[tv, .map (some bm)]) (hm : strMap w bm kvs) (ht : w.ownsRow base 24 1 tv n xs) (hn : n ≤ 1000) (hba : base ≤ w.heap.size) (hnew : ∀ p ∈ kvs, name ≠ p.1) :
    Calls Tryf.prog 16 #[.pointer (some ⟨bs, 0, none⟩), .string name] w fun e w' => ∃ (pt mt : Nat) (tv' : Value), e = .returned (.pointer (some ⟨pt, 0, none⟩)) ∧ rowAt w' bs 55 #[tv', .map (some bm)] ∧ w'.ownsRow base 24 1 tv' (n + 1) (xs ++ [.pointer (some ⟨pt, 0, none⟩)]) ∧
      strMap w' bm (kvs ++ [(name, .pointer (some ⟨pt, 0, none⟩))]) ∧ rowAt w' pt 60 #[.int .i64 n, .string name, .int .i64 0, .slice none 0 0, .map (some mt), .pointer none, .bool false] ∧ strMap w' mt [] ∧
      w.heap.size ≤ mt ∧ mt < pt ∧ Kept (fun k => k = bs ∨ k = bm ∨ some k = tv.ownBlock) w w' := by
  obtain ⟨ad, c, rfl⟩ := own_shape ht
  have hmm := @run_makeMap Tryf.prog
  have hc0 := hs.cell 0
  have hc1 := hs.cell 1
  have hf0 := hs.frozen 0
  have hl := hs.lt
  simp at hc0 hc1
  obtain ⟨i0, hi, hz0, hz1, hz2⟩ := info_parts Tryf.info24
  go_enter Tryf.func16, Tryf.ntmps16
  go_wp2_with (first
    | (at_builtin; refine wpList_append_own _ rfl _ _ 52 rfl base 24 i0 (.pointer none) 1 8 Tryf.underlying52 hi hz0 hz1 hz2 rfl (by decide) _ _ _ rfl (((ht.alloc _).alloc _).alloc _) ⟨w.heap.size + 1 + 1, 0, none⟩ 1 1 [.pointer (some ⟨w.heap.size + 1, 0, none⟩)] rfl rfl (cell_one_at _ _ (by simp) _ _) (fun x hx => by simp at hx; subst hx; rfl) (by unfold maxLen; omega) (by omega) (by simp; omega) ?_; intro v' w1 hown' hgrow hnil
       have K1 : Kept (fun k => some k = (Value.slice ad n c).ownBlock) w w1 := (((Kept.refl _ w).alloc _).alloc _ |>.alloc _).grown hgrow (fun k hk _ => hk.symm)
       have hs1 := K1.row hs (hs.ne_own ht (by decide))
       have hm1 := K1.map hm (hm.ne_own ht)
       obtain ⟨ad', c', hv⟩ := own_shape hown'
       subst hv
       have d0 := hs1.cell 0
       have d1 := hs1.cell 1
       have g0 := hs1.frozen 0
       simp at d0 d1
       have hm2 : strMap (w1.setCell ⟨bs, 0, none⟩ (.slice ad' (n + 1) c')) bm kvs := hm1.of_block (Below.heap_setCell _ _ _ _ (fun e => hs1.ne_map hm1 e.symm))
       obtain ⟨o, hrun, hst, hoth⟩ := hm2.store Tryf.underlying53 Tryf.underlying9 name hnew (.pointer (some ⟨w.heap.size + 1, 0, none⟩))
       clear hc0 hc1 hf0 hnil))
  go_ret
  have hblt : ∀ k, (Value.slice ad n c).ownBlock = some k → k < w.heap.size := fun k hk => (ht.lt k hk).2
  have hmlt := hm.lt
  have r1 : rowAt w1 (w.heap.size + 1) 60 #[.int .i64 n, .string name, .int .i64 0, .slice none 0 0, .map (some w.heap.size), .pointer none, .bool false] := by
    refine rowAt.of_block (w := (w.alloc (.map #[] 0)).alloc (.cells #[.int .i64 n, .string name, .int .i64 0, .slice none 0 0, .map (some w.heap.size), .pointer none, .bool false] 60)) ?_ ?_
    · have := rowAt_alloc (w.alloc (.map #[] 0)) 60 #[.int .i64 n, .string name, .int .i64 0, .slice none 0 0, .map (some w.heap.size), .pointer none, .bool false]
      simpa using this
    · rw [hgrow.block _ (by simp) (fun e => by have := hblt _ e.symm; omega)]
      exact Below.heap_alloc _ _ _ (by simp)
  have r2 : strMap w1 w.heap.size [] := by
    refine (strMap_made w).of_block ?_
    rw [hgrow.block _ (by simp; omega) (fun e => by have := hblt _ e.symm; omega), Below.heap_alloc _ _ _ (by simp; omega), Below.heap_alloc _ _ _ (by simp)]
  have q1 : rowAt (w1.setCell ⟨bs, 0, none⟩ (.slice ad' (n + 1) c')) bs 55 #[.slice ad' (n + 1) c', .map (some bm)] := hs1.set 0 _
  have K2 : Kept (fun k => k = bs ∨ k = bm ∨ some k = (Value.slice ad n c).ownBlock) w (setBlock (w1.setCell ⟨bs, 0, none⟩ (.slice ad' (n + 1) c')) bm o) :=
    ((K1.mono (T := fun k => k = bs ∨ k = bm ∨ some k = (Value.slice ad n c).ownBlock) (fun k _ h => Or.inr (Or.inr h))).setCell (Or.inl rfl) _).setBlock (Or.inr (Or.inl rfl)) hoth
  have K3 : Kept (fun k => k = bs ∨ k = bm) w1 (setBlock (w1.setCell ⟨bs, 0, none⟩ (.slice ad' (n + 1) c')) bm o) := ((Kept.refl (fun k => k = bs ∨ k = bm) w1).setCell (Or.inl rfl) _).setBlock (Or.inr rfl) hoth
  have hbm := hs1.ne_map hm1
  refine ⟨w.heap.size + 1, w.heap.size, .slice ad' (n + 1) c', rfl, q1.of_block (hoth bs hbm), ?_, hst, K3.row r1 (by omega), K3.map r2 (by omega), Nat.le_refl _, by omega, K2⟩
  refine K3.own hown' (fun k hk => ?_)
  rintro (rfl | rfl)
  · exact hs1.ne_own hown' (by decide) hk.symm
  · exact hm1.ne_own hown' hk.symm

set_option maxHeartbeats 800000 in
theorem addDef_any (bt mt : Nat) (ix nm ln rl pl dv : Value) (base n : Nat) (xs : List Value) (kvs : List (ByteArray × Value)) (name : ByteArray) (perm : Bool) (w : World)
    (hs : rowAt w bt 60 #[ix, nm, ln, dv, .map (some mt), rl, pl]) (hm : strMap w mt kvs) (ht : w.ownsRow base 25 1 dv n xs) (hn : n ≤ 1000) (hba : base ≤ w.heap.size) (hnew : ∀ p ∈ kvs, name ≠ p.1) :
    Calls Tryf.prog 17 #[.pointer (some ⟨bt, 0, none⟩), .string name, .bool perm] w fun e w' => ∃ (pd : Nat) (dv' : Value), e = .returned (.pointer (some ⟨pd, 0, none⟩)) ∧ rowAt w' bt 60 #[ix, nm, ln, dv', .map (some mt), rl, pl] ∧
      w'.ownsRow base 25 1 dv' (n + 1) (xs ++ [.pointer (some ⟨pd, 0, none⟩)]) ∧ strMap w' mt (kvs ++ [(name, .pointer (some ⟨pd, 0, none⟩))]) ∧
      rowAt w' pd 65 #[.int .i64 n, .string name, .int .i64 0, .bool perm, .bool false, .slice none 0 0, .slice none 0 0, .slice none 0 0, .slice none 0 0] ∧
      w.heap.size ≤ pd ∧ Kept (fun k => k = bt ∨ k = mt ∨ some k = dv.ownBlock) w w' := by
  obtain ⟨ad, c, rfl⟩ := own_shape ht
  have hc0 := hs.cell 3
  have hc1 := hs.cell 4
  have hf0 := hs.frozen 3
  have hl := hs.lt
  simp at hc0 hc1
  obtain ⟨i0, hi, hz0, hz1, hz2⟩ := info_parts Tryf.info25
  go_enter Tryf.func17, Tryf.ntmps17
  go_wp2_with (first
    | (at_builtin; refine wpList_append_own _ rfl _ _ 57 rfl base 25 i0 (.pointer none) 1 8 Tryf.underlying57 hi hz0 hz1 hz2 rfl (by decide) _ _ _ rfl ((ht.alloc _).alloc _) ⟨w.heap.size + 1, 0, none⟩ 1 1 [.pointer (some ⟨w.heap.size, 0, none⟩)] rfl rfl (cell_one_at _ _ (by simp) _ _) (fun x hx => by simp at hx; subst hx; rfl) (by unfold maxLen; omega) (by omega) (by simp; omega) ?_; intro v' w1 hown' hgrow hnil
       have K1 : Kept (fun k => some k = (Value.slice ad n c).ownBlock) w w1 := (((Kept.refl _ w).alloc _).alloc _).grown hgrow (fun k hk _ => hk.symm)
       have hs1 := K1.row hs (hs.ne_own ht (by decide))
       have hm1 := K1.map hm (hm.ne_own ht)
       obtain ⟨ad', c', hv⟩ := own_shape hown'
       subst hv
       have d0 := hs1.cell 3
       have d1 := hs1.cell 4
       have g0 := hs1.frozen 3
       simp at d0 d1
       have hm2 : strMap (w1.setCell ⟨bt, 3, none⟩ (.slice ad' (n + 1) c')) mt kvs := hm1.of_block (Below.heap_setCell _ _ _ _ (fun e => hs1.ne_map hm1 e.symm))
       obtain ⟨o, hrun, hst, hoth⟩ := hm2.store Tryf.underlying56 Tryf.underlying9 name hnew (.pointer (some ⟨w.heap.size, 0, none⟩))
       clear hc0 hc1 hf0 hnil))
  go_ret
  have hblt : ∀ k, (Value.slice ad n c).ownBlock = some k → k < w.heap.size := fun k hk => (ht.lt k hk).2
  have hmlt := hm.lt
  have r1 : rowAt w1 w.heap.size 65 #[.int .i64 n, .string name, .int .i64 0, .bool perm, .bool false, .slice none 0 0, .slice none 0 0, .slice none 0 0, .slice none 0 0] := by
    refine (rowAt_alloc w 65 #[.int .i64 n, .string name, .int .i64 0, .bool perm, .bool false, .slice none 0 0, .slice none 0 0, .slice none 0 0, .slice none 0 0]).of_block ?_
    rw [hgrow.block _ (by simp; omega) (fun e => by have := hblt _ e.symm; omega)]
    exact Below.heap_alloc _ _ _ (by simp)
  have q1 : rowAt (w1.setCell ⟨bt, 3, none⟩ (.slice ad' (n + 1) c')) bt 60 #[ix, nm, ln, .slice ad' (n + 1) c', .map (some mt), rl, pl] := hs1.set 3 _
  have K2 : Kept (fun k => k = bt ∨ k = mt ∨ some k = (Value.slice ad n c).ownBlock) w (setBlock (w1.setCell ⟨bt, 3, none⟩ (.slice ad' (n + 1) c')) mt o) :=
    ((K1.mono (T := fun k => k = bt ∨ k = mt ∨ some k = (Value.slice ad n c).ownBlock) (fun k _ h => Or.inr (Or.inr h))).setCell (Or.inl rfl) _).setBlock (Or.inr (Or.inl rfl)) hoth
  have K3 : Kept (fun k => k = bt ∨ k = mt) w1 (setBlock (w1.setCell ⟨bt, 3, none⟩ (.slice ad' (n + 1) c')) mt o) := ((Kept.refl (fun k => k = bt ∨ k = mt) w1).setCell (Or.inl rfl) _).setBlock (Or.inr rfl) hoth
  have hbm := hs1.ne_map hm1
  refine ⟨w.heap.size, .slice ad' (n + 1) c', rfl, q1.of_block (hoth bt hbm), ?_, hst, K3.row r1 (by omega), Nat.le_refl _, K2⟩
  refine K3.own hown' (fun k hk => ?_)
  rintro (rfl | rfl)
  · exact hs1.ne_own hown' (by decide) hk.symm
  · exact hm1.ne_own hown' hk.symm

/-! ### ZZallow -/
theorem Tryf.info67 : (Tryf.prog.info? 67).map (fun i => (i.zero, i.size, i.bytes)) = some (some (.agg #[.string ⟨#[]⟩, .string ⟨#[]⟩, .pointer none, .pointer none]), 4, 48) := by kernel_rfl
end Go.Proofs.Qxb6618538aFmt
