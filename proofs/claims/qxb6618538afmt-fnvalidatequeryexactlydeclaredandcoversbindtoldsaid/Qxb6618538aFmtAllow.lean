/-
  ZZallow (18): one region that draws its order: an append through a pointer.
-/
import Derived.Test.Qxb6618538aFmtBuild
import Derived.Deep.RegionLaw
namespace Go.Proofs.Qxb6618538aFmt
open Go.RowKit
set_option linter.unusedVariables false

/-- append to a row that is owned, as one step of a region that draws -/
theorem step_append_own {P : Program} {ops : Array Oper} {o : Oper} {a : Act} {w : World} {K : Act → World → Prop} {Q : Exit → Act → World → Prop} {E : Prop}
    (hg : o.guard = none) (s x : Operand) (t : TypeId) (ho : o.op = Op.call { callee := Callee.builtin Builtin.append, args := #[s, x], argTypes := #[t, t] })
    (base : Nat) (e : TypeId) (i : TypeInfo) (z : Value) (size bytes : Nat) (ht : P.underlying t = some (.slice e)) (hi : P.info? e = some i) (hz : i.zero = some z)
    (hsize : i.size = size) (hby : i.bytes = bytes) (hzs : z.cells.size = size) (hsz : 0 < size)
    (v : Value) (n : Nat) (xs : List Value) (hs : a.eval s = v) (hown : w.ownsRow base e size v n xs)
    (ad : Addr) (m c : Nat) (news : List Value) (hx : a.eval x = .slice (some ad) m c) (hl : news.length = m * size) (hnews : ∀ j u, news[j]? = some u → w.cell? (ad.add j) = some u) (h1 : ∀ u ∈ news, u.oneCell' = true)
    (h63 : n + m ≤ maxLen) (hbytes : (n + m) * bytes ≤ 140737488355328) (hbase : base ≤ w.heap.size)
    (h : ∀ v' w', w'.ownsRow base e size v' (n + m) (xs ++ news) → w.grownBy w' v.ownBlock → K (a.put o.dst v') w') :
    if Region.wanted o (yielded ops a.tmps) = true then Oper.wp P o a w K Q else E := by
  have hw : Region.wanted o (yielded ops a.tmps) = true := by simp [Region.wanted, hg]
  rw [if_pos hw]
  exact wp_append_own w s x t ho base e i z size bytes ht hi hz hsize hby hzs hsz v n xs hs hown ad m c news hx hl hnews h1 h63 hbytes hbase (fun v' w' a b _ => h v' w' a b)

theorem cells_four (w : World) (k : Nat) (hk : w.heap.size = k) (a b c d : Value) (t : TypeId) : ∀ j u, [a, b, c, d][j]? = some u → (w.alloc (.cells #[a, b, c, d] t)).cell? ((⟨k, 0, none⟩ : Addr).add j) = some u := by
  subst hk
  intro j u hj
  have h := rowAt_alloc w t #[a, b, c, d]
  have e : (⟨w.heap.size, 0, none⟩ : Addr).add j = ⟨w.heap.size, j, none⟩ := by unfold Addr.add; split <;> simp_all
  rw [e, h.cell j]
  simpa using hj

theorem own_drew {w : World} {base : Nat} {e : TypeId} {size n : Nat} {v : Value} {xs : List Value} (h : w.ownsRow base e size v n xs) : w.drew.ownsRow base e size v n xs := h
set_option maxHeartbeats 1600000 in
theorem allow_any (bd bt : Nat) (ix nm ln pm ro av u1 u2 u3 jx tl tdv tm tr tp : Value) (tn : ByteArray) (base n : Nat) (xs : List Value) (name : ByteArray) (df : Option Addr) (w : World)
    (hs : rowAt w bd 65 #[ix, nm, ln, pm, ro, av, u1, u2, u3]) (ht : rowAt w bt 60 #[jx, .string tn, tl, tdv, tm, tr, tp]) (ho : w.ownsRow base 67 4 av n xs) (hn : n ≤ 1000) (hba : base ≤ w.heap.size) :
    Calls Tryf.prog 18 #[.pointer (some ⟨bd, 0, none⟩), .pointer (some ⟨bt, 0, none⟩), .string name, .pointer df] w fun e w' => ∃ av', e = .returned (.tuple #[]) ∧ rowAt w' bd 65 #[ix, nm, ln, pm, ro, av', u1, u2, u3] ∧
      w'.ownsRow base 67 4 av' (n + 1) (xs ++ [.string tn, .string name, .pointer (some ⟨bt, 0, none⟩), .pointer df]) ∧ Kept (fun k => k = bd ∨ some k = av.ownBlock) w w' := by
  obtain ⟨ad, c, rfl⟩ := own_shape ho
  have hc5 := hs.cell 5
  have hf5 := hs.frozen 5
  have hl := hs.lt
  have ht1 := ht.cell 1
  simp at hc5 ht1
  obtain ⟨i0, hi, hz0, hz1, hz2⟩ := info_parts Tryf.info67
  go_enter Tryf.func18, Tryf.ntmps18
  go_wp2
  go_region_law (
    refine step_append_own rfl _ _ 61 rfl base 67 i0 (.agg #[.string ⟨#[]⟩, .string ⟨#[]⟩, .pointer none, .pointer none]) 4 48 Tryf.underlying61 hi hz0 hz1 hz2 rfl (by decide) _ _ _ rfl (own_drew (ho.alloc _)) ⟨w.heap.size, 0, none⟩ 1 1 [.string tn, .string name, .pointer (some ⟨bt, 0, none⟩), .pointer df] rfl rfl (cells_four w _ rfl _ _ _ _ _) (fun x hx => by simp at hx; rcases hx with rfl | rfl | rfl | rfl <;> rfl) (by unfold maxLen; omega) (by omega) (by show base ≤ (w.alloc _).heap.size; simp; omega) ?_; intro v' w1 hown' hgrow
    have K1 : Kept (fun k => some k = (Value.slice ad n c).ownBlock) w w1 := ((Kept.refl _ w).alloc _).drew.grown hgrow (fun k hk _ => hk.symm)
    have hs1 := K1.row hs (hs.ne_own ho (by decide))
    obtain ⟨ad', c', hv⟩ := own_shape hown'
    subst hv
    have d5 := hs1.cell 5
    have g5 := hs1.frozen 5
    simp at d5)
  all_goals
    go_end0
    refine ⟨_, rfl, hs1.set 5 _, ?_, (K1.mono (T := fun k => k = bd ∨ some k = (Value.slice ad n c).ownBlock) (fun k _ h => Or.inr h)).setCell (Or.inl rfl) _⟩
    have K3 : Kept (fun k => k = bd) w1 (w1.setCell ⟨bd, 5, none⟩ (.slice ad' (n + 1) c')) := (Kept.refl (fun k => k = bd) w1).setCell rfl _
    refine K3.own hown' (fun k hk => ?_)
    rintro rfl
    exact hs1.ne_own hown' (by decide) hk.symm
end Go.Proofs.Qxb6618538aFmt
