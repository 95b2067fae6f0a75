/-
  LAWS ON MEMORY for the schema's walk: maps keyed by strings with few entries; which blocks a call may turn. No dump.
-/
import Derived.WalkKit
import Derived.WalkSpells
import Derived.Maps.Own
import Derived.Maps.AppendAt
namespace Go.Proofs.Qxb6618538aFmt
open Go.RowKit
open Go.ChangeMaps (setBlock heap_setBlock_same heap_setBlock_other)
set_option linter.unusedVariables false

/-- BLOCK b IS A MAP KEYED BY STRINGS that holds just these entries, in this order. -/
def strMap (w : World) (b : Nat) (kvs : List (ByteArray × Value)) : Prop :=
  ∃ es clock, w.heap[b]? = some (.map es clock) ∧ es.toList.map (fun e => (e.key, e.val)) = kvs.map (fun p => (Value.string p.1, p.2))

/-- what a look-up gives, z where there is none -/
def findS (z : Value) : List (ByteArray × Value) → ByteArray → Value
  | [], _ => z
  | (k', v) :: r, k => if k = k' then v else findS z r k

theorem findNow_str (k : ByteArray) : ∀ (l : List MapEntry) (kvs : List (ByteArray × Value)) (i : Nat), l.map (fun e => (e.key, e.val)) = kvs.map (fun p => (Value.string p.1, p.2)) →
    (Instr.findNow .string (.string k) l i = some none ∧ ∀ z, findS z kvs k = z) ∨ ∃ j v, Instr.findNow .string (.string k) l i = some (some (j, v)) ∧ ∀ z, findS z kvs k = v
  | [], kvs, i, h => by
    cases kvs with
    | nil => exact .inl ⟨rfl, fun _ => rfl⟩
    | cons p r => simp at h
  | e :: es, kvs, i, h => by
    cases kvs with
    | nil => simp at h
    | cons p r =>
      obtain ⟨k', v⟩ := p
      simp only [List.map_cons, List.cons.injEq, Prod.mk.injEq] at h
      obtain ⟨⟨hk, hv⟩, hr⟩ := h
      by_cases e1 : k = k'
      · have hb : (k == k') = true := (MapKept.bytes_beq k k').2 e1
        exact .inr ⟨i, e.val, by simp [Instr.findNow, hk, Instr.sameNow, hb], fun z => by simp [findS, e1, hv]⟩
      · have hb : (k == k') = false := by
          cases g : (k == k') with
          | false => rfl
          | true => exact absurd ((MapKept.bytes_beq k k').1 g) e1
        rcases findNow_str k es r (i + 1) hr with ⟨h1, h2⟩ | ⟨j, v', h1, h2⟩
        · exact .inl ⟨by simp [Instr.findNow, hk, Instr.sameNow, hb, h1], fun z => by simp [findS, e1, h2]⟩
        · exact .inr ⟨j, v', by simp [Instr.findNow, hk, Instr.sameNow, hb, h1], fun z => by simp [findS, e1, h2]⟩

/-- 'm[k]' -/
theorem strMap.look {P : Program} {t e ks : TypeId} {z : Value} {w : World} {b : Nat} {kvs : List (ByteArray × Value)} (h : strMap w b kvs) (ht : P.underlying t = some (.map ks e)) (hk : P.underlying ks = some .string)
    (hz : (zeroValue e).run P w = .ok z w) (k : ByteArray) : (Instr.lookup t (.map (some b)) (.string k) false).run P w = .ok (findS z kvs k) w := by
  obtain ⟨es, clock, hb, hes⟩ := h
  have hc : ∀ em, (Instr.checkKey em 10000 ks (.string k)).run P w = .ok () w := fun em => MapKept.run_checkKey (d := .string) (k := .string k) hk trivial em 9999
  rcases findNow_str k es.toList kvs 0 hes with ⟨h1, h2⟩ | ⟨j, v, h1, h2⟩
  · rw [h2 z]
    simp [Instr.lookup, run_underlying ht, MapKept.run_getObj_map hb, hc, MapKept.run_findKey hk h1, hz, Result.andThen]
  · rw [h2 z]
    simp [Instr.lookup, run_underlying ht, MapKept.run_getObj_map hb, hc, MapKept.run_findKey hk h1, Result.andThen]

/-- 'm[k] = v' at a key that is not there -/
theorem strMap.store {P : Program} {t e ks : TypeId} {w : World} {b : Nat} {kvs : List (ByteArray × Value)} (h : strMap w b kvs) (ht : P.underlying t = some (.map ks e)) (hk : P.underlying ks = some .string)
    (k : ByteArray) (hnew : ∀ p ∈ kvs, k ≠ p.1) (v : Value) : ∃ o, (Instr.mapUpdate t (.map (some b)) (.string k) v).run P w = .ok () (setBlock w b o) ∧ strMap (setBlock w b o) b (kvs ++ [(k, v)]) ∧ ∀ i, i ≠ b → (setBlock w b o).heap[i]? = w.heap[i]? := by
  obtain ⟨es, clock, hb, hes⟩ := h
  have hc : (Instr.checkKey false 10000 ks (.string k)).run P w = .ok () w := MapKept.run_checkKey (d := .string) (k := .string k) hk trivial false 9999
  have hf : Instr.findNow .string (.string k) es.toList 0 = some none := by
    rcases findNow_str k es.toList kvs 0 hes with ⟨h1, h2⟩ | ⟨j, v', h1, h2⟩
    · exact h1
    · exfalso
      have hn : ∀ (l : List (ByteArray × Value)) (z : Value), (∀ p ∈ l, k ≠ p.1) → findS z l k = z := by
        intro l
        induction l with
        | nil => intro z _; rfl
        | cons p r ih =>
          intro z hl
          obtain ⟨k', u⟩ := p
          have e1 : k ≠ k' := hl (k', u) (List.mem_cons_self)
          simp only [findS, if_neg e1]
          exact ih z (fun p hp => hl p (List.mem_cons_of_mem _ hp))
      have a1 := (hn kvs (.bool true) hnew).symm.trans (h2 (.bool true))
      have a2 := (hn kvs (.bool false) hnew).symm.trans (h2 (.bool false))
      rw [← a2] at a1
      cases a1
  refine ⟨.map (es.push { key := .string k, val := v, born := clock }) (clock + 1), ?_, ⟨_, _, heap_setBlock_same hb _, ?_⟩, fun i hi => heap_setBlock_other hb _ hi⟩
  · simp [Instr.mapUpdate, run_underlying ht, MapKept.run_getObj_map hb, hc, MapKept.run_findKey hk hf, MapKept.run_setObj_map _ hb, Result.andThen, setBlock]
  · simp [hes]

theorem strMap_made (w : World) : strMap (w.alloc (.map #[] 0)) w.heap.size [] := ⟨#[], 0, (MapKept.heap_alloc w _).1, rfl⟩
theorem strMap.of_block {w w' : World} {b : Nat} {kvs : List (ByteArray × Value)} (h : strMap w b kvs) (hb : w'.heap[b]? = w.heap[b]?) : strMap w' b kvs := by
  obtain ⟨es, clock, h1, h2⟩ := h
  exact ⟨es, clock, hb.trans h1, h2⟩
theorem strMap.lt {w : World} {b : Nat} {kvs : List (ByteArray × Value)} (h : strMap w b kvs) : b < w.heap.size := by
  obtain ⟨es, clock, h1, h2⟩ := h
  exact (Array.getElem?_eq_some_iff.1 h1).1

/-! ### a row of cells, whole -/
/-- block b is a row of these cells, nothing frozen -/
def rowAt (w : World) (b : Nat) (t : TypeId) (cs : Array Value) : Prop := w.heap[b]? = some (.cells cs t (0, 0))
theorem rowAt.cell {w : World} {b : Nat} {t : TypeId} {cs : Array Value} (h : rowAt w b t cs) (i : Nat) : w.cell? ⟨b, i, none⟩ = cs[i]? := by
  unfold rowAt at h
  simp [World.cell?, h]
theorem rowAt.frozen {w : World} {b : Nat} {t : TypeId} {cs : Array Value} (h : rowAt w b t cs) (i : Nat) : w.frozen? ⟨b, i, none⟩ = false := by
  unfold rowAt at h
  simp [World.frozen?, h]
theorem rowAt.lt {w : World} {b : Nat} {t : TypeId} {cs : Array Value} (h : rowAt w b t cs) : b < w.heap.size := (Array.getElem?_eq_some_iff.1 h).1
theorem rowAt.of_block {w w' : World} {b : Nat} {t : TypeId} {cs : Array Value} (h : rowAt w b t cs) (hb : w'.heap[b]? = w.heap[b]?) : rowAt w' b t cs := hb.trans h
theorem rowAt_alloc (w : World) (t : TypeId) (cs : Array Value) : rowAt (w.alloc (.cells cs t)) w.heap.size t cs := (MapKept.heap_alloc w _).1
theorem rowAt.set {w : World} {b : Nat} {t : TypeId} {cs : Array Value} (h : rowAt w b t cs) (i : Nat) (v : Value) : rowAt (w.setCell ⟨b, i, none⟩ v) b t (cs.setIfInBounds i v) := by
  unfold rowAt at h ⊢
  simp [World.setCell, Array.getElem?_modify, h]
theorem rowAt.ne_map {w : World} {b b' : Nat} {t : TypeId} {cs : Array Value} {kvs : List (ByteArray × Value)} (h : rowAt w b t cs) (h' : strMap w b' kvs) : b ≠ b' := by
  obtain ⟨es, clock, h1, h2⟩ := h'
  intro e
  subst e
  unfold rowAt at h
  rw [h] at h1
  cases h1
theorem rowAt.ne_row {w : World} {b b' : Nat} {t t' : TypeId} {cs cs' : Array Value} (h : rowAt w b t cs) (h' : rowAt w b' t' cs') (ht : t ≠ t') : b ≠ b' := by
  intro e
  subst e
  unfold rowAt at h h'
  rw [h] at h'
  simp only [Option.some.injEq, Obj.cells.injEq] at h'
  exact ht h'.2.1
/-- .. nor is it the block that a slice of another element type owns -/
theorem rowAt.ne_own {w : World} {b base : Nat} {t e : TypeId} {cs : Array Value} {size n : Nat} {v : Value} {xs : List Value} (h : rowAt w b t cs) (h' : w.ownsRow base e size v n xs) (ht : t ≠ e) : some b ≠ v.ownBlock := by
  intro g
  rcases h'.2 with ⟨rfl, _⟩ | ⟨gb, cap, cur, rfl, _, hg, _⟩
  · simp [Value.ownBlock] at g
  · simp only [Value.ownBlock, Option.some.injEq] at g
    subst g
    exact (rowAt.ne_row h (show rowAt w b e cur from hg) ht) rfl
theorem strMap.ne_own {w : World} {b base : Nat} {e : TypeId} {kvs : List (ByteArray × Value)} {size n : Nat} {v : Value} {xs : List Value} (h : strMap w b kvs) (h' : w.ownsRow base e size v n xs) : some b ≠ v.ownBlock := by
  intro g
  rcases h'.2 with ⟨rfl, _⟩ | ⟨gb, cap, cur, rfl, _, hg, _⟩
  · simp [Value.ownBlock] at g
  · simp only [Value.ownBlock, Option.some.injEq] at g
    subst g
    exact (rowAt.ne_map (show rowAt w b e cur from hg) h) rfl

/-! ### which blocks a call may turn -/
/-- No old block has turned but those that S holds. -/
structure Kept (S : Nat → Prop) (w w' : World) : Prop where
  os : w'.os = w.os
  tape : w'.tape = w.tape
  output : w'.output = w.output
  size : w.heap.size ≤ w'.heap.size
  block : ∀ k, k < w.heap.size → ¬ S k → w'.heap[k]? = w.heap[k]?

theorem Kept.refl (S : Nat → Prop) (w : World) : Kept S w w := ⟨rfl, rfl, rfl, Nat.le_refl _, fun _ _ _ => rfl⟩
theorem Kept.trans {S : Nat → Prop} {a b c : World} (h : Kept S a b) (k : Kept S b c) : Kept S a c :=
  ⟨k.os.trans h.os, k.tape.trans h.tape, k.output.trans h.output, Nat.le_trans h.size k.size, fun i hi hn => (k.block i (Nat.lt_of_lt_of_le hi h.size) hn).trans (h.block i hi hn)⟩
theorem Kept.mono {S T : Nat → Prop} {a b : World} (h : Kept S a b) (hST : ∀ k, k < a.heap.size → S k → T k) : Kept T a b :=
  ⟨h.os, h.tape, h.output, h.size, fun i hi hn => h.block i hi (fun g => hn (hST i hi g))⟩
theorem Kept.alloc {S : Nat → Prop} {a w : World} (h : Kept S a w) (o : Obj) : Kept S a (w.alloc o) :=
  h.trans ⟨rfl, rfl, rfl, by simp, fun k hk _ => Below.heap_alloc _ _ _ hk⟩
theorem Kept.drew {S : Nat → Prop} {a w : World} (h : Kept S a w) : Kept S a w.drew := ⟨h.os, h.tape, h.output, h.size, h.block⟩
theorem Kept.setCell {S : Nat → Prop} {a w : World} (h : Kept S a w) {p : Addr} (hp : S p.block) (u : Value) : Kept S a (w.setCell p u) :=
  h.trans ⟨rfl, rfl, rfl, by simp [World.setCell], fun k hk hn => Below.heap_setCell _ _ _ _ (fun e => hn (by rw [e]; exact hp))⟩
theorem Kept.setNew {S : Nat → Prop} {a w : World} (h : Kept S a w) {p : Addr} (hp : a.heap.size ≤ p.block) (u : Value) : Kept S a (w.setCell p u) :=
  ⟨h.os, h.tape, h.output, by simp [World.setCell]; exact h.size, fun k hk hn => (Below.heap_setCell _ _ _ _ (by omega)).trans (h.block k hk hn)⟩
theorem Kept.setBlock {S : Nat → Prop} {a w : World} {b : Nat} {o : Obj} (h : Kept S a w) (hp : S b) (hb : ∀ i, i ≠ b → (setBlock w b o).heap[i]? = w.heap[i]?) : Kept S a (setBlock w b o) :=
  h.trans ⟨rfl, rfl, rfl, by simp [Go.ChangeMaps.setBlock], fun k hk hn => hb k (fun e => hn (by rw [e]; exact hp))⟩
theorem Kept.grown {S : Nat → Prop} {a w w' : World} {row : Option Nat} (h : Kept S a w) (hg : w.grownBy w' row) (hr : ∀ k, row = some k → k < a.heap.size → S k) : Kept S a w' :=
  ⟨hg.os.trans h.os, hg.tape.trans h.tape, hg.output.trans h.output, Nat.le_trans h.size hg.size,
    fun k hk hn => (hg.block k (Nat.lt_of_lt_of_le hk h.size) (fun e => hn (hr k e.symm hk))).trans (h.block k hk hn)⟩
/-- what turned was new: nothing old has turned -/
theorem Kept.below {S : Nat → Prop} {w0 w w' : World} {B : Nat} (h0 : Below B w0 w) (h : Kept S w w') (hS : ∀ k, S k → B ≤ k) (hB : B ≤ w.heap.size) : Below B w0 w' :=
  h0.trans ⟨h.os, h.tape, h.output, h.size, fun k hk => h.block k (by omega) (fun g => by have := hS k g; omega)⟩
theorem Kept.row {S : Nat → Prop} {w w' : World} {b : Nat} {t : TypeId} {cs : Array Value} (h : Kept S w w') (hr : rowAt w b t cs) (hn : ¬ S b) : rowAt w' b t cs := hr.of_block (h.block b hr.lt hn)
theorem Kept.map {S : Nat → Prop} {w w' : World} {b : Nat} {kvs : List (ByteArray × Value)} (h : Kept S w w') (hr : strMap w b kvs) (hn : ¬ S b) : strMap w' b kvs := hr.of_block (h.block b hr.lt hn)
theorem Kept.own {S : Nat → Prop} {w w' : World} {base : Nat} {e : TypeId} {size n : Nat} {v : Value} {xs : List Value} (h : Kept S w w') (hr : w.ownsRow base e size v n xs) (hn : ∀ k, v.ownBlock = some k → ¬ S k) : w'.ownsRow base e size v n xs := by
  refine ⟨hr.1, ?_⟩
  rcases hr.2 with hn0 | ⟨g, cap, cur, rfl, hb, hgg, rest⟩
  · exact .inl hn0
  · exact .inr ⟨g, cap, cur, rfl, hb, (h.block g (Array.getElem?_eq_some_iff.1 hgg).1 (hn g rfl)).trans hgg, rest⟩
theorem below_row {B : Nat} {w w' : World} {b : Nat} {t : TypeId} {cs : Array Value} (h : Below B w w') (hr : rowAt w b t cs) (hn : b < B) : rowAt w' b t cs := hr.of_block (h.block b hn)
theorem below_map {B : Nat} {w w' : World} {b : Nat} {kvs : List (ByteArray × Value)} (h : Below B w w') (hr : strMap w b kvs) (hn : b < B) : strMap w' b kvs := hr.of_block (h.block b hn)

theorem own_row {w : World} {base : Nat} {e : TypeId} {size n : Nat} {v : Value} {xs : List Value} (h : w.ownsRow base e size v n xs) {k : Nat} (hk : v.ownBlock = some k) : base ≤ k ∧ ∃ cur, rowAt w k e cur := by
  rcases h.2 with ⟨rfl, _⟩ | ⟨g, cap, cur, rfl, hb, hg, _⟩
  · simp [Value.ownBlock] at hk
  · simp only [Value.ownBlock, Option.some.injEq] at hk
    subst hk
    exact ⟨hb, cur, hg⟩
theorem own_ne_row {w : World} {base : Nat} {e t : TypeId} {size n : Nat} {v : Value} {xs : List Value} (h : w.ownsRow base e size v n xs) {k b : Nat} (hk : v.ownBlock = some k) {cs : Array Value} (hb : rowAt w b t cs) (ht : t ≠ e) : k ≠ b := by
  obtain ⟨_, cur, hr⟩ := own_row h hk
  exact fun e' => hb.ne_row hr ht e'.symm
theorem own_ne_map {w : World} {base : Nat} {e : TypeId} {size n : Nat} {v : Value} {xs : List Value} (h : w.ownsRow base e size v n xs) {k b : Nat} (hk : v.ownBlock = some k) {kvs : List (ByteArray × Value)} (hb : strMap w b kvs) : k ≠ b := by
  obtain ⟨_, cur, hr⟩ := own_row h hk
  exact hr.ne_map hb
theorem own_ne_own {w : World} {base base' : Nat} {e e' : TypeId} {size size' n n' : Nat} {v v' : Value} {xs xs' : List Value} (h : w.ownsRow base e size v n xs) (h' : w.ownsRow base' e' size' v' n' xs') (he : e ≠ e') {k : Nat} (hk : v.ownBlock = some k) : some k ≠ v'.ownBlock := by
  obtain ⟨_, cur, hr⟩ := own_row h hk
  exact hr.ne_own h' he
theorem own_lt {w : World} {base : Nat} {e : TypeId} {size n : Nat} {v : Value} {xs : List Value} (h : w.ownsRow base e size v n xs) {k : Nat} (hk : v.ownBlock = some k) : k < w.heap.size := (h.lt k hk).2

theorem own_base {w : World} {base base' : Nat} {e : TypeId} {size n : Nat} {v : Value} {xs : List Value} (h : w.ownsRow base e size v n xs) (hb : base' ≤ base) : w.ownsRow base' e size v n xs := by
  refine ⟨h.1, ?_⟩
  rcases h.2 with hn | ⟨g, cap, cur, rfl, hb', rest⟩
  · exact .inl hn
  · exact .inr ⟨g, cap, cur, rfl, Nat.le_trans hb hb', rest⟩
theorem cell_one_at (w : World) (k : Nat) (hk : w.heap.size = k) (x : Value) (t : TypeId) : ∀ j u, [x][j]? = some u → (w.alloc (.cells #[x] t)).cell? ((⟨k, 0, none⟩ : Addr).add j) = some u := by
  subst hk
  exact cell_one_new w x t
theorem own_shape {w : World} {base : Nat} {e : TypeId} {size n : Nat} {v : Value} {xs : List Value} (h : w.ownsRow base e size v n xs) : ∃ ad c, v = .slice ad n c := by
  rcases h.2 with ⟨rfl, rfl⟩ | ⟨g, cap, cur, rfl, _⟩
  · exact ⟨none, 0, rfl⟩
  · exact ⟨_, cap, rfl⟩

end Go.Proofs.Qxb6618538aFmt
