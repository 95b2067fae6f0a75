/-
  typeNamed (23), askedName (22), queryName (20), ValidateQuery (13).
-/
import Derived.Test.Qxb6618538aFmtSchema
import Derived.Test.Qxb6618538aFmtErrf
namespace Go.Proofs.Qxb6618538aFmt
open Go.RowKit Go.Extern.Stop Go.Stop Go.Extern
set_option linter.unusedVariables false

theorem Tryf.zero24 (w : World) : (zeroValue 24).run Tryf.prog w = .ok (.pointer none) w := by kernel_rfl
theorem Tryf.zero25 (w : World) : (zeroValue 25).run Tryf.prog w = .ok (.pointer none) w := by kernel_rfl

/-! ### typeNamed -/
set_option maxHeartbeats 400000 in
theorem named_hit (bs bm : Nat) (tv : Value) (kvs : List (ByteArray × Value)) (name : ByteArray) (a : Addr) (w : World)
    (hs : rowAt w bs 55 #[tv, .map (some bm)]) (hm : strMap w bm kvs) (hf : findS (.pointer none) kvs name = .pointer (some a)) :
    Calls Tryf.prog 23 #[.pointer (some ⟨bs, 0, none⟩), .string name] w fun e w' => e = .returned (.tuple #[.pointer (some a), .nilIface]) ∧ w' = w := by
  have hc1 := hs.cell 1
  simp at hc1
  have hlk := hm.look Tryf.underlying53 Tryf.underlying9 (Tryf.zero24 w) name
  rw [hf] at hlk
  clear hf
  go_enter Tryf.func23, Tryf.ntmps23
  go_wp2
  go_ret2
  exact ⟨rfl, rfl⟩
set_option maxHeartbeats 400000 in
theorem named_miss (F : Interp) (bs bm : Nat) (tv : Value) (kvs : List (ByteArray × Value)) (name : ByteArray) (w : World) (hF : F.answers w.tape)
    (hs : rowAt w bs 55 #[tv, .map (some bm)]) (hm : strMap w bm kvs) (hf : findS (.pointer none) kvs name = .pointer none) :
    Calls Tryf.prog 23 #[.pointer (some ⟨bs, 0, none⟩), .string name] w fun e w' => (∃ a, e = .returned (.tuple #[.pointer none, .iface 85 (.pointer (some a))])) ∧ Below w.heap.size w w' := by
  have hc1 := hs.cell 1
  simp at hc1
  have hlk := hm.look Tryf.underlying53 Tryf.underlying9 (Tryf.zero24 w) name
  rw [hf] at hlk
  clear hf
  go_enter Tryf.func23, Tryf.ntmps23
  go_wp2_with fail
  refine (errf1 F name w.heap.size _ (by exact hF) (by simp [go_sem])).mono ?_
  rintro e w1 ⟨⟨a, rfl⟩, hb⟩
  go_wp2
  go_ret2
  exact ⟨⟨a, rfl⟩, ((Below.refl _ w).alloc (Nat.le_refl _) _).trans (hb.mono (by simp))⟩

/-! ### askedName -/
set_option maxHeartbeats 800000 in
theorem asked_notype (F : Interp) (bs bm : Nat) (tv : Value) (kvs : List (ByteArray × Value)) (tn name sub : ByteArray) (w : World) (hF : F.answers w.tape)
    (hs : rowAt w bs 55 #[tv, .map (some bm)]) (hm : strMap w bm kvs) (hf : findS (.pointer none) kvs tn = .pointer none) :
    Calls Tryf.prog 22 #[.pointer (some ⟨bs, 0, none⟩), .string tn, .string name, .string sub] w fun e w' => (∃ a, e = .returned (.tuple #[.pointer none, .iface 85 (.pointer (some a))])) ∧ Below w.heap.size w w' := by
  go_enter Tryf.func22, Tryf.ntmps22
  go_wp2_with fail
  refine (named_miss F bs bm tv kvs tn _ hF hs hm hf).mono ?_
  rintro e w1 ⟨⟨a, rfl⟩, hb⟩
  go_wp2
  go_ret2
  exact ⟨⟨a, rfl⟩, hb⟩
set_option maxHeartbeats 800000 in
theorem asked_noname (F : Interp) (bs bm po mo : Nat) (tv i t l dv r pl : Value) (kvs ms : List (ByteArray × Value)) (tn name sub ty : ByteArray) (w : World) (hF : F.answers w.tape)
    (hs : rowAt w bs 55 #[tv, .map (some bm)]) (hm : strMap w bm kvs) (hf : findS (.pointer none) kvs tn = .pointer (some ⟨po, 0, none⟩))
    (ho : rowAt w po 60 #[i, .string ty, l, dv, .map (some mo), r, pl]) (hmo : strMap w mo ms) (hg : findS (.pointer none) ms name = .pointer none) :
    Calls Tryf.prog 22 #[.pointer (some ⟨bs, 0, none⟩), .string tn, .string name, .string sub] w fun e w' => (∃ a, e = .returned (.tuple #[.pointer none, .iface 85 (.pointer (some a))])) ∧ Below w.heap.size w w' := by
  have c1 := ho.cell 1
  have c4 := ho.cell 4
  simp at c1 c4
  have hlk := hmo.look Tryf.underlying56 Tryf.underlying9 (Tryf.zero25 w) name
  rw [hg] at hlk
  have HG : Hid (findS (.pointer none) ms name = .pointer none) := hg
  have HF' : Hid (findS (.pointer none) kvs tn = .pointer (some ⟨po, 0, none⟩)) := hf
  clear hg hf
  go_enter Tryf.func22, Tryf.ntmps22
  go_wp2_with fail
  refine (named_hit bs bm tv kvs tn _ _ hs hm HF'.out).mono ?_
  rintro e w1 ⟨rfl, hw⟩
  subst hw
  go_wp2_with fail
  refine (errf2 F ty name w1.heap.size _ (by exact hF) (by simp [go_sem]) (by simp [go_sem])).mono ?_
  rintro e w2 ⟨⟨a, rfl⟩, hb⟩
  go_wp2
  go_ret2
  exact ⟨⟨a, rfl⟩, ((Below.refl _ w1).alloc (Nat.le_refl _) _).trans (hb.mono (by simp))⟩
set_option maxHeartbeats 800000 in
theorem asked_nosub (F : Interp) (bs bm po mo : Nat) (tv i t l dv r pl : Value) (kvs ms : List (ByteArray × Value)) (tn name sub ty : ByteArray) (d : Addr) (w : World) (hF : F.answers w.tape)
    (hs : rowAt w bs 55 #[tv, .map (some bm)]) (hm : strMap w bm kvs) (hf : findS (.pointer none) kvs tn = .pointer (some ⟨po, 0, none⟩))
    (ho : rowAt w po 60 #[i, .string ty, l, dv, .map (some mo), r, pl]) (hmo : strMap w mo ms) (hg : findS (.pointer none) ms name = .pointer (some d)) (hu : findS (.pointer none) kvs sub = .pointer none) :
    Calls Tryf.prog 22 #[.pointer (some ⟨bs, 0, none⟩), .string tn, .string name, .string sub] w fun e w' => (∃ a, e = .returned (.tuple #[.pointer none, .iface 85 (.pointer (some a))])) ∧ Below w.heap.size w w' := by
  have c4 := ho.cell 4
  simp at c4
  have hlk := hmo.look Tryf.underlying56 Tryf.underlying9 (Tryf.zero25 w) name
  rw [hg] at hlk
  have HF' : Hid (findS (.pointer none) kvs tn = .pointer (some ⟨po, 0, none⟩)) := hf
  have HU : Hid (findS (.pointer none) kvs sub = .pointer none) := hu
  clear hg hf hu
  go_enter Tryf.func22, Tryf.ntmps22
  go_wp2_with fail
  refine (named_hit bs bm tv kvs tn _ _ hs hm HF'.out).mono ?_
  rintro e w1 ⟨rfl, hw⟩
  subst hw
  go_wp2_with fail
  refine (named_miss F bs bm tv kvs sub _ hF hs hm HU.out).mono ?_
  rintro e w2 ⟨⟨a, rfl⟩, hb⟩
  go_wp2
  go_ret2
  exact ⟨⟨a, rfl⟩, hb⟩
set_option maxHeartbeats 800000 in
theorem asked_ok (bs bm po mo : Nat) (tv i t l dv r pl : Value) (kvs ms : List (ByteArray × Value)) (tn name sub ty : ByteArray) (d q : Addr) (w : World)
    (hs : rowAt w bs 55 #[tv, .map (some bm)]) (hm : strMap w bm kvs) (hf : findS (.pointer none) kvs tn = .pointer (some ⟨po, 0, none⟩))
    (ho : rowAt w po 60 #[i, .string ty, l, dv, .map (some mo), r, pl]) (hmo : strMap w mo ms) (hg : findS (.pointer none) ms name = .pointer (some d)) (hu : findS (.pointer none) kvs sub = .pointer (some q)) :
    Calls Tryf.prog 22 #[.pointer (some ⟨bs, 0, none⟩), .string tn, .string name, .string sub] w fun e w' => e = .returned (.tuple #[.pointer (some d), .nilIface]) ∧ w' = w := by
  have c4 := ho.cell 4
  simp at c4
  have hlk := hmo.look Tryf.underlying56 Tryf.underlying9 (Tryf.zero25 w) name
  rw [hg] at hlk
  have HF' : Hid (findS (.pointer none) kvs tn = .pointer (some ⟨po, 0, none⟩)) := hf
  have HU : Hid (findS (.pointer none) kvs sub = .pointer (some q)) := hu
  clear hg hf hu
  go_enter Tryf.func22, Tryf.ntmps22
  go_wp2_with fail
  refine (named_hit bs bm tv kvs tn _ _ hs hm HF'.out).mono ?_
  rintro e w1 ⟨rfl, hw⟩
  subst hw
  go_wp2_with fail
  refine (named_hit bs bm tv kvs sub _ _ hs hm HU.out).mono ?_
  rintro e w2 ⟨rfl, hw⟩
  subst hw
  go_wp2
  go_ret2
  exact ⟨rfl, rfl⟩
end Go.Proofs.Qxb6618538aFmt
