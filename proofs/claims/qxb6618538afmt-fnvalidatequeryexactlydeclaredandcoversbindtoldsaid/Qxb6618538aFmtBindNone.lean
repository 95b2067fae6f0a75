/-
  bind (21): no form of the relation fits: String() of each, strings.Join, fmt.Errorf.
-/
import Derived.Test.Qxb6618538aFmtBindErr
import Derived.Test.Qxb6618538aFmtJoin
import Derived.Deep.RegionHeld3
import Derived.Deep.OwnRows
namespace Go.Proofs.Qxb6618538aFmt
open Go.RowKit Go.Extern.Stop Go.Stop Go.Extern
set_option linter.unusedVariables false

theorem toList_ne {a b : ByteArray} (h : a ≠ b) : (a.toList == b.toList) = false := by
  cases g : (a.toList == b.toList) with
  | false => rfl
  | true =>
    refine absurd (WideShapes.bytes_inj ?_) h
    rw [← ByteArray.toList_eq, ← ByteArray.toList_eq]
    exact beq_iff_eq.1 g
theorem Tryf.info9 : (Tryf.prog.info? 9).map (fun i => (i.zero, i.size, i.bytes)) = some (some (.string ⟨#[]⟩), 1, 16) := by kernel_rfl
theorem made_strs (n : Nat) : Strs (madeCells #[.string ⟨#[]⟩] n) n := by
  refine ⟨size_madeCells _ _, fun j hj => ⟨⟨#[]⟩, ?_, by decide⟩⟩
  simp [madeCells, hj, Nat.mod_one]

set_option maxRecDepth 100000 in
set_option maxHeartbeats 1600000 in
theorem bind_none (F : Interp) (bs bm po mo pd g n cap : Nat) (tv i l dv r pl di dl dr u1 u2 u3 : Value) (kvs ms : List (ByteArray × Value)) (T N : Nat → ByteArray) (X Y : Nat → Option Addr) (ty dn ot oi rel st si sn : ByteArray) (w : World) (hF : F.answers w.tape)
    (hs : rowAt w bs 55 #[tv, .map (some bm)]) (hm : strMap w bm kvs) (hf : findS (.pointer none) kvs ot = .pointer (some ⟨po, 0, none⟩))
    (ho : rowAt w po 60 #[i, .string ty, l, dv, .map (some mo), r, pl]) (hmo : strMap w mo ms) (hg : findS (.pointer none) ms rel = .pointer (some ⟨pd, 0, none⟩))
    (hd : rowAt w pd 65 #[di, .string dn, dl, .bool false, dr, .slice (some ⟨g, 0, none⟩) n cap, u1, u2, u3]) (hn : n ≤ 2)
    (hrow : ∀ j, j < n → w.cell? ⟨g, j * 4, none⟩ = some (.string (T j)) ∧ w.cell? ⟨g, j * 4 + 1, none⟩ = some (.string (N j)) ∧ w.cell? ⟨g, j * 4 + 2, none⟩ = some (.pointer (X j)) ∧ w.cell? ⟨g, j * 4 + 3, none⟩ = some (.pointer (Y j)))
    (hno : ∀ j, j < n → ¬ (T j = st ∧ N j = sn)) (hgl : g < w.heap.size)
    (hsz : ∀ j, j < n → (T j).size ≤ 65536 ∧ (N j).size ≤ 65536) (hst : st.size ≤ 65536) (hsn : sn.size ≤ 65536) :
    Calls Tryf.prog 21 #[.pointer (some ⟨bs, 0, none⟩), .agg #[.string ot, .string oi, .string rel, .string st, .string si, .string sn]] w fun e w' => (∃ a, e = .returned (.tuple #[.agg noBind, .iface 85 (.pointer (some a))])) ∧ Below w.heap.size w w' := by
  have c1 := ho.cell 1
  have c4 := ho.cell 4
  have hl := ho.lt
  have e1 := hd.cell 1
  have e3 := hd.cell 3
  have e5 := hd.cell 5
  have hl2 := hd.lt
  simp at c1 c4 e1 e3 e5
  obtain ⟨q1, q2, B0⟩ := prelude w (.string ot) (.string oi) (.string rel) (.string st) (.string si) (.string sn) noBind
  have hlk : ∀ n, (Instr.lookup 56 (.map (some mo)) (.string rel) false).run Tryf.prog (((w.alloc (.cells #[.string ot, .string oi, .string rel, .string st, .string si, .string sn] 31)).alloc (.cells noBind 49)).drewN n) = .ok (.pointer (some ⟨pd, 0, none⟩)) _ := fun n => by
    rw [← hg]
    exact strMap.look (w := ((w.alloc _).alloc _).drewN n) (below_map (below_drewN B0 n) hmo hmo.lt) Tryf.underlying56 Tryf.underlying9 (Tryf.zero25 _) rel
  have HF' : Hid (findS (.pointer none) kvs ot = .pointer (some ⟨po, 0, none⟩)) := hf
  have HR : Hid (∀ j, j < n → w.cell? ⟨g, j * 4, none⟩ = some (.string (T j)) ∧ w.cell? ⟨g, j * 4 + 1, none⟩ = some (.string (N j)) ∧ w.cell? ⟨g, j * 4 + 2, none⟩ = some (.pointer (X j)) ∧ w.cell? ⟨g, j * 4 + 3, none⟩ = some (.pointer (Y j))) := hrow
  have HN : Hid (∀ j, j < n → ¬ (T j = st ∧ N j = sn)) := hno
  have HS : Hid (∀ j, j < n → (T j).size ≤ 65536 ∧ (N j).size ≤ 65536) := hsz
  have hmk := run_make_row' (P := Tryf.prog) 72 9 (.string ⟨#[]⟩) 16 Tryf.underlying72 Tryf.info9 rfl .i64 .i64 n (by omega) (by omega)
  clear hg hf hrow hno hsz
  go_enter Tryf.func21, Tryf.ntmps21
  go_wp2_with fail
  refine (named_hit bs bm tv kvs ot _ _ (below_row B0 hs hs.lt) (below_map B0 hm hm.lt) HF'.out).mono ?_
  rintro e w1 ⟨rfl, hw⟩
  subst hw
  go_wp2_with fail
  go_quiet (fail)
  go_wp2_with fail
  go_loopw [69] (fun t wr => ∃ k : Nat, k ≤ n ∧ t = .int .i64 k ∧ Below (w.heap.size + 2) ((w.alloc (.cells #[.string ot, .string oi, .string rel, .string st, .string si, .string sn] 31)).alloc (.cells noBind 49)) wr) (fun t _ => n - (intOf t).toNat)
  case atStart => exact ⟨0, Nat.zero_le _, rfl, below_drewN (Below.refl _ _) _⟩
  case round =>
    obtain ⟨k, hk, rfl, hb⟩ := hrel
    have hz : w.heap.size + 2 ≤ wr.heap.size := by have := hb.size; simp at this; omega
    have R1 : rowAt wr w.heap.size 31 #[.string ot, .string oi, .string rel, .string st, .string si, .string sn] := below_row hb q1 (by omega)
    obtain ⟨r0, r1, r2, r3, r4, r5⟩ := six R1
    have hz1 : w.heap.size < wr.heap.size := by omega
    have hpd : pd < wr.heap.size := by omega
    have hpo : po < wr.heap.size := by omega
    have D1 : rowAt wr pd 65 #[di, .string dn, dl, .bool false, dr, .slice (some ⟨g, 0, none⟩) n cap, u1, u2, u3] := below_row hb (below_row B0 hd hl2) (by omega)
    have O1 : rowAt wr po 60 #[i, .string ty, l, dv, .map (some mo), r, pl] := below_row hb (below_row B0 ho hl) (by omega)
    have x1 := D1.cell 1
    have x5 := D1.cell 5
    have y1 := O1.cell 1
    simp at x1 x5 y1
    by_cases hlt : k < n
    · obtain ⟨f0, f1, f2, f3⟩ := HR.out k hlt
      have g0 : wr.cell? ⟨g, k * 4, none⟩ = some (.string (T k)) := (hb.cell (p := ⟨g, k * 4, none⟩) (by show g < _; omega)).trans ((B0.cell (p := ⟨g, k * 4, none⟩) hgl).trans f0)
      have g1 : wr.cell? ⟨g, k * 4 + 1, none⟩ = some (.string (N k)) := (hb.cell (p := ⟨g, k * 4 + 1, none⟩) (by show g < _; omega)).trans ((B0.cell (p := ⟨g, k * 4 + 1, none⟩) hgl).trans f1)
      have g2 : wr.cell? ⟨g, k * 4 + 2, none⟩ = some (.pointer (X k)) := (hb.cell (p := ⟨g, k * 4 + 2, none⟩) (by show g < _; omega)).trans ((B0.cell (p := ⟨g, k * 4 + 2, none⟩) hgl).trans f2)
      have g3 : wr.cell? ⟨g, k * 4 + 3, none⟩ = some (.pointer (Y k)) := (hb.cell (p := ⟨g, k * 4 + 3, none⟩) (by show g < _; omega)).trans ((B0.cell (p := ⟨g, k * 4 + 3, none⟩) hgl).trans f3)
      clear f0 f1 f2 f3
      by_cases hT : T k = st
      · have b1 : ((T k).toList == st.toList) = true := by rw [hT]; exact beq_iff_eq.2 rfl
        have b2 : ((N k).toList == sn.toList) = false := toList_ne (fun e => HN.out k hlt ⟨hT, e⟩)
        clear hT
        go_wp2
        go_roundw
        case rel => exact ⟨k + 1, by omega, by go_num, hb.alloc (by omega) _⟩
        case measure => simp [intOf]; omega
      · have b1 : ((T k).toList == st.toList) = false := toList_ne hT
        clear hT
        go_wp2
        go_roundw
        case rel => exact ⟨k + 1, by omega, by go_num, hb.alloc (by omega) _⟩
        case measure => simp [intOf]; omega
    · go_wp2_with fail
      obtain ⟨v1, hv1⟩ : ∃ v1, v1 = wr := ⟨_, rfl⟩
      subst hv1
      have W1 : rowAt (v1.alloc (.cells #[.string st, .string sn, .pointer none, .pointer none] 67)) v1.heap.size 67 #[.string st, .string sn, .pointer none, .pointer none] := rowAt_alloc _ _ _
      go_loopw [115] (fun t v => ∃ k : Nat, k ≤ n ∧ t = .int .i64 k ∧ Below (v1.heap.size + 1) (v1.alloc (.cells #[.string st, .string sn, .pointer none, .pointer none] 67)) v ∧ v1.heap.size + 1 < v.heap.size ∧ ∃ cs, rowAt v (v1.heap.size + 1) 9 cs ∧ Strs cs n) (fun t _ => n - (intOf t).toNat)
      case atStart =>
        refine ⟨0, Nat.zero_le _, rfl, (Below.refl _ _).alloc (by simp) _, by simp, _, ?_, made_strs n⟩
        have := rowAt_alloc (v1.alloc (.cells #[.string st, .string sn, .pointer none, .pointer none] 67)) 9 (madeCells #[.string ⟨#[]⟩] n)
        simpa using this
      case round =>
        obtain ⟨k, hk, rfl, hb2, hab, cs, A1, C1⟩ := hrel
        have h3 : v1.heap.size + 1 ≤ wr.heap.size := by omega
        have B3 : Below v1.heap.size v1 wr := ((Below.refl _ v1).alloc (Nat.le_refl _) _).trans (hb2.mono (by omega))
        have B4 : Below w.heap.size w wr := (B0.trans (hb.mono (by omega))).trans (B3.mono (by omega))
        by_cases hlt2 : k < n
        · obtain ⟨f0, f1, f2, f3⟩ := HR.out k hlt2
          have g0 : wr.cell? ⟨g, k * 4, none⟩ = some (.string (T k)) := (B4.cell (p := ⟨g, k * 4, none⟩) hgl).trans f0
          have g1 : wr.cell? ⟨g, k * 4 + 1, none⟩ = some (.string (N k)) := (B4.cell (p := ⟨g, k * 4 + 1, none⟩) hgl).trans f1
          have g2 : wr.cell? ⟨g, k * 4 + 2, none⟩ = some (.pointer (X k)) := (B4.cell (p := ⟨g, k * 4 + 2, none⟩) hgl).trans f2
          have g3 : wr.cell? ⟨g, k * 4 + 3, none⟩ = some (.pointer (Y k)) := (B4.cell (p := ⟨g, k * 4 + 3, none⟩) hgl).trans f3
          have hs2 := HS.out k hlt2
          clear f0 f1 f2 f3
          go_wp2_with fail
          refine (form_any (T k) (N k) (.pointer (X k)) (.pointer (Y k)) hs2.1 hs2.2 _).mono ?_
          rintro e w4 ⟨⟨s, rfl, hs4⟩, hw4⟩
          have B5 : Below wr.heap.size wr w4 := by rw [hw4]; exact ((Below.refl _ _).alloc (Nat.le_refl _) _).alloc (by simp) _
          clear hw4
          have A4 : rowAt w4 (v1.heap.size + 1) 9 cs := below_row B5 A1 hab
          obtain ⟨x, hx, _⟩ := C1.2 k hlt2
          have cx : w4.cell? ⟨v1.heap.size + 1, k, none⟩ = some (.string x) := (A4.cell k).trans hx
          have fx := A4.frozen k
          clear hx
          go_wp2
          go_roundw
          case rel =>
            refine ⟨k + 1, by omega, by go_num, (hb2.trans (B5.mono (by omega))).setCell (Nat.le_refl _) _, ?_, _, A4.set k _, C1.set k s hs4⟩
            have := B5.size
            simp [World.setCell]
            omega
          case measure => simp [intOf]; omega
        · have S1 : ∀ j, wr.cell? ⟨v1.heap.size, j, none⟩ = (#[.string st, .string sn, .pointer none, .pointer none] : Array Value)[j]? := fun j => (below_row hb2 W1 (by omega)).cell j
          have s0 := S1 0
          have s1 := S1 1
          have s2 := S1 2
          have s3 := S1 3
          simp at s0 s1 s2 s3
          have X1 : wr.cell? ⟨pd, 1, none⟩ = some (.string dn) := (B4.cell (p := ⟨pd, 1, none⟩) hl2).trans e1
          have Y1 : wr.cell? ⟨po, 1, none⟩ = some (.string ty) := (B4.cell (p := ⟨po, 1, none⟩) hl).trans c1
          have P2 : rowAt wr (w.heap.size + 1) 49 noBind := below_row B3 (below_row hb q2 (by omega)) (by omega)
          have n1 : w.heap.size + 1 ≠ pd := by omega
          have n2 : w.heap.size + 1 ≠ po := by omega
          have n3 : w.heap.size + 1 ≠ v1.heap.size := by omega
          have hFr : F.answers wr.tape := by rw [B4.tape]; exact hF
          have HFR : Hid (F.answers wr.tape) := hFr
          have z0 : w.heap.size + 1 < wr.heap.size := by omega
          clear hFr hmk hlk
          go_wp2_with fail
          go_region_held3 (fun v => v.cell? ⟨pd, 1, none⟩ = some (.string dn) ∧ v.cell? ⟨po, 1, none⟩ = some (.string ty) ∧ v.cell? ⟨v1.heap.size, 0, none⟩ = some (.string st) ∧ v.cell? ⟨v1.heap.size, 1, none⟩ = some (.string sn) ∧ v.cell? ⟨v1.heap.size, 2, none⟩ = some (.pointer none) ∧ v.cell? ⟨v1.heap.size, 3, none⟩ = some (.pointer none)) (go_keep)
            (first
            | (go_at_call 26
               refine (join_any (v1.heap.size + 1) n cs _ (by exact A1) C1 hn).mono ?_
               rintro e v2 ⟨⟨js, rfl⟩, hb6⟩
               have B6 : Below wr.heap.size wr v2 := (Below.refl _ wr).drew.trans hb6
               have p1_v2 : v2.cell? ⟨pd, 1, none⟩ = some (.string dn) := (B6.cell (p := ⟨pd, 1, none⟩) (by show pd < wr.heap.size; omega)).trans X1
               have o1_v2 : v2.cell? ⟨po, 1, none⟩ = some (.string ty) := (B6.cell (p := ⟨po, 1, none⟩) (by show po < wr.heap.size; omega)).trans Y1
               have s0_v2 : v2.cell? ⟨v1.heap.size, 0, none⟩ = some (.string st) := (B6.cell (p := ⟨v1.heap.size, 0, none⟩) (by show v1.heap.size < wr.heap.size; omega)).trans s0
               have s1_v2 : v2.cell? ⟨v1.heap.size, 1, none⟩ = some (.string sn) := (B6.cell (p := ⟨v1.heap.size, 1, none⟩) (by show v1.heap.size < wr.heap.size; omega)).trans s1
               have s2_v2 : v2.cell? ⟨v1.heap.size, 2, none⟩ = some (.pointer none) := (B6.cell (p := ⟨v1.heap.size, 2, none⟩) (by show v1.heap.size < wr.heap.size; omega)).trans s2
               have s3_v2 : v2.cell? ⟨v1.heap.size, 3, none⟩ = some (.pointer none) := (B6.cell (p := ⟨v1.heap.size, 3, none⟩) (by show v1.heap.size < wr.heap.size; omega)).trans s3
               clear hb6)
            | (go_at_call 24
               refine (errf5 F dn ty js st sn (.pointer none) (.pointer none) _ _ (by show F.answers v2.tape; rw [B6.tape]; exact HFR.out) hst hsn (by simp [go_sem]) (by simp [go_sem]) (by simp [go_sem]) (by simp [go_sem])).mono ?_
               rintro e v3 ⟨⟨a, rfl⟩, hb7⟩
               have B7 : Below wr.heap.size wr v3 := (B6.alloc B6.size _).trans (hb7.mono (by have := B6.size; simp; omega))
               have p1_v3 : v3.cell? ⟨pd, 1, none⟩ = some (.string dn) := (B7.cell (p := ⟨pd, 1, none⟩) (by show pd < wr.heap.size; omega)).trans X1
               have o1_v3 : v3.cell? ⟨po, 1, none⟩ = some (.string ty) := (B7.cell (p := ⟨po, 1, none⟩) (by show po < wr.heap.size; omega)).trans Y1
               have s0_v3 : v3.cell? ⟨v1.heap.size, 0, none⟩ = some (.string st) := (B7.cell (p := ⟨v1.heap.size, 0, none⟩) (by show v1.heap.size < wr.heap.size; omega)).trans s0
               have s1_v3 : v3.cell? ⟨v1.heap.size, 1, none⟩ = some (.string sn) := (B7.cell (p := ⟨v1.heap.size, 1, none⟩) (by show v1.heap.size < wr.heap.size; omega)).trans s1
               have s2_v3 : v3.cell? ⟨v1.heap.size, 2, none⟩ = some (.pointer none) := (B7.cell (p := ⟨v1.heap.size, 2, none⟩) (by show v1.heap.size < wr.heap.size; omega)).trans s2
               have s3_v3 : v3.cell? ⟨v1.heap.size, 3, none⟩ = some (.pointer none) := (B7.cell (p := ⟨v1.heap.size, 3, none⟩) (by show v1.heap.size < wr.heap.size; omega)).trans s3
               have P3 : rowAt v3 (w.heap.size + 1) 49 noBind := below_row B7 P2 z0
               obtain ⟨d0, d1, d2, d3, d4, d5, d6, d7⟩ := eight P3
               have f0 := fun i => P3.frozen i
               have B8 : Below w.heap.size w v3 := B4.trans (B7.mono (by omega))
               clear hb7))
          all_goals
            go_wp2
            exact ret_none (W := v3) (b := w.heap.size + 1) (er := .iface 85 (.pointer (some a))) P3 rfl rfl rfl ⟨⟨a, rfl⟩, clear8_below B8 (Nat.le_succ _)⟩
end Go.Proofs.Qxb6618538aFmt
