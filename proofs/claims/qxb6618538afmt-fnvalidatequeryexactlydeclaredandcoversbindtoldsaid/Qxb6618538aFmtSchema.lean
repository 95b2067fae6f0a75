/-
  schemaB1 (8) at reversed = false: what the schema is in memory.
-/
import Derived.Test.Qxb6618538aFmtAllow
namespace Go.Proofs.Qxb6618538aFmt
open Go.RowKit
set_option linter.unusedVariables false

/-- a pointer to the first cell of a block -/
def pt (b : Nat) : Value := .pointer (some ⟨b, 0, none⟩)

/-- THE SCHEMA AS IT LIES IN MEMORY. -/
structure Sch (w : World) (ta ra pa tb nb : ByteArray) (bs bm pA pB mA mB dR dP dN : Nat) (avR avN : Value) : Prop where
  s : ∃ tv, rowAt w bs 55 #[tv, .map (some bm)]
  m : strMap w bm [(ta, .pointer (some ⟨pA, 0, none⟩)), (tb, .pointer (some ⟨pB, 0, none⟩))]
  oA : ∃ i dv, rowAt w pA 60 #[i, .string ta, .int .i64 0, dv, .map (some mA), .pointer none, .bool false]
  mA : strMap w mA [(ra, .pointer (some ⟨dR, 0, none⟩)), (pa, .pointer (some ⟨dP, 0, none⟩))]
  oB : ∃ i dv, rowAt w pB 60 #[i, .string tb, .int .i64 0, dv, .map (some mB), .pointer none, .bool false]
  mB : strMap w mB [(nb, .pointer (some ⟨dN, 0, none⟩))]
  R : ∃ i, rowAt w dR 65 #[i, .string ra, .int .i64 0, .bool false, .bool false, avR, .slice none 0 0, .slice none 0 0, .slice none 0 0]
  aR : w.ownsRow 0 67 4 avR 2 [.string tb, .string ⟨#[]⟩, .pointer (some ⟨pB, 0, none⟩), .pointer none, .string tb, .string nb, .pointer (some ⟨pB, 0, none⟩), .pointer (some ⟨dN, 0, none⟩)]
  N : ∃ i, rowAt w dN 65 #[i, .string nb, .int .i64 0, .bool false, .bool false, avN, .slice none 0 0, .slice none 0 0, .slice none 0 0]
  aN : w.ownsRow 0 67 4 avN 1 [.string ta, .string ⟨#[]⟩, .pointer (some ⟨pA, 0, none⟩), .pointer none]
  P : ∃ i, rowAt w dP 65 #[i, .string pa, .int .i64 0, .bool true, .bool false, .slice none 0 0, .slice none 0 0, .slice none 0 0, .slice none 0 0]

theorem Sch.below {w w' : World} {ta ra pa tb nb : ByteArray} {bs bm pA pB mA mB dR dP dN : Nat} {avR avN : Value} (h : Sch w ta ra pa tb nb bs bm pA pB mA mB dR dP dN avR avN) (hb : Below w.heap.size w w') :
    Sch w' ta ra pa tb nb bs bm pA pB mA mB dR dP dN avR avN := by
  have K : Kept (fun _ => False) w w' := ⟨hb.os, hb.tape, hb.output, hb.size, fun k hk _ => hb.block k hk⟩
  obtain ⟨⟨tv, h1⟩, h2, ⟨i3, dv3, h3⟩, h4, ⟨i5, dv5, h5⟩, h6, ⟨i7, h7⟩, h8, ⟨i9, h9⟩, h10, ⟨i11, h11⟩⟩ := h
  exact ⟨⟨tv, K.row h1 id⟩, K.map h2 id, ⟨i3, dv3, K.row h3 id⟩, K.map h4 id, ⟨i5, dv5, K.row h5 id⟩, K.map h6 id, ⟨i7, K.row h7 id⟩, K.own h8 (fun _ _ => id), ⟨i9, K.row h9 id⟩, K.own h10 (fun _ _ => id), ⟨i11, K.row h11 id⟩⟩

set_option maxHeartbeats 1600000 in
theorem schema_any (ta ra pa tb nb : ByteArray) (hpa : pa.toList.isEmpty = false) (hab : ta ≠ tb) (hrp : ra ≠ pa) (w : World) :
    Calls Tryf.prog 8 #[.string ta, .string ra, .string pa, .string tb, .string nb, .bool false] w fun e w' => ∃ (bs bm pA pB mA mB dR dP dN : Nat) (avR avN : Value),
      e = .returned (.tuple #[.pointer (some ⟨bs, 0, none⟩), .pointer (some ⟨pA, 0, none⟩), .pointer (some ⟨pB, 0, none⟩), .pointer (some ⟨dR, 0, none⟩), .pointer (some ⟨dN, 0, none⟩)]) ∧
      Sch w' ta ra pa tb nb bs bm pA pB mA mB dR dP dN avR avN ∧ Below w.heap.size w w' := by
  go_enter Tryf.func8, Tryf.ntmps8
  go_wp2_with fail
  refine (new_any _).mono ?_
  rintro e w1 ⟨rfl, hw1⟩
  -- stage 1
  obtain ⟨bm, hbm⟩ : ∃ bm, bm = w.heap.size := ⟨_, rfl⟩
  obtain ⟨bs, hbs⟩ : ∃ bs, bs = w.heap.size + 1 := ⟨_, rfl⟩
  have B1 : Below w.heap.size w w1 := by rw [hw1]; exact ((Below.refl _ w).alloc (Nat.le_refl _) _).alloc (by simp) _
  have s1 : rowAt w1 bs 55 #[.slice none 0 0, .map (some bm)] := by
    have := rowAt_alloc (w.alloc (.map #[] 0)) 55 #[.slice none 0 0, .map (some w.heap.size)]
    rw [hw1, hbs, hbm]; simpa using this
  have m1 : strMap w1 bm [] := by
    rw [hw1, hbm]
    exact (strMap_made w).of_block (Below.heap_alloc _ _ _ (by simp))
  have i1 : w.heap.size ≤ bm := by omega
  have i2 : bm < bs := by omega
  rw [← hbs]
  clear hw1 hbm hbs
  have j1 := s1.lt
  go_wp2_with fail
  refine (addType_any bs bm _ w.heap.size 0 [] [] ta w1 s1 m1 (World.ownsRow_nil _ _ _ _) (by omega) B1.size (by simp)).mono ?_
  rintro e w2 ⟨pA, mA, tv2, rfl, s2, tt2, m2, a2, ma2, k1, k2, K2⟩
  have B2 := Kept.below B1 K2 (by rintro k (rfl | rfl | h); omega; omega; simp [Value.ownBlock] at h) B1.size
  have j2 := a2.lt
  clear K2 s1 m1 B1
  -- stage 3
  go_wp2_with fail
  refine (addType_any bs bm tv2 w.heap.size 1 _ _ tb w2 s2 m2 tt2 (by omega) B2.size (by simpa using fun e => hab e.symm)).mono ?_
  rintro e w3 ⟨pB, mB, tv3, rfl, s3, tt3, m3, b3, mb3, k3, k4, K3⟩
  have B3 := Kept.below B2 K3 (by rintro k (rfl | rfl | h); omega; omega; exact (own_row tt2 h.symm).1) B2.size
  have a3 := K3.row a2 (by rintro (h | h | h); omega; omega; exact a2.ne_own tt2 (by decide) h)
  have ma3 := K3.map ma2 (by rintro (h | h | h); omega; omega; exact ma2.ne_own tt2 h)
  have j3 := b3.lt
  clear K3 s2 m2 B2 a2 ma2 tt2 tt3
  -- stage 4
  go_wp2_with fail
  refine (addDef_any pA mA _ _ _ _ _ _ w.heap.size 0 [] [] ra false w3 a3 ma3 (World.ownsRow_nil _ _ _ _) (by omega) B3.size (by simp)).mono ?_
  rintro e w4 ⟨dR, dvA, rfl, a4, da4, ma4, r4, k5, K4⟩
  have B4 := Kept.below B3 K4 (by rintro k (rfl | rfl | h); omega; omega; simp [Value.ownBlock] at h) B3.size
  have s4 := K4.row s3 (by rintro (h | h | h); omega; omega; simp [Value.ownBlock] at h)
  have m4 := K4.map m3 (by rintro (h | h | h); omega; omega; simp [Value.ownBlock] at h)
  have b4 := K4.row b3 (by rintro (h | h | h); omega; omega; simp [Value.ownBlock] at h)
  have mb4 := K4.map mb3 (by rintro (h | h | h); omega; omega; simp [Value.ownBlock] at h)
  have j4 := r4.lt
  clear K4 s3 m3 B3 a3 ma3 b3 mb3
  -- stage 5
  go_wp2_with fail
  refine (addDef_any pB mB _ _ _ _ _ _ w.heap.size 0 [] [] nb false w4 b4 mb4 (World.ownsRow_nil _ _ _ _) (by omega) B4.size (by simp)).mono ?_
  rintro e w5 ⟨dN, dvB, rfl, b5, db5, mb5, n5, k6, K5⟩
  have B5 := Kept.below B4 K5 (by rintro k (rfl | rfl | h); omega; omega; simp [Value.ownBlock] at h) B4.size
  have s5 := K5.row s4 (by rintro (h | h | h); omega; omega; simp [Value.ownBlock] at h)
  have m5 := K5.map m4 (by rintro (h | h | h); omega; omega; simp [Value.ownBlock] at h)
  have a5 := K5.row a4 (by rintro (h | h | h); omega; omega; simp [Value.ownBlock] at h)
  have ma5 := K5.map ma4 (by rintro (h | h | h); omega; omega; simp [Value.ownBlock] at h)
  have r5 := K5.row r4 (by rintro (h | h | h); omega; omega; simp [Value.ownBlock] at h)
  have da5 := K5.own da4 (by intro k hk; rintro (h | h | h); exact own_ne_row da4 hk b4 (by decide) h; exact own_ne_map da4 hk mb4 h; simp [Value.ownBlock] at h)
  have j5 := n5.lt
  clear K5 s4 m4 B4 a4 ma4 b4 mb4 r4 da4 db5
  -- stage 6
  go_wp2_with fail
  refine (allow_any dN pA _ _ _ _ _ _ _ _ _ _ _ _ _ _ _ ta w.heap.size 0 [] ⟨#[]⟩ none w5 n5 a5 (World.ownsRow_nil _ _ _ _) (by omega) B5.size).mono ?_
  rintro e w6 ⟨avN, rfl, n6, an6, K6⟩
  have B6 := Kept.below B5 K6 (by rintro k (rfl | h); omega; simp [Value.ownBlock] at h) B5.size
  have s6 := K6.row s5 (by rintro (h | h); omega; simp [Value.ownBlock] at h)
  have m6 := K6.map m5 (by rintro (h | h); omega; simp [Value.ownBlock] at h)
  have a6 := K6.row a5 (by rintro (h | h); omega; simp [Value.ownBlock] at h)
  have ma6 := K6.map ma5 (by rintro (h | h); omega; simp [Value.ownBlock] at h)
  have b6 := K6.row b5 (by rintro (h | h); omega; simp [Value.ownBlock] at h)
  have mb6 := K6.map mb5 (by rintro (h | h); omega; simp [Value.ownBlock] at h)
  have r6 := K6.row r5 (by rintro (h | h); omega; simp [Value.ownBlock] at h)
  have da6 := K6.own da5 (by intro k hk; rintro (h | h); exact own_ne_row da5 hk n5 (by decide) h; simp [Value.ownBlock] at h)
  clear K6 s5 m5 B5 a5 ma5 b5 mb5 r5 da5 n5
  -- stage 7
  go_wp2_with fail
  refine (allow_any dR pB _ _ _ _ _ _ _ _ _ _ _ _ _ _ _ tb w6.heap.size 0 [] ⟨#[]⟩ none w6 r6 b6 (World.ownsRow_nil _ _ _ _) (by omega) (Nat.le_refl _)).mono ?_
  rintro e w7 ⟨avR, rfl, r7, ar7, K7⟩
  have B7 := Kept.below B6 K7 (by rintro k (rfl | h); omega; simp [Value.ownBlock] at h) B6.size
  have s7 := K7.row s6 (by rintro (h | h); omega; simp [Value.ownBlock] at h)
  have m7 := K7.map m6 (by rintro (h | h); omega; simp [Value.ownBlock] at h)
  have a7 := K7.row a6 (by rintro (h | h); omega; simp [Value.ownBlock] at h)
  have ma7 := K7.map ma6 (by rintro (h | h); omega; simp [Value.ownBlock] at h)
  have b7 := K7.row b6 (by rintro (h | h); omega; simp [Value.ownBlock] at h)
  have mb7 := K7.map mb6 (by rintro (h | h); omega; simp [Value.ownBlock] at h)
  have n7 := K7.row n6 (by rintro (h | h); omega; simp [Value.ownBlock] at h)
  have da7 := K7.own da6 (by intro k hk; rintro (h | h); exact own_ne_row da6 hk r6 (by decide) h; simp [Value.ownBlock] at h)
  have an7 := K7.own an6 (by intro k hk; rintro (h | h); exact own_ne_row an6 hk r6 (by decide) h; simp [Value.ownBlock] at h)
  have hlt7 : ∀ k, avN.ownBlock = some k → k < w6.heap.size := fun k hk => own_lt an6 hk
  have z7 := K7.size
  clear K7 s6 m6 a6 ma6 b6 mb6 r6 da6 n6 an6
  -- stage 8
  go_wp2_with fail
  refine (allow_any dR pB _ _ _ _ _ _ _ _ _ _ _ _ _ _ _ tb w6.heap.size 1 _ nb (some ⟨dN, 0, none⟩) w7 r7 b7 ar7 (by omega) z7).mono ?_
  rintro e w8 ⟨avR2, rfl, r8, ar8, K8⟩
  have hz : w.heap.size ≤ w6.heap.size := B6.size
  have B8 := Kept.below B7 K8 (by rintro k (rfl | h); omega; have := (own_row ar7 h.symm).1; omega) B7.size
  have s8 := K8.row s7 (by rintro (h | h); omega; exact s7.ne_own ar7 (by decide) h)
  have m8 := K8.map m7 (by rintro (h | h); omega; exact m7.ne_own ar7 h)
  have a8 := K8.row a7 (by rintro (h | h); omega; exact a7.ne_own ar7 (by decide) h)
  have ma8 := K8.map ma7 (by rintro (h | h); omega; exact ma7.ne_own ar7 h)
  have b8 := K8.row b7 (by rintro (h | h); omega; exact b7.ne_own ar7 (by decide) h)
  have mb8 := K8.map mb7 (by rintro (h | h); omega; exact mb7.ne_own ar7 h)
  have n8 := K8.row n7 (by rintro (h | h); omega; exact n7.ne_own ar7 (by decide) h)
  have da8 := K8.own da7 (by intro k hk; rintro (h | h); exact own_ne_row da7 hk r7 (by decide) h; exact own_ne_own da7 ar7 (by decide) hk h)
  have an8 := K8.own an7 (by intro k hk; rintro (h | h); exact own_ne_row an7 hk r7 (by decide) h; have h1 := hlt7 k hk; have h2 := (own_row ar7 h.symm).1; omega)
  have an8' := own_base an8 (Nat.zero_le _)
  have ar8' := own_base ar8 (Nat.zero_le _)
  clear K8 s7 m7 a7 ma7 b7 mb7 r7 da7 n7 an7 ar7 hlt7 B6 B7 an8 ar8 hz z7
  -- stage 9
  go_wp2_with fail
  refine (addDef_any pA mA _ _ _ _ _ _ w.heap.size 1 _ _ pa true w8 a8 ma8 da8 (by omega) B8.size (by simpa using fun e => hrp e.symm)).mono ?_
  rintro e w9 ⟨dP, dvA2, rfl, a9, da9, ma9, p9, k7, K9⟩
  have B9 := Kept.below B8 K9 (by rintro k (rfl | rfl | h); omega; omega; exact (own_row da8 h.symm).1) B8.size
  have s9 := K9.row s8 (by rintro (h | h | h); omega; omega; exact s8.ne_own da8 (by decide) h)
  have m9 := K9.map m8 (by rintro (h | h | h); omega; omega; exact m8.ne_own da8 h)
  have b9 := K9.row b8 (by rintro (h | h | h); omega; omega; exact b8.ne_own da8 (by decide) h)
  have mb9 := K9.map mb8 (by rintro (h | h | h); omega; omega; exact mb8.ne_own da8 h)
  have r9 := K9.row r8 (by rintro (h | h | h); omega; omega; exact r8.ne_own da8 (by decide) h)
  have n9 := K9.row n8 (by rintro (h | h | h); omega; omega; exact n8.ne_own da8 (by decide) h)
  have an9 := K9.own an8' (by intro k hk; rintro (h | h | h); exact own_ne_row an8' hk a8 (by decide) h; exact own_ne_map an8' hk ma8 h; exact own_ne_own an8' da8 (by decide) hk h)
  have ar9 := K9.own ar8' (by intro k hk; rintro (h | h | h); exact own_ne_row ar8' hk a8 (by decide) h; exact own_ne_map ar8' hk ma8 h; exact own_ne_own ar8' da8 (by decide) hk h)
  clear K9 s8 m8 a8 ma8 b8 mb8 r8 da8 n8 an8' ar8' B8
  go_wp2
  refine bodyPost_ret (v := .tuple #[.pointer (some ⟨bs, 0, none⟩), .pointer (some ⟨pA, 0, none⟩), .pointer (some ⟨pB, 0, none⟩), .pointer (some ⟨dR, 0, none⟩), .pointer (some ⟨dN, 0, none⟩)]) (by simp [results, Tryf.results8, go_sem]) rfl ?_
  exact ⟨bs, bm, pA, pB, mA, mB, dR, dP, dN, avR2, avN, rfl, ⟨⟨_, s9⟩, m9, ⟨_, _, a9⟩, ma9, ⟨_, _, b9⟩, mb9, ⟨_, r9⟩, ar9, ⟨_, n9⟩, an9, ⟨_, p9⟩⟩, B9⟩
end Go.Proofs.Qxb6618538aFmt
