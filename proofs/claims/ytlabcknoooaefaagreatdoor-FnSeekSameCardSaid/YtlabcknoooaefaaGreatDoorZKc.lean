/-
  md5: checkSum, Sum.
-/
import Derived.Test.YtlabcknoooaefaaGreatDoorZMe
import Derived.Test.YtlabcknoooaefaaGreatDoorZFa
import Derived.Deep.QuietTactic
import Derived.BigQuiet
import Derived.Deep.DeepCutAuto
import Derived.Deep.WholeRow
import Derived.StillTailTactics
import Derived.IntWalk
import Derived.KernelRfl
namespace Go.Proofs.YtlabcknoooaefaaGreatDoor
open Go.RowKit
set_option linter.unusedVariables false

theorem slice320lo (pb pad : Nat) (h : pad < 64) (W : World) : (Instr.sliceAt 320 (.pointer (some ⟨pb, 0, none⟩)) (some (.int .u64 (1 + (pad : Int)))) none none).run Tryz.prog W = .ok (.slice (some ⟨pb, 1 + pad, none⟩) (72 - (1 + pad)) (72 - (1 + pad))) W := by
  have h1 : (1 + (pad : Int)) ≤ 72 := by omega
  have h0 : 0 ≤ (1 + (pad : Int)) := by omega
  have h2 : ¬ 72 = 1 + pad := by omega
  have h3 : (1 + (pad : Int)).toNat = 1 + pad := by omega
  go_simp

theorem slice320hi (pb pad : Nat) (h : pad < 64) (W : World) : (Instr.sliceAt 320 (.pointer (some ⟨pb, 0, none⟩)) none (some (.int .u64 (1 + (pad : Int) + 8))) none).run Tryz.prog W = .ok (.slice (some ⟨pb, 0, none⟩) (pad + 9) 72) W := by
  have h1 : (1 + (pad : Int) + 8) ≤ 72 := by omega
  have h0 : 0 ≤ (1 + (pad : Int) + 8) := by omega
  have h3 : (1 + (pad : Int) + 8).toNat = pad + 9 := by omega
  go_simp

theorem By.rd {w : World} {b n : Nat} {t : TypeId} (h : By w b t n) (k : Nat) (hk : k ≤ n) : ∃ bs : List UInt8, bs.length = k ∧ Rd w ⟨b, 0, none⟩ bs := by
  obtain ⟨xs, hl, hr, hb⟩ := h
  refine ⟨(xs.take k).map (fun x => UInt8.ofNat x.toNat), by simp; omega, fun j y hj => ?_⟩
  have e : (⟨b, 0, none⟩ : Addr).add j = ⟨b, j, none⟩ := by
    unfold Addr.add
    split
    · rename_i h; subst h; rfl
    · simp
  rw [e, hb.cell]
  simp only [List.getElem?_map, Option.map_eq_some_iff] at hj
  obtain ⟨x, hx, rfl⟩ := hj
  have hx2 : xs[j]? = some x := by
    rw [List.getElem?_take] at hx
    split at hx
    · exact hx
    · cases hx
  have hxr := hr x (List.mem_of_getElem? hx2)
  have e2 : ((UInt8.ofNat x.toNat).toNat : Int) = x := by simp; omega
  rw [e2]
  simp [u8V, hx2]

theorem By.lit16 {w : World} {b : Nat} {t : TypeId} (h : By w b t 16) : ∃ x0 x1 x2 x3 x4 x5 x6 x7 x8 x9 x10 x11 x12 x13 x14 x15 : Int, (∀ x ∈ [x0, x1, x2, x3, x4, x5, x6, x7, x8, x9, x10, x11, x12, x13, x14, x15], 0 ≤ x ∧ x < 256) ∧ Bk w b t #[.int .u8 x0, .int .u8 x1, .int .u8 x2, .int .u8 x3, .int .u8 x4, .int .u8 x5, .int .u8 x6, .int .u8 x7, .int .u8 x8, .int .u8 x9, .int .u8 x10, .int .u8 x11, .int .u8 x12, .int .u8 x13, .int .u8 x14, .int .u8 x15] := by
  obtain ⟨xs, hl, hr, hb⟩ := h
  match xs, hl with
  | [x0, x1, x2, x3, x4, x5, x6, x7, x8, x9, x10, x11, x12, x13, x14, x15], _ => exact ⟨x0, x1, x2, x3, x4, x5, x6, x7, x8, x9, x10, x11, x12, x13, x14, x15, hr, hb⟩

theorem mdHead {w : World} {md : Nat} {m : MdS} (h : Bk w md 170 m.cells) : w.cell? ⟨md, 0, none⟩ = some (.int .u32 m.a) ∧ w.cell? ⟨md, 1, none⟩ = some (.int .u32 m.b) ∧ w.cell? ⟨md, 2, none⟩ = some (.int .u32 m.c) ∧ w.cell? ⟨md, 3, none⟩ = some (.int .u32 m.d) := by
  refine ⟨?_, ?_, ?_, ?_⟩ <;> (rw [h.cell]; simp [MdS.cells])

set_option maxRecDepth 100000 in
set_option maxHeartbeats 2000000 in
theorem checkSum (md : Nat) (m : MdS) (hm : m.ok) (hf : m.fit) (w : World) (h : Bk w md 170 m.cells) :
    Calls Tryz.prog 173 #[.pointer (some ⟨md, 0, none⟩)] w fun e w' => ∃ xs : List Int, xs.length = 16 ∧ (∀ x ∈ xs, 0 ≤ x ∧ x < 256) ∧ e = .returned (.agg (u8V xs).toArray) ∧ Below md w w' := by
  have c69 := md69 h hm.xs
  have hln := hm.ln
  have hnx := hm.nx
  have hf2 : (m.nx : Int) = m.ln % 64 := hf
  have mlt := h.lt
  obtain ⟨pad, hpad⟩ : ∃ pad : Nat, (pad : Int) = (55 - m.ln) % 64 := ⟨((55 - m.ln) % 64).toNat, by omega⟩
  have hp64 : pad < 64 := by omega
  have hw1 : (IntKind.u64.wrap (55 - m.ln)).tmod 64 = (pad : Int) := by
    rw [IntKind.wrap_u64, Int.tmod_eq_emod_of_nonneg (by omega)]
    omega
  have HW1 := Lib.hid hw1
  clear hw1
  have hst : (storeCells ⟨w.heap.size + 1, 0, none⟩ (Tryz.zeroCells320.toList.set 0 (.int .u8 128)) 0).run Tryz.prog ((w.alloc (.cells #[.int .u8 0, .int .u8 0, .int .u8 0, .int .u8 0, .int .u8 0, .int .u8 0, .int .u8 0, .int .u8 0, .int .u8 0, .int .u8 0, .int .u8 0, .int .u8 0, .int .u8 0, .int .u8 0, .int .u8 0, .int .u8 0] 121)).alloc (.cells Tryz.zeroCells320 320)) = .ok () ((w.alloc (.cells #[.int .u8 0, .int .u8 0, .int .u8 0, .int .u8 0, .int .u8 0, .int .u8 0, .int .u8 0, .int .u8 0, .int .u8 0, .int .u8 0, .int .u8 0, .int .u8 0, .int .u8 0, .int .u8 0, .int .u8 0, .int .u8 0] 121)).alloc (.cells (Tryz.zeroCells320.setIfInBounds 0 (.int .u8 128)) 320)) := by
    have e := run_storeCells_new (P := Tryz.prog) (w.alloc (.cells #[.int .u8 0, .int .u8 0, .int .u8 0, .int .u8 0, .int .u8 0, .int .u8 0, .int .u8 0, .int .u8 0, .int .u8 0, .int .u8 0, .int .u8 0, .int .u8 0, .int .u8 0, .int .u8 0, .int .u8 0, .int .u8 0] 121)) 320 Tryz.zeroCells320 (Tryz.zeroCells320.setIfInBounds 0 (.int .u8 128)) (by kernel_rfl) (by kernel_rfl) (by kernel_rfl)
    have hN : (w.alloc (.cells #[.int .u8 0, .int .u8 0, .int .u8 0, .int .u8 0, .int .u8 0, .int .u8 0, .int .u8 0, .int .u8 0, .int .u8 0, .int .u8 0, .int .u8 0, .int .u8 0, .int .u8 0, .int .u8 0, .int .u8 0, .int .u8 0] 121)).heap.size = w.heap.size + 1 := by simp
    rw [hN, Array.toList_setIfInBounds] at e
    exact e
  have hz320 : Tryz.zeroCells320.setIfInBounds 0 (.int .u8 128) = (u8V (128 :: List.replicate 71 0)).toArray := by kernel_rfl
  have HZ := Lib.hid hz320
  clear hz320
  go_enter Tryz.func173, Tryz.ntmps173
  go_upto_region 3 with fail
  rw [HW1.out]
  have H2 := (h.alloc (.cells #[.int .u8 0, .int .u8 0, .int .u8 0, .int .u8 0, .int .u8 0, .int .u8 0, .int .u8 0, .int .u8 0, .int .u8 0, .int .u8 0, .int .u8 0, .int .u8 0, .int .u8 0, .int .u8 0, .int .u8 0, .int .u8 0] 121)).alloc (.cells (Tryz.zeroCells320.setIfInBounds 0 (.int .u8 128)) 320)
  have B2 := ((Below.refl _ w).alloc (Nat.le_refl _) (.cells #[.int .u8 0, .int .u8 0, .int .u8 0, .int .u8 0, .int .u8 0, .int .u8 0, .int .u8 0, .int .u8 0, .int .u8 0, .int .u8 0, .int .u8 0, .int .u8 0, .int .u8 0, .int .u8 0, .int .u8 0, .int .u8 0] 121)).alloc (by simp) (.cells (Tryz.zeroCells320.setIfInBounds 0 (.int .u8 128)) 320)
  have R2 : By ((w.alloc (.cells #[.int .u8 0, .int .u8 0, .int .u8 0, .int .u8 0, .int .u8 0, .int .u8 0, .int .u8 0, .int .u8 0, .int .u8 0, .int .u8 0, .int .u8 0, .int .u8 0, .int .u8 0, .int .u8 0, .int .u8 0, .int .u8 0] 121)).alloc (.cells (Tryz.zeroCells320.setIfInBounds 0 (.int .u8 128)) 320)) w.heap.size 121 16 :=
    ⟨List.replicate 16 0, by simp, fun x hx => by have := List.eq_of_mem_replicate hx; omega, (Bk.newAt w 121 _ _ rfl).alloc _⟩
  have P2 : By ((w.alloc (.cells #[.int .u8 0, .int .u8 0, .int .u8 0, .int .u8 0, .int .u8 0, .int .u8 0, .int .u8 0, .int .u8 0, .int .u8 0, .int .u8 0, .int .u8 0, .int .u8 0, .int .u8 0, .int .u8 0, .int .u8 0, .int .u8 0] 121)).alloc (.cells (Tryz.zeroCells320.setIfInBounds 0 (.int .u8 128)) 320)) (w.heap.size + 1) 320 72 :=
    ⟨128 :: List.replicate 71 0, by simp, fun x hx => by
      rcases List.mem_cons.1 hx with h | h
      · omega
      · have := List.eq_of_mem_replicate h; omega, HZ.out ▸ Bk.newAt _ 320 _ _ (by simp)⟩
  obtain ⟨w2, hw2⟩ : ∃ w2, w2 = (w.alloc (.cells #[.int .u8 0, .int .u8 0, .int .u8 0, .int .u8 0, .int .u8 0, .int .u8 0, .int .u8 0, .int .u8 0, .int .u8 0, .int .u8 0, .int .u8 0, .int .u8 0, .int .u8 0, .int .u8 0, .int .u8 0, .int .u8 0] 121)).alloc (.cells (Tryz.zeroCells320.setIfInBounds 0 (.int .u8 128)) 320) := ⟨_, rfl⟩
  rw [← hw2] at H2 B2 R2 P2 ⊢
  clear hw2 hst c69 HZ
  obtain ⟨pb, hpb⟩ : ∃ pb, pb = w.heap.size + 1 := ⟨_, rfl⟩
  obtain ⟨rb, hrb⟩ : ∃ rb, rb = w.heap.size := ⟨_, rfl⟩
  rw [← hpb] at P2 ⊢
  rw [← hrb] at R2 hpb ⊢
  have hne : md ≠ pb ∧ md ≠ rb ∧ rb ≠ pb ∧ md < rb ∧ rb < pb := by omega
  have HRB := Lib.hid hrb
  clear hpb hrb
  have d69 := md69 H2 hm.xs
  have plt := P2.lt
  have hs1 := slice320lo pb pad hp64
  have hs2 := slice320hi pb pad hp64
  have HPAD := Lib.hid hpad
  clear hpad
  have hsum : IntKind.u64.wrap (1 + (pad : Int)) = 1 + (pad : Int) := by rw [IntKind.wrap_u64]; omega
  go_still_tail 8, (by kernel_rfl)
  have hu : 0 ≤ IntKind.u64.wrap (m.ln * 8) ∧ IntKind.u64.wrap (m.ln * 8) < 18446744073709551616 := by rw [IntKind.wrap_u64]; omega
  have HU := Lib.hid hu
  clear hu
  change wpList _ _ _ _ _ w2.drew
  go_wp2_with (go_at_call 176; refine (put64 pb 72 320 (1 + pad) _ _ _ HU.out w2.drew P2 (by omega) (by omega)).mono ?_; rintro e w3 ⟨rfl, P3, O3⟩; refine Hid.out ?_)
  refine Lib.hid ?_
  have H3 : Bk w3 md 170 m.cells := O3.bk (w := w2.drew) H2 hne.1
  have R3 : By w3 rb 121 16 := by
    obtain ⟨xs, h1, h2, h3⟩ := R2
    exact ⟨xs, h1, h2, O3.bk (w := w2.drew) h3 hne.2.2.1⟩
  have z2 : rb ≤ w2.drew.heap.size := by show rb ≤ w2.heap.size; omega
  have B3 : Below rb w w3 := (B2.mono (Nat.le_of_eq HRB.out)).drew.grown O3.grown z2 (fun k hk => by injection hk with hk; omega)
  clear d69 plt H2 R2 B2 P2 O3
  obtain ⟨bs, hbl, hbr⟩ := P3.rd (pad + 9) (by omega)
  have hsum2 : IntKind.u64.wrap (1 + (pad : Int) + 8) = 1 + (pad : Int) + 8 := by rw [IntKind.wrap_u64]; omega
  have he : (m.nx + (pad + 9)) % 64 = 0 := by have := HPAD.out; omega
  have HE := Lib.hid he
  clear he P3
  go_wp2_with (go_at_call 172; refine (mdWriteE md m hm bs pb 0 (pad + 9) 72 w3 H3 hbr hbl (by omega) (by omega) (fun x => hne.1 x.symm) ⟨by omega, by omega⟩ HE.out).mono ?_; rintro e w4 ⟨rfl, T4⟩; refine Hid.out ?_)
  refine Lib.hid ?_
  obtain ⟨O4, m4, hm4, H4, hn4, _⟩ := T4
  have hn0 : m4.nx = 0 := by rw [hn4]; exact HE.out
  have c68 := md68 H4 hm4.xs
  rw [hn0] at c68
  have R4 : By w4 rb 121 16 := by
    obtain ⟨xs, h1, h2, h3⟩ := R3
    exact ⟨xs, h1, h2, O4.bk h3 (fun x => hne.2.1 x.symm)⟩
  have hz3 : rb ≤ w3.heap.size := Nat.le_of_lt R3.lt
  have B4 : Below md w w4 := (B3.mono (Nat.le_of_lt hne.2.2.2.1)).grown O4.grown (by omega) (fun k hk => by injection hk with hk; omega)
  clear H3 R3 B3 hbr O4 hn4 hn0
  go_upto_region 8 with fail
  have H5 := H4.alloc (.cells #[.int .u8 0, .int .u8 0, .int .u8 0, .int .u8 0, .int .u8 0, .int .u8 0, .int .u8 0, .int .u8 0, .int .u8 0, .int .u8 0, .int .u8 0, .int .u8 0, .int .u8 0, .int .u8 0, .int .u8 0, .int .u8 0] 121)
  have R5 : By (w4.alloc (.cells #[.int .u8 0, .int .u8 0, .int .u8 0, .int .u8 0, .int .u8 0, .int .u8 0, .int .u8 0, .int .u8 0, .int .u8 0, .int .u8 0, .int .u8 0, .int .u8 0, .int .u8 0, .int .u8 0, .int .u8 0, .int .u8 0] 121)) rb 121 16 := by
    obtain ⟨xs, h1, h2, h3⟩ := R4
    exact ⟨xs, h1, h2, h3.alloc _⟩
  have D5 : By (w4.alloc (.cells #[.int .u8 0, .int .u8 0, .int .u8 0, .int .u8 0, .int .u8 0, .int .u8 0, .int .u8 0, .int .u8 0, .int .u8 0, .int .u8 0, .int .u8 0, .int .u8 0, .int .u8 0, .int .u8 0, .int .u8 0, .int .u8 0] 121)) w4.heap.size 121 16 :=
    ⟨List.replicate 16 0, by simp, fun x hx => by have := List.eq_of_mem_replicate hx; omega, Bk.newAt w4 121 _ _ rfl⟩
  have B5 := B4.alloc (Nat.le_trans (Nat.le_of_lt H4.lt) (Nat.le_refl _)) (.cells #[.int .u8 0, .int .u8 0, .int .u8 0, .int .u8 0, .int .u8 0, .int .u8 0, .int .u8 0, .int .u8 0, .int .u8 0, .int .u8 0, .int .u8 0, .int .u8 0, .int .u8 0, .int .u8 0, .int .u8 0, .int .u8 0] 121)
  have hd1 : md < w4.heap.size := H4.lt
  have hd2 : rb < w4.heap.size := R4.lt
  obtain ⟨w5, hw5⟩ : ∃ w5, w5 = w4.alloc (.cells #[.int .u8 0, .int .u8 0, .int .u8 0, .int .u8 0, .int .u8 0, .int .u8 0, .int .u8 0, .int .u8 0, .int .u8 0, .int .u8 0, .int .u8 0, .int .u8 0, .int .u8 0, .int .u8 0, .int .u8 0, .int .u8 0] 121) := ⟨_, rfl⟩
  rw [← hw5] at H5 R5 D5 B5 ⊢
  obtain ⟨db, hdb⟩ : ∃ db, db = w4.heap.size := ⟨_, rfl⟩
  rw [← hdb] at D5 hd1 hd2 ⊢
  clear hw5 hdb H4 R4 B4 c68 hsum hsum2 hs1 hs2 HPAD HE HU HW1 hf2 hf hbl
  have hm4a := hm4.a
  have hm4b := hm4.b
  have hm4c := hm4.c
  have hm4d := hm4.d
  obtain ⟨q0, q1, q2, q3⟩ := mdHead H5
  have zd := D5.lt
  go_still_tail 6, (by kernel_rfl)
  change wpList _ _ _ _ _ w5.drew
  go_wp2_with (go_at_call 177; refine (put32 db 16 121 0 16 16 m4.a hm4a w5.drew D5 (by omega) (by omega)).mono ?_; rintro e w6 ⟨rfl, D6, O6⟩; refine Hid.out ?_)
  refine Lib.hid ?_
  have H6 : Bk w6 md 170 m4.cells := O6.bk (w := w5.drew) H5 (by omega)
  have R6 : By w6 rb 121 16 := by
    obtain ⟨xs, h1, h2, h3⟩ := R5
    exact ⟨xs, h1, h2, O6.bk (w := w5.drew) h3 (by omega)⟩
  have z6 : md ≤ w5.drew.heap.size := by show md ≤ w5.heap.size; omega
  have B6 : Below md w w6 := B5.drew.grown O6.grown z6 (fun k hk => by injection hk with hk; omega)
  clear q0 q1 q2 q3 zd z6 H5 R5 D5 B5 O6
  go_upto_region 9 with fail
  obtain ⟨q0, q1, q2, q3⟩ := mdHead H6
  have zd := D6.lt
  go_still_tail 6, (by kernel_rfl)
  change wpList _ _ _ _ _ w6.drew
  go_wp2_with (go_at_call 177; refine (put32 db 16 121 4 12 12 m4.b hm4b w6.drew D6 (by omega) (by omega)).mono ?_; rintro e w7 ⟨rfl, D7, O7⟩; refine Hid.out ?_)
  refine Lib.hid ?_
  have H7 : Bk w7 md 170 m4.cells := O7.bk (w := w6.drew) H6 (by omega)
  have R7 : By w7 rb 121 16 := by
    obtain ⟨xs, h1, h2, h3⟩ := R6
    exact ⟨xs, h1, h2, O7.bk (w := w6.drew) h3 (by omega)⟩
  have z7 : md ≤ w6.drew.heap.size := by show md ≤ w6.heap.size; omega
  have B7 : Below md w w7 := B6.drew.grown O7.grown z7 (fun k hk => by injection hk with hk; omega)
  clear q0 q1 q2 q3 zd z7 H6 R6 D6 B6 O7
  go_upto_region 10 with fail
  obtain ⟨q0, q1, q2, q3⟩ := mdHead H7
  have zd := D7.lt
  go_still_tail 6, (by kernel_rfl)
  change wpList _ _ _ _ _ w7.drew
  go_wp2_with (go_at_call 177; refine (put32 db 16 121 8 8 8 m4.c hm4c w7.drew D7 (by omega) (by omega)).mono ?_; rintro e w8 ⟨rfl, D8, O8⟩; refine Hid.out ?_)
  refine Lib.hid ?_
  have H8 : Bk w8 md 170 m4.cells := O8.bk (w := w7.drew) H7 (by omega)
  have R8 : By w8 rb 121 16 := by
    obtain ⟨xs, h1, h2, h3⟩ := R7
    exact ⟨xs, h1, h2, O8.bk (w := w7.drew) h3 (by omega)⟩
  have z8 : md ≤ w7.drew.heap.size := by show md ≤ w7.heap.size; omega
  have B8 : Below md w w8 := B7.drew.grown O8.grown z8 (fun k hk => by injection hk with hk; omega)
  clear q0 q1 q2 q3 zd z8 H7 R7 D7 B7 O8
  go_upto_region 11 with fail
  obtain ⟨q0, q1, q2, q3⟩ := mdHead H8
  have zd := D8.lt
  go_still_tail 6, (by kernel_rfl)
  change wpList _ _ _ _ _ w8.drew
  go_wp2_with (go_at_call 177; refine (put32 db 16 121 12 4 4 m4.d hm4d w8.drew D8 (by omega) (by omega)).mono ?_; rintro e w9 ⟨rfl, D9, O9⟩; refine Hid.out ?_)
  refine Lib.hid ?_
  have H9 : Bk w9 md 170 m4.cells := O9.bk (w := w8.drew) H8 (by omega)
  have R9 : By w9 rb 121 16 := by
    obtain ⟨xs, h1, h2, h3⟩ := R8
    exact ⟨xs, h1, h2, O9.bk (w := w8.drew) h3 (by omega)⟩
  have z9 : md ≤ w8.drew.heap.size := by show md ≤ w8.heap.size; omega
  have B9 : Below md w w9 := B8.drew.grown O9.grown z9 (fun k hk => by injection hk with hk; omega)
  clear q0 q1 q2 q3 zd z9 H8 R8 D8 B8 O9
  obtain ⟨x0, x1, x2, x3, x4, x5, x6, x7, x8, x9, x10, x11, x12, x13, x14, x15, hxr, DB⟩ := D9.lit16
  obtain ⟨y0, y1, y2, y3, y4, y5, y6, y7, y8, y9, y10, y11, y12, y13, y14, y15, _, RB⟩ := R9.lit16
  have c0 := DB.cell 0
  have r0 := RB.cell 0
  have g0 := RB.frozen 0
  have c1 := DB.cell 1
  have r1 := RB.cell 1
  have g1 := RB.frozen 1
  have c2 := DB.cell 2
  have r2 := RB.cell 2
  have g2 := RB.frozen 2
  have c3 := DB.cell 3
  have r3 := RB.cell 3
  have g3 := RB.frozen 3
  have c4 := DB.cell 4
  have r4 := RB.cell 4
  have g4 := RB.frozen 4
  have c5 := DB.cell 5
  have r5 := RB.cell 5
  have g5 := RB.frozen 5
  have c6 := DB.cell 6
  have r6 := RB.cell 6
  have g6 := RB.frozen 6
  have c7 := DB.cell 7
  have r7 := RB.cell 7
  have g7 := RB.frozen 7
  have c8 := DB.cell 8
  have r8 := RB.cell 8
  have g8 := RB.frozen 8
  have c9 := DB.cell 9
  have r9 := RB.cell 9
  have g9 := RB.frozen 9
  have c10 := DB.cell 10
  have r10 := RB.cell 10
  have g10 := RB.frozen 10
  have c11 := DB.cell 11
  have r11 := RB.cell 11
  have g11 := RB.frozen 11
  have c12 := DB.cell 12
  have r12 := RB.cell 12
  have g12 := RB.frozen 12
  have c13 := DB.cell 13
  have r13 := RB.cell 13
  have g13 := RB.frozen 13
  have c14 := DB.cell 14
  have r14 := RB.cell 14
  have g14 := RB.frozen 14
  have c15 := DB.cell 15
  have r15 := RB.cell 15
  have g15 := RB.frozen 15
  simp at c0 r0 c1 r1 c2 r2 c3 r3 c4 r4 c5 r5 c6 r6 c7 r7 c8 r8 c9 r9 c10 r10 c11 r11 c12 r12 c13 r13 c14 r14 c15 r15
  have hdr : rb ≠ db := by omega
  go_wp2_with fail
  have hle : md ≤ rb := by omega
  have RB2 := ((((((((((((((((RB.put 0 (.int .u8 x0)).put 1 (.int .u8 x1)).put 2 (.int .u8 x2)).put 3 (.int .u8 x3)).put 4 (.int .u8 x4)).put 5 (.int .u8 x5)).put 6 (.int .u8 x6)).put 7 (.int .u8 x7)).put 8 (.int .u8 x8)).put 9 (.int .u8 x9)).put 10 (.int .u8 x10)).put 11 (.int .u8 x11)).put 12 (.int .u8 x12)).put 13 (.int .u8 x13)).put 14 (.int .u8 x14)).put 15 (.int .u8 x15))
  simp only [List.setIfInBounds_toArray, List.set_cons_zero, List.set_cons_succ] at RB2
  refine bodyPost_ret (v := .agg #[.int .u8 x0, .int .u8 x1, .int .u8 x2, .int .u8 x3, .int .u8 x4, .int .u8 x5, .int .u8 x6, .int .u8 x7, .int .u8 x8, .int .u8 x9, .int .u8 x10, .int .u8 x11, .int .u8 x12, .int .u8 x13, .int .u8 x14, .int .u8 x15]) (results_cell_row rfl _ _ rb 121 _ (0, 0) _ rfl RB2 Tryz.underlying121 rfl (by kernel_rfl)) rfl ⟨[x0, x1, x2, x3, x4, x5, x6, x7, x8, x9, x10, x11, x12, x13, x14, x15], rfl, hxr, rfl, ((((((((((((((((B9.setCell (p := ⟨rb, 0, none⟩) hle (.int .u8 x0)).setCell (p := ⟨rb, 1, none⟩) hle (.int .u8 x1)).setCell (p := ⟨rb, 2, none⟩) hle (.int .u8 x2)).setCell (p := ⟨rb, 3, none⟩) hle (.int .u8 x3)).setCell (p := ⟨rb, 4, none⟩) hle (.int .u8 x4)).setCell (p := ⟨rb, 5, none⟩) hle (.int .u8 x5)).setCell (p := ⟨rb, 6, none⟩) hle (.int .u8 x6)).setCell (p := ⟨rb, 7, none⟩) hle (.int .u8 x7)).setCell (p := ⟨rb, 8, none⟩) hle (.int .u8 x8)).setCell (p := ⟨rb, 9, none⟩) hle (.int .u8 x9)).setCell (p := ⟨rb, 10, none⟩) hle (.int .u8 x10)).setCell (p := ⟨rb, 11, none⟩) hle (.int .u8 x11)).setCell (p := ⟨rb, 12, none⟩) hle (.int .u8 x12)).setCell (p := ⟨rb, 13, none⟩) hle (.int .u8 x13)).setCell (p := ⟨rb, 14, none⟩) hle (.int .u8 x14)).setCell (p := ⟨rb, 15, none⟩) hle (.int .u8 x15))⟩
end Go.Proofs.YtlabcknoooaefaaGreatDoor
