/-
  WHAT THE LAWS GIVE THE ENCODER: the parts' numbers (givenOf's block 8).
-/
import Derived.Test.YtlabcknoooaefaaGreatDoorZVa
import Derived.IntWalk
import Derived.Deep.RegionHeld
namespace Go.Proofs.YtlabcknoooaefaaGreatDoor
open Go.RowKit
set_option linter.unusedVariables false

noncomputable def blk7_8 : Code := (Tryz.f7.body.bind (findBlock 8)).getD .skip

set_option maxRecDepth 1000000 in
set_option maxHeartbeats 8000000 in
theorem paramsP {s0 s1 s2 s3 s4 s5 s6 s7 s8 s9 s10 s12 s13 s14 s15 s16 s17 s18 s19 s20 s23 s24 s25 s26 s27 s28 s29 s30 s31 s32 s33 s34 s35 s36 s37 s38 s39 s40 s41 s42 s43 s44 s45 s46 s47 s48 s49 s50 s51 s52 s53 s54 s55 s56 s57 s58 s59 s60 s61 s62 s63 s64 s65 s66 s67 s68 s69 s70 s71 s72 s73 s74 s75 s76 s77 s78 s79 s80 s81 s82 s83 s84 s85 s86 s87 s88 s89 s90 s91 s92 s93 s94 s95 s96 s97 s98 s99 s100 s101 s102 s103 s104 s105 s106 s107 s108 s109 s110 s111 s112 s113 s114 s115 s116 s117 s118 s119 s120 s121 s122 s123 s124 s125 s126 s127 s128 s129 s130 s131 s132 s133 s134 s135 s136 s137 s138 s139 s140 s141 s142 s143 s144 s145 s146 s147 s148 s149 s150 s151 s152 s153 s154 s155 s156 s157 s158 s159 s160 s161 s162 s163 s164 s165 s166 s167 s168 s169 s170 s171 s172 s173 s174 s175 s176 s179 s180 s181 s182 s183 s184 s185 s186 s187 s188 s189 s190 s191 s192 s193 s194 s195 s196 s197 s198 s199 s200 s201 s202 s203 s204 s205 s206 s207 s208 s209 s210 s211 s212 s213 s214 s215 s216 s217 s218 s219 s220 s221 s222 s223 s224 s225 s226 s227 s228 s229 s230 : Value} (w : World) (ib : Nat) (bits kw : Int) (hkw : 0 ≤ kw ∧ kw < 65536) (hb : bits = 8 ∨ bits = 12 ∨ bits = 16 ∨ bits = 20) (hib : ib < w.heap.size) (hic : w.cell? ⟨ib, 6, none⟩ = some (.int .i64 bits)) (sbx : Nat) (np : Nat) (hnp : np ≤ 4) (kind order part : Int) (v3 : Value) (m : Nat) (smp : List Int) (w0 : World)
    (S0 : SubSt w.heap.size sbx kind order part v3 m smp (.slice none 0 0) 0 [] w w0) :
    blk7_8.wp Tryz.prog (Exit.then (fun a' w' => ∃ u26 u178 u179 u180 u181 u182 u183 u184 u185 u186 u187 u188 u189 u190 u191 u192 u193 u194 u195 u196 u197 u198 u199 u200 u201 u202 u203 u204 : Value, (∃ (v8' : Value) (prm' : List Int), prm'.length = np ∧ (∀ v ∈ prm', 4 ≤ v ∧ v ≤ 14) ∧ SubSt w.heap.size sbx kind order part v3 m smp v8' np prm' w w') ∧ a' = ⟨#[s0, s1, s2, s3, s4, s5, s6, s7, s8, s9, s10, .pointer (some ⟨ib, 0, none⟩), s12, s13, s14, s15, s16, s17, s18, s19, s20, .int .u16 kw, .pointer (some ⟨sbx, 0, none⟩), s23, s24, s25, u26, s27, s28, s29, s30, s31, s32, s33, s34, s35, s36, s37, s38, s39, s40, s41, s42, s43, s44, s45, s46, s47, s48, s49, s50, s51, s52, s53, s54, s55, s56, s57, s58, s59, s60, s61, s62, s63, s64, s65, s66, s67, s68, s69, s70, s71, s72, s73, s74, s75, s76, s77, s78, s79, s80, s81, s82, s83, s84, s85, s86, s87, s88, s89, s90, s91, s92, s93, s94, s95, s96, s97, s98, s99, s100, s101, s102, s103, s104, s105, s106, s107, s108, s109, s110, s111, s112, s113, s114, s115, s116, s117, s118, s119, s120, s121, s122, s123, s124, s125, s126, s127, s128, s129, s130, s131, s132, s133, s134, s135, s136, s137, s138, s139, s140, s141, s142, s143, s144, s145, s146, s147, s148, s149, s150, s151, s152, s153, s154, s155, s156, s157, s158, s159, s160, s161, s162, s163, s164, s165, s166, s167, s168, s169, s170, s171, s172, s173, s174, s175, s176, .int .i64 (np : Int), u178, u179, u180, u181, u182, u183, u184, u185, u186, u187, u188, u189, u190, u191, u192, u193, u194, u195, u196, u197, u198, u199, u200, u201, u202, u203, u204, s205, s206, s207, s208, s209, s210, s211, s212, s213, s214, s215, s216, s217, s218, s219, s220, s221, s222, s223, s224, s225, s226, s227, s228, s229, s230], []⟩) NoQ) ⟨#[s0, s1, s2, s3, s4, s5, s6, s7, s8, s9, s10, .pointer (some ⟨ib, 0, none⟩), s12, s13, s14, s15, s16, s17, s18, s19, s20, .int .u16 kw, .pointer (some ⟨sbx, 0, none⟩), s23, s24, s25, s26, s27, s28, s29, s30, s31, s32, s33, s34, s35, s36, s37, s38, s39, s40, s41, s42, s43, s44, s45, s46, s47, s48, s49, s50, s51, s52, s53, s54, s55, s56, s57, s58, s59, s60, s61, s62, s63, s64, s65, s66, s67, s68, s69, s70, s71, s72, s73, s74, s75, s76, s77, s78, s79, s80, s81, s82, s83, s84, s85, s86, s87, s88, s89, s90, s91, s92, s93, s94, s95, s96, s97, s98, s99, s100, s101, s102, s103, s104, s105, s106, s107, s108, s109, s110, s111, s112, s113, s114, s115, s116, s117, s118, s119, s120, s121, s122, s123, s124, s125, s126, s127, s128, s129, s130, s131, s132, s133, s134, s135, s136, s137, s138, s139, s140, s141, s142, s143, s144, s145, s146, s147, s148, s149, s150, s151, s152, s153, s154, s155, s156, s157, s158, s159, s160, s161, s162, s163, s164, s165, s166, s167, s168, s169, s170, s171, s172, s173, s174, s175, s176, .int .i64 (np : Int), .int .i64 0, s179, s180, s181, s182, s183, s184, s185, s186, s187, s188, s189, s190, s191, s192, s193, s194, s195, s196, s197, s198, s199, s200, s201, s202, s203, s204, s205, s206, s207, s208, s209, s210, s211, s212, s213, s214, s215, s216, s217, s218, s219, s220, s221, s222, s223, s224, s225, s226, s227, s228, s229, s230], []⟩ w0 := by
  obtain ⟨i3, hi3, hz30, hz31, hz32⟩ := info_parts (show (Tryz.prog.info? 3).map (fun i => (i.zero, i.size, i.bytes)) = some (some (.int .i64 0), 1, 8) by kernel_rfl)
  refine wp_letter ?_
  intro J K' hJ hK
  conv => arg 2; whnf
  go_wp2_with fail
  go_loopg [178] np (fun g i wr => ∃ (j : Nat) (v8 : Value) (prm : List Int), g + j = np ∧ i = .int .i64 (j : Int) ∧ prm.length = j ∧ (∀ v ∈ prm, 4 ≤ v ∧ v ≤ 14) ∧ SubSt w.heap.size sbx kind order part v3 m smp v8 j prm w wr)
  case atStart => exact ⟨0, .slice none 0 0, [], by omega, rfl, rfl, fun v hv => by simp at hv, S0⟩
  case round =>
    obtain ⟨j, v8, prm, hgk, rfl, hpl, hpr, S1⟩ := hrel
    have HGK := Lib.hid hgk
    have HPL := Lib.hid hpl
    have HPR := Lib.hid hpr
    have hjn : j ≤ np := by omega
    clear hgk S0 hpl hpr
    by_cases hlt : j < np
    · have hci : wr.cell? ⟨ib, 6, none⟩ = some (.int .i64 bits) := (S1.below.cell (p := ⟨ib, 6, none⟩) hib).trans hic
      obtain ⟨_, _, _, _, d8, hfz⟩ := S1.cells
      have f8 := hfz 8
      have hsb := S1.sb
      have hsl := S1.box.lt
      have hns : ¬ ib = sbx := by omega
      have hns2 : ¬ sbx = ib := by omega
      have hB := S1.hB
      have HS1 := Lib.hid S1
      have HIC := Lib.hid hic
      clear hfz S1 hic
      obtain ⟨y, hy⟩ : ∃ y, y = kw / 256 % (2 + (j : Int)) := ⟨_, rfl⟩
      have hy0 : 0 ≤ y := by rw [hy]; exact Int.emod_nonneg _ (by omega)
      have e1 : (kw / 256).tmod (2 + (j : Int)) = y := by rw [hy, Int.tmod_eq_emod_of_nonneg (by omega)]
      have hz : ¬ (2 + (j : Int)) = 0 := by omega
      clear hy
      obtain ⟨b8, hb8⟩ : ∃ b8, b8 = bits - 8 := ⟨_, rfl⟩
      obtain ⟨mm, hmm⟩ : ∃ mm : Int, mm = (if b8 < 4 then 4 else b8) := ⟨_, rfl⟩
      have hmr : mm = 4 ∨ mm = 8 ∨ mm = 12 := by
        rw [hmm, hb8]
        rcases hb with rfl | rfl | rfl | rfl <;> decide
      obtain ⟨dd, hdd⟩ : ∃ dd, dd = 15 - mm := ⟨_, rfl⟩
      have hdr : 3 ≤ dd ∧ dd ≤ 11 := by omega
      have hd1 : 1 < dd := by omega
      have hd0 : ¬ dd = 0 := by omega
      obtain ⟨z, hz2⟩ : ∃ z, z = y.tmod dd := ⟨_, rfl⟩
      have hzr : 0 ≤ z ∧ z < dd := by
        rw [hz2, Int.tmod_eq_emod_of_nonneg hy0]
        exact ⟨Int.emod_nonneg _ hd0, Int.emod_lt_of_pos _ (by omega)⟩
      obtain ⟨x, hx⟩ : ∃ x, x = mm + z := ⟨_, rfl⟩
      have HX := Lib.hid (show 4 ≤ x ∧ x ≤ 14 by omega)
      have E63 := Lib.hid (show j + 1 ≤ maxLen by unfold maxLen; omega)
      have E47 := Lib.hid (show (j + 1) * 8 ≤ 140737488355328 by omega)
      have EBS := Lib.hid (show w.heap.size ≤ ((wr.alloc (.cells #[.int .i64 x] 3)).drew).heap.size by simp; omega)
      have HOW := Lib.hid (fun (o : Obj) => ownsRow_below HS1.out.r8 ((Below.refl _ wr).alloc (Nat.le_refl _) o) (fun q hq => (HS1.out.r8.lt q hq).2))
      go_upto_region 34 with fail
      have w1 : IntKind.i64.wrap (2 + (j : Int)) = 2 + (j : Int) := IntWalk.i64_in _ (by omega)
      have w2 : IntKind.i64.wrap (kw / 256) = kw / 256 := IntWalk.i64_in _ (by omega)
      have w3 : IntKind.i64.wrap (bits - 8) = b8 := by rw [hb8]; exact IntWalk.i64_in _ (by omega)
      have w4 : (if b8 < 4 then (4 : Int) else b8) = mm := hmm.symm
      have w5 : IntKind.i64.wrap (15 - mm) = dd := by rw [hdd]; exact IntWalk.i64_in _ (by omega)
      have w6 : y.tmod dd = z := hz2.symm
      have w7 : IntKind.i64.wrap (mm + z) = x := by rw [hx]; exact IntWalk.i64_in _ (by omega)
      clear hb8 hmm hmr hdd hdr hz2 hzr hx hb
      refine wp_region_held_drew (S := fun w' => w'.cell? ⟨ib, 6, none⟩ = some (.int .i64 bits)) (by kernel_rfl) (by simpa using hci) (fun hHeld => ?_)
      refine wpAnyH_take (i := 0) (v := .pointer (some ⟨sbx, 8, none⟩)) rfl (by kernel_rfl) (by kernel_rfl) (by kernel_rfl) (fun _ _ _ h => h) (Or.inl ⟨by rfl, fun w' hSw => ?_⟩) hHeld ?_
      · (try dsimp only at hSw); go_simp
      simp only [Act.put]
      refine wpAnyH_take (i := 2) (v := .pointer (some ⟨ib, 6, none⟩)) rfl (by kernel_rfl) (by kernel_rfl) (by kernel_rfl) (fun _ _ _ h => h) (Or.inl ⟨by rfl, fun w' hSw => ?_⟩) hHeld ?_
      · (try dsimp only at hSw); go_simp
      simp only [Act.put]
      refine wpAnyH_take (i := 3) (v := .int .i64 bits) rfl (by kernel_rfl) (by kernel_rfl) (by kernel_rfl) (fun _ _ _ h => h) (Or.inl ⟨by rfl, fun w' hSw => ?_⟩) hHeld ?_
      · (try dsimp only at hSw); go_simp
      simp only [Act.put]
      refine wpAnyH_take (i := 4) (v := .int .i64 b8) rfl (by kernel_rfl) (by kernel_rfl) (by kernel_rfl) (fun _ _ _ h => h) (Or.inl ⟨by rfl, fun w' hSw => ?_⟩) hHeld ?_
      · (try dsimp only at hSw); go_simp
      simp only [Act.put]
      refine wpAnyH_take (i := 5) (v := .int .i64 mm) rfl (by kernel_rfl) (by kernel_rfl) (by kernel_rfl) (fun _ _ _ h => h) (Or.inl ⟨by rfl, fun w' hSw => ?_⟩) hHeld ?_
      · (try dsimp only at hSw); go_simp
      simp only [Act.put]
      refine wpAnyH_take (i := 6) (v := .int .u16 kw) rfl (by kernel_rfl) (by kernel_rfl) (by kernel_rfl) (fun _ _ _ h => h) (Or.inl ⟨by rfl, fun w' hSw => ?_⟩) hHeld ?_
      · (try dsimp only at hSw); go_simp
      simp only [Act.put]
      refine wpAnyH_take (i := 7) (v := .int .u16 (kw / 256)) rfl (by kernel_rfl) (by kernel_rfl) (by kernel_rfl) (fun _ _ _ h => h) (Or.inl ⟨by rfl, fun w' hSw => ?_⟩) hHeld ?_
      · (try dsimp only at hSw); go_simp
      simp only [Act.put]
      refine wpAnyH_take (i := 8) (v := .int .i64 (kw / 256)) rfl (by kernel_rfl) (by kernel_rfl) (by kernel_rfl) (fun _ _ _ h => h) (Or.inl ⟨by rfl, fun w' hSw => ?_⟩) hHeld ?_
      · (try dsimp only at hSw); go_simp
      simp only [Act.put]
      refine wpAnyH_take (i := 9) (v := .int .i64 (j : Int)) rfl (by kernel_rfl) (by kernel_rfl) (by kernel_rfl) (fun _ _ _ h => h) (Or.inl ⟨by rfl, fun w' hSw => ?_⟩) hHeld ?_
      · (try dsimp only at hSw); go_simp
      simp only [Act.put]
      refine wpAnyH_take (i := 10) (v := .int .i64 (2 + (j : Int))) rfl (by kernel_rfl) (by kernel_rfl) (by kernel_rfl) (fun _ _ _ h => h) (Or.inl ⟨by rfl, fun w' hSw => ?_⟩) hHeld ?_
      · (try dsimp only at hSw); go_simp
      simp only [Act.put]
      refine wpAnyH_take (i := 11) (v := .int .i64 y) rfl (by kernel_rfl) (by kernel_rfl) (by kernel_rfl) (fun _ _ _ h => h) (Or.inl ⟨by rfl, fun w' hSw => ?_⟩) hHeld ?_
      · (try dsimp only at hSw); go_simp
      simp only [Act.put]
      refine wpAnyH_take (i := 12) (v := .pointer (some ⟨ib, 6, none⟩)) rfl (by kernel_rfl) (by kernel_rfl) (by kernel_rfl) (fun _ _ _ h => h) (Or.inl ⟨by rfl, fun w' hSw => ?_⟩) hHeld ?_
      · (try dsimp only at hSw); go_simp
      simp only [Act.put]
      refine wpAnyH_take (i := 13) (v := .int .i64 bits) rfl (by kernel_rfl) (by kernel_rfl) (by kernel_rfl) (fun _ _ _ h => h) (Or.inl ⟨by rfl, fun w' hSw => ?_⟩) hHeld ?_
      · (try dsimp only at hSw); go_simp
      simp only [Act.put]
      refine wpAnyH_take (i := 14) (v := .int .i64 b8) rfl (by kernel_rfl) (by kernel_rfl) (by kernel_rfl) (fun _ _ _ h => h) (Or.inl ⟨by rfl, fun w' hSw => ?_⟩) hHeld ?_
      · (try dsimp only at hSw); go_simp
      simp only [Act.put]
      refine wpAnyH_take (i := 15) (v := .int .i64 mm) rfl (by kernel_rfl) (by kernel_rfl) (by kernel_rfl) (fun _ _ _ h => h) (Or.inl ⟨by rfl, fun w' hSw => ?_⟩) hHeld ?_
      · (try dsimp only at hSw); go_simp
      simp only [Act.put]
      refine wpAnyH_take (i := 16) (v := .int .i64 dd) rfl (by kernel_rfl) (by kernel_rfl) (by kernel_rfl) (fun _ _ _ h => h) (Or.inl ⟨by rfl, fun w' hSw => ?_⟩) hHeld ?_
      · (try dsimp only at hSw); go_simp
      simp only [Act.put]
      refine wpAnyH_take (i := 17) (v := .int .i64 dd) rfl (by kernel_rfl) (by kernel_rfl) (by kernel_rfl) (fun _ _ _ h => h) (Or.inl ⟨by rfl, fun w' hSw => ?_⟩) hHeld ?_
      · (try dsimp only at hSw); go_simp
      simp only [Act.put]
      refine wpAnyH_take (i := 18) (v := .int .i64 z) rfl (by kernel_rfl) (by kernel_rfl) (by kernel_rfl) (fun _ _ _ h => h) (Or.inl ⟨by rfl, fun w' hSw => ?_⟩) hHeld ?_
      · (try dsimp only at hSw); go_simp
      simp only [Act.put]
      refine wpAnyH_take (i := 19) (v := .int .i64 x) rfl (by kernel_rfl) (by kernel_rfl) (by kernel_rfl) (fun _ _ _ h => h) (Or.inl ⟨by rfl, fun w' hSw => ?_⟩) hHeld ?_
      · (try dsimp only at hSw); go_simp
      simp only [Act.put]
      refine wpAnyH_ready (rs := [1, 20]) (by kernel_rfl) (by simp) ?_
      refine AllReadyH.cons rfl (fun K hK => ?_) (AllReadyH.cons rfl (fun K hK => ?_) AllReadyH.nil)
      · go_simp
        refine hK.out _ _ (by go_keep) (fun hHeld2 => ?_)
        clear hK K hHeld
        have hHeld := hHeld2
        clear hHeld2
        refine wpAnyH_ready (rs := [20]) (by kernel_rfl) (by simp) ?_
        refine AllReadyH.cons rfl (fun K hK => ?_) AllReadyH.nil
        go_simp
        refine hK.out _ _ (by go_keep) (fun hHeld2 => ?_)
        clear hK K hHeld
        have hHeld := hHeld2
        clear hHeld2
        refine wpAnyH_ready (rs := [21]) (by kernel_rfl) (by simp) ?_
        refine AllReadyH.cons rfl (fun K hK => ?_) AllReadyH.nil
        refine step_append_any _ rfl (.tmp 182) (.tmp 201) 40 rfl w.heap.size 3 i3 (.int .i64 0) 1 8 Tryz.underlying40 hi3 hz30 hz31 hz32 rfl (by decide) v8 j (intV prm) rfl (HOW.out _) _ (some ⟨wr.heap.size, 0, none⟩) 1 1 [.int .i64 x] rfl (readsNew1 _ _ _ _ rfl) (fun u hu => by simp at hu; subst hu; rfl) E63.out E47.out EBS.out ?_
        intro v9 w9 hown9 hg9 hat9
        obtain ⟨A9, c9, hv9⟩ := ownsForm hown9
        subst hv9
        have S9 := HS1.out.grow8 _ hg9 (l := prm ++ [x]) (by rw [← intV_snoc]; exact hown9)
        obtain ⟨d9, f9⟩ := HS1.out.grow8c _ hg9
        have h9 := HS1.out.same ((Below.refl _ wr).alloc (Nat.le_refl _) (.cells #[.int .i64 x] 3)).drew
        have c96 := ((h9.below.grown hg9 h9.hB (fun k hk => (h9.r8.lt k hk).1)).cell (p := ⟨ib, 6, none⟩) hib).trans HIC.out
        have HS9 := Lib.hid S9
        clear S9 hown9 hg9 hat9 h9
        refine hK.out _ _ (c96) (fun hHeld2 => ?_)
        clear hK K hHeld
        have hHeld := hHeld2
        clear hHeld2
        simp only [Act.put]
        refine wpAnyH_take (i := 22) (v := .pointer (some ⟨sbx, 8, none⟩)) rfl (by kernel_rfl) (by kernel_rfl) (by kernel_rfl) (fun _ _ _ h => h) (Or.inl ⟨by rfl, fun w' hSw => ?_⟩) hHeld ?_
        · (try dsimp only at hSw); go_simp
        simp only [Act.put]
        refine wpAnyH_ready (rs := [23]) (by kernel_rfl) (by simp) ?_
        refine AllReadyH.cons rfl (fun K hK => ?_) AllReadyH.nil
        go_simp
        refine hK.out _ _ (by go_keep) (fun hHeld2 => ?_)
        clear hK K hHeld
        have hHeld := hHeld2
        clear hHeld2
        refine wpAnyH_done (by kernel_rfl) ?_ _
        clear w1 w2 w3 w4 w5 w6 w7 e1
        go_wp2_with fail
        go_roundg (np - (j + 1))
        case measure => have := HGK.out; omega
        case rel => exact ⟨j + 1, _, prm ++ [x], by have := HGK.out; omega, by simp, by have := HPL.out; simp; omega, fun v hv => by
          rcases List.mem_append.1 hv with h | h
          · exact HPR.out v h
          · rw [List.mem_singleton.1 h]; exact HX.out, HS9.out⟩
      · go_simp
        refine hK.out _ _ (by go_keep) (fun hHeld2 => ?_)
        clear hK K hHeld
        have hHeld := hHeld2
        clear hHeld2
        refine wpAnyH_ready (rs := [1]) (by kernel_rfl) (by simp) ?_
        refine AllReadyH.cons rfl (fun K hK => ?_) AllReadyH.nil
        go_simp
        refine hK.out _ _ (by go_keep) (fun hHeld2 => ?_)
        clear hK K hHeld
        have hHeld := hHeld2
        clear hHeld2
        refine wpAnyH_ready (rs := [21]) (by kernel_rfl) (by simp) ?_
        refine AllReadyH.cons rfl (fun K hK => ?_) AllReadyH.nil
        refine step_append_any _ rfl (.tmp 182) (.tmp 201) 40 rfl w.heap.size 3 i3 (.int .i64 0) 1 8 Tryz.underlying40 hi3 hz30 hz31 hz32 rfl (by decide) v8 j (intV prm) rfl (HOW.out _) _ (some ⟨wr.heap.size, 0, none⟩) 1 1 [.int .i64 x] rfl (readsNew1 _ _ _ _ rfl) (fun u hu => by simp at hu; subst hu; rfl) E63.out E47.out EBS.out ?_
        intro v9 w9 hown9 hg9 hat9
        obtain ⟨A9, c9, hv9⟩ := ownsForm hown9
        subst hv9
        have S9 := HS1.out.grow8 _ hg9 (l := prm ++ [x]) (by rw [← intV_snoc]; exact hown9)
        obtain ⟨d9, f9⟩ := HS1.out.grow8c _ hg9
        have h9 := HS1.out.same ((Below.refl _ wr).alloc (Nat.le_refl _) (.cells #[.int .i64 x] 3)).drew
        have c96 := ((h9.below.grown hg9 h9.hB (fun k hk => (h9.r8.lt k hk).1)).cell (p := ⟨ib, 6, none⟩) hib).trans HIC.out
        have HS9 := Lib.hid S9
        clear S9 hown9 hg9 hat9 h9
        refine hK.out _ _ (c96) (fun hHeld2 => ?_)
        clear hK K hHeld
        have hHeld := hHeld2
        clear hHeld2
        simp only [Act.put]
        refine wpAnyH_take (i := 22) (v := .pointer (some ⟨sbx, 8, none⟩)) rfl (by kernel_rfl) (by kernel_rfl) (by kernel_rfl) (fun _ _ _ h => h) (Or.inl ⟨by rfl, fun w' hSw => ?_⟩) hHeld ?_
        · (try dsimp only at hSw); go_simp
        simp only [Act.put]
        refine wpAnyH_ready (rs := [23]) (by kernel_rfl) (by simp) ?_
        refine AllReadyH.cons rfl (fun K hK => ?_) AllReadyH.nil
        go_simp
        refine hK.out _ _ (by go_keep) (fun hHeld2 => ?_)
        clear hK K hHeld
        have hHeld := hHeld2
        clear hHeld2
        refine wpAnyH_done (by kernel_rfl) ?_ _
        clear w1 w2 w3 w4 w5 w6 w7 e1
        go_wp2_with fail
        go_roundg (np - (j + 1))
        case measure => have := HGK.out; omega
        case rel => exact ⟨j + 1, _, prm ++ [x], by have := HGK.out; omega, by simp, by have := HPL.out; simp; omega, fun v hv => by
          rcases List.mem_append.1 hv with h | h
          · exact HPR.out v h
          · rw [List.mem_singleton.1 h]; exact HX.out, HS9.out⟩
    · have hjn2 : j = np := by omega
      subst hjn2
      go_wp2_with fail
      go_meet
      case rel => exact ⟨v8, prm, HPL.out, HPR.out, S1⟩
end Go.Proofs.YtlabcknoooaefaaGreatDoor
