/-
  WHAT THE LAWS GIVE THE ENCODER: a channel's samples (givenOf's block 4).
-/
import Derived.Test.YtlabcknoooaefaaGreatDoorZVa
import Derived.Deep.QuietTactic
import Derived.BigQuiet
namespace Go.Proofs.YtlabcknoooaefaaGreatDoor
open Go.RowKit
set_option linter.unusedVariables false

noncomputable def blk7_4 : Code := (Tryz.f7.body.bind (findBlock 4)).getD .skip

set_option maxRecDepth 1000000 in
set_option maxHeartbeats 8000000 in
theorem samplesP {s0 s1 s2 s3 s4 s5 s6 s7 s8 s9 s10 s11 s12 s13 s14 s15 s16 s17 s18 s19 s21 s24 s25 s26 s27 s28 s29 s30 s31 s32 s33 s34 s35 s36 s37 s38 s39 s40 s41 s42 s43 s44 s45 s46 s47 s48 s49 s50 s51 s52 s53 s54 s55 s56 s57 s58 s59 s60 s61 s62 s63 s64 s65 s66 s67 s68 s69 s70 s71 s72 s73 s74 s75 s76 s77 s78 s79 s80 s81 s82 s83 s84 s85 s86 s87 s88 s89 s90 s91 s92 s93 s94 s95 s99 s100 s101 s102 s103 s104 s105 s106 s107 s108 s109 s110 s111 s112 s113 s114 s115 s116 s117 s118 s119 s120 s121 s122 s123 s124 s125 s126 s127 s128 s129 s130 s131 s132 s133 s134 s135 s136 s137 s138 s139 s140 s141 s142 s143 s144 s145 s146 s147 s148 s149 s150 s151 s152 s153 s154 s155 s156 s157 s158 s159 s160 s161 s162 s163 s164 s165 s166 s167 s168 s169 s170 s171 s172 s173 s174 s175 s176 s177 s178 s179 s180 s181 s182 s183 s184 s185 s186 s187 s188 s189 s190 s191 s192 s193 s194 s195 s196 s197 s198 s199 s200 s201 s202 s203 s204 s205 s206 s207 s208 s209 s210 s211 s212 s213 s214 s215 s216 s217 s218 s219 s220 s221 s222 s223 s224 s225 s226 s227 s228 s229 s230 : Value} (w : World) (cvb n ccap : Nat) (xs : List Int) (hn : 1 ≤ n ∧ n ≤ 256) (hxl : xs.length = n) (hcc : n ≤ ccap ∧ ccap ≤ maxLen) (hrow : Row w cvb 3 (intV xs)) (sbx : Nat) (kind : Int) (v8 : Value) (k : Nat) (prm : List Int) (w0 : World)
    (S0 : SubSt w.heap.size sbx kind 0 0 (.slice none 0 0) 0 [] v8 k prm w w0) :
    blk7_4.wp Tryz.prog (Exit.then (fun a' w' => ∃ u23 u25 u98 u99 u100 u101 u102 u103 u104 u105 u106 u107 u108 u109 u110 u111 u112 u113 u114 u115 u116 u117 : Value, (∃ (v3' : Value) (same : Bool), u23 = .bool same ∧ SubSt w.heap.size sbx kind 0 0 v3' n (smpOf xs) v8 k prm w w' ∧ (same = true → ∀ v ∈ smpOf xs, v = (smpOf xs).getD 0 0)) ∧ a' = ⟨#[s0, s1, s2, s3, s4, s5, s6, s7, s8, s9, s10, s11, s12, s13, s14, s15, s16, s17, s18, s19, .slice (some ⟨cvb, 0, none⟩) n ccap, s21, .pointer (some ⟨sbx, 0, none⟩), u23, s24, u25, s26, s27, s28, s29, s30, s31, s32, s33, s34, s35, s36, s37, s38, s39, s40, s41, s42, s43, s44, s45, s46, s47, s48, s49, s50, s51, s52, s53, s54, s55, s56, s57, s58, s59, s60, s61, s62, s63, s64, s65, s66, s67, s68, s69, s70, s71, s72, s73, s74, s75, s76, s77, s78, s79, s80, s81, s82, s83, s84, s85, s86, s87, s88, s89, s90, s91, s92, s93, s94, s95, .slice (some ⟨cvb, 0, none⟩) n ccap, .int .i64 (n : Int), u98, u99, u100, u101, u102, u103, u104, u105, u106, u107, u108, u109, u110, u111, u112, u113, u114, u115, u116, u117, s118, s119, s120, s121, s122, s123, s124, s125, s126, s127, s128, s129, s130, s131, s132, s133, s134, s135, s136, s137, s138, s139, s140, s141, s142, s143, s144, s145, s146, s147, s148, s149, s150, s151, s152, s153, s154, s155, s156, s157, s158, s159, s160, s161, s162, s163, s164, s165, s166, s167, s168, s169, s170, s171, s172, s173, s174, s175, s176, s177, s178, s179, s180, s181, s182, s183, s184, s185, s186, s187, s188, s189, s190, s191, s192, s193, s194, s195, s196, s197, s198, s199, s200, s201, s202, s203, s204, s205, s206, s207, s208, s209, s210, s211, s212, s213, s214, s215, s216, s217, s218, s219, s220, s221, s222, s223, s224, s225, s226, s227, s228, s229, s230], []⟩) NoQ) ⟨#[s0, s1, s2, s3, s4, s5, s6, s7, s8, s9, s10, s11, s12, s13, s14, s15, s16, s17, s18, s19, .slice (some ⟨cvb, 0, none⟩) n ccap, s21, .pointer (some ⟨sbx, 0, none⟩), .bool true, s24, s25, s26, s27, s28, s29, s30, s31, s32, s33, s34, s35, s36, s37, s38, s39, s40, s41, s42, s43, s44, s45, s46, s47, s48, s49, s50, s51, s52, s53, s54, s55, s56, s57, s58, s59, s60, s61, s62, s63, s64, s65, s66, s67, s68, s69, s70, s71, s72, s73, s74, s75, s76, s77, s78, s79, s80, s81, s82, s83, s84, s85, s86, s87, s88, s89, s90, s91, s92, s93, s94, s95, .slice (some ⟨cvb, 0, none⟩) n ccap, .int .i64 (n : Int), .int .i64 0, s99, s100, s101, s102, s103, s104, s105, s106, s107, s108, s109, s110, s111, s112, s113, s114, s115, s116, s117, s118, s119, s120, s121, s122, s123, s124, s125, s126, s127, s128, s129, s130, s131, s132, s133, s134, s135, s136, s137, s138, s139, s140, s141, s142, s143, s144, s145, s146, s147, s148, s149, s150, s151, s152, s153, s154, s155, s156, s157, s158, s159, s160, s161, s162, s163, s164, s165, s166, s167, s168, s169, s170, s171, s172, s173, s174, s175, s176, s177, s178, s179, s180, s181, s182, s183, s184, s185, s186, s187, s188, s189, s190, s191, s192, s193, s194, s195, s196, s197, s198, s199, s200, s201, s202, s203, s204, s205, s206, s207, s208, s209, s210, s211, s212, s213, s214, s215, s216, s217, s218, s219, s220, s221, s222, s223, s224, s225, s226, s227, s228, s229, s230], []⟩ w0 := by
  obtain ⟨i21, hi21, hz210, hz211, hz212⟩ := info_parts info21
  have HXL := Lib.hid hxl
  unfold maxLen at hcc
  clear hxl
  have hclt := hrow.lt
  have hn0 : 0 < n := hn.1
  have hn1 : (0 : Int) < (n : Int) := by omega
  refine wp_letter ?_
  intro J K' hJ hK
  conv => arg 2; whnf
  go_wp2_with fail
  go_loopg [23, 98] n (fun g b i wr => ∃ (j : Nat) (v3' : Value) (same : Bool), g + j = n ∧ i = .int .i64 (j : Int) ∧ b = .bool same ∧ SubSt w.heap.size sbx kind 0 0 v3' j (smpOf (xs.take j)) v8 k prm w wr ∧ (same = true → ∀ q, q < j → xs.getD q 0 = xs.getD 0 0))
  case atStart => exact ⟨0, .slice none 0 0, true, by omega, rfl, rfl, by simpa [smpOf] using S0, fun _ q hq => by omega⟩
  case round =>
    obtain ⟨j, v3, same, hgk, rfl, rfl, S1, hsame⟩ := hrel
    have HGK := Lib.hid hgk
    have HSM := Lib.hid hsame
    have hjn : j ≤ n := by omega
    clear hgk S0 hsame
    by_cases hlt : j < n
    · have hjx : j < xs.length := by rw [HXL.out]; exact hlt
      have hcj : wr.cell? ⟨cvb, j, none⟩ = some (.int .i64 (xs.getD j 0)) := (S1.below.cell (p := ⟨cvb, j, none⟩) hclt).trans (hrow.cell j _ (intV_get hjx))
      have hc0 : wr.cell? ⟨cvb, 0, none⟩ = some (.int .i64 (xs.getD 0 0)) := (S1.below.cell (p := ⟨cvb, 0, none⟩) hclt).trans (hrow.cell 0 _ (intV_get (by omega)))
      have hsb1 := S1.sb
      have hns : ¬ cvb = sbx := by omega
      have hns2 : ¬ sbx = cvb := by omega
      have hw0 := hrow.cell 0 _ (intV_get (show 0 < xs.length by omega))
      have HSN := Lib.hid (smpOf_snoc xs j hjx)
      clear hjx
      obtain ⟨x, hx⟩ : ∃ x, x = xs.getD j 0 := ⟨_, rfl⟩
      obtain ⟨x00, hx0⟩ : ∃ x, x = xs.getD 0 0 := ⟨_, rfl⟩
      rw [← hx] at hcj HSN
      rw [← hx0] at hc0 hw0
      have HC0 := Lib.hid hw0
      clear hw0
      have HX := Lib.hid hx
      have HX0 := Lib.hid hx0
      clear hx hx0
      obtain ⟨_, _, d3, _, _, hfz⟩ := S1.cells
      have f3 := hfz 3
      have hsl := S1.box.lt
      have hB := S1.hB
      have HS1 := Lib.hid S1
      clear hfz S1
      cases same
      case' true => rcases Classical.em (x = x00) with hxe | hxe
      case' true.inl => subst hxe
      case' true.inr => have hxb : (x == x00) = false := by simp [hxe]
      all_goals
        go_wp2_with (refine wpList_append_any _ rfl (.tmp 103) (.tmp 106) 39 rfl w.heap.size 21 i21 (.int .i32 0) 1 4 Tryz.underlying39 hi21 hz210 hz211 hz212 rfl (by decide) v3 j (i32V (smpOf (xs.take j))) rfl (ownsRow_below HS1.out.r3 ((Below.refl _ wr).alloc (Nat.le_refl _) _) (fun q hq => (HS1.out.r3.lt q hq).2)) _ (some ⟨wr.heap.size, 0, none⟩) 1 1 [.int .i32 (wrap32 x)] rfl (readsBlk wr #[.int .i32 (wrap32 x)] 21 _ 1 rfl rfl) (fun u hu => by simp at hu; subst hu; rfl) (by unfold maxLen; omega) (by omega) (by simp; omega) ?_; intro v9 w9 hown9 hg9 hat9; obtain ⟨A9, c9, hv9⟩ := ownsForm hown9; subst hv9; have S9 := HS1.out.grow3 _ hg9 (l := smpOf (xs.take (j + 1))) (by rw [HSN.out, ← i32V_snoc]; exact hown9); obtain ⟨d9, f9⟩ := HS1.out.grow3c _ hg9; have c90 := (HS1.out.grow3o _ hg9 ⟨cvb, 0, none⟩ hclt).trans HC0.out; have HS9 := Lib.hid S9; clear S9 hown9 hg9 hat9)
      all_goals
        go_roundg (n - (j + 1))
        case measure => have := HGK.out; omega
        case rel =>
          first
            | exact ⟨j + 1, _, false, by have := HGK.out; omega, by simp, rfl, HS9.out, fun h => by cases h⟩
            | exact ⟨j + 1, _, true, by have := HGK.out; omega, by simp, rfl, HS9.out, fun _ q hq => by
                by_cases hqj : q = j
                · rw [hqj]; exact HX.out.symm.trans HX0.out
                · exact HSM.out trivial q (by omega)⟩
    · have hjn2 : j = n := by omega
      subst hjn2
      go_wp2_with fail
      go_meet
      case rel =>
        have e : xs.take j = xs := List.take_of_length_le (by rw [HXL.out]; exact Nat.le_refl _)
        exact ⟨v3, same, rfl, by simpa [e] using S1, fun hs => smpOf_same xs (fun q hq => HSM.out hs q (by have := HXL.out; omega))⟩
end Go.Proofs.YtlabcknoooaefaaGreatDoor

/-
  WHAT THE LAWS GIVE THE ENCODER: in how many parts (givenOf's block 6).
-/
namespace Go.Proofs.YtlabcknoooaefaaGreatDoor
open Go.RowKit
set_option linter.unusedVariables false

noncomputable def blk7_6 : Code := (Tryz.f7.body.bind (findBlock 6)).getD .skip

set_option maxRecDepth 1000000 in
set_option maxHeartbeats 8000000 in
theorem partsP {s0 s1 s2 s3 s4 s5 s6 s7 s8 s9 s10 s11 s12 s13 s14 s15 s16 s17 s18 s19 s21 s23 s24 s25 s26 s27 s28 s29 s30 s31 s32 s33 s34 s35 s36 s37 s38 s39 s40 s41 s42 s43 s44 s45 s46 s47 s48 s49 s50 s51 s52 s53 s54 s55 s56 s57 s58 s59 s60 s61 s62 s63 s64 s65 s66 s67 s68 s69 s70 s71 s72 s73 s74 s75 s76 s77 s78 s79 s80 s81 s82 s83 s84 s85 s86 s87 s88 s89 s90 s91 s92 s93 s94 s95 s96 s97 s98 s99 s100 s101 s102 s103 s104 s105 s106 s107 s108 s109 s110 s111 s112 s113 s114 s115 s116 s117 s118 s119 s120 s121 s122 s123 s124 s125 s126 s127 s128 s129 s130 s131 s132 s133 s134 s135 s136 s137 s138 s139 s140 s141 s142 s143 s144 s145 s146 s147 s148 s149 s150 s151 s152 s153 s154 s155 s156 s157 s158 s159 s160 s161 s162 s163 s164 s165 s166 s167 s168 s169 s170 s171 s172 s173 s174 s175 s176 s177 s178 s179 s180 s181 s182 s183 s184 s185 s186 s187 s188 s189 s190 s191 s192 s193 s194 s195 s196 s197 s198 s199 s200 s201 s202 s203 s204 s205 s206 s207 s208 s209 s210 s211 s212 s213 s214 s215 s216 s217 s218 s219 s220 s221 s222 s223 s224 s225 s226 s227 s228 s229 s230 : Value} (w : World) (cvb n ccap : Nat) (hn : 1 ≤ n ∧ n ≤ 256) (sbx : Nat) (kind : Int) (o p0 : Nat) (ho : o ≤ 4 ∧ o < n) (hp0 : p0 ≤ 2) (v3 : Value) (m : Nat) (smp : List Int) (v8 : Value) (k : Nat) (prm : List Int) (w0 : World)
    (S0 : SubSt w.heap.size sbx kind (o : Int) (p0 : Int) v3 m smp v8 k prm w w0) :
    blk7_6.wp Tryz.prog (Exit.then (fun a' w' => ∃ u148 u149 u150 u151 u152 u153 u154 u155 u156 u157 u158 u159 u160 u161 u162 u163 u164 u165 u166 u167 u168 u169 u170 u171 u172 u173 : Value, (∃ p : Nat, p ≤ 2 ∧ n % 2 ^ p = 0 ∧ o < n / 2 ^ p ∧ SubSt w.heap.size sbx kind (o : Int) (p : Int) v3 m smp v8 k prm w w') ∧ a' = ⟨#[s0, s1, s2, s3, s4, s5, s6, s7, s8, s9, s10, s11, s12, s13, s14, s15, s16, s17, s18, s19, .slice (some ⟨cvb, 0, none⟩) n ccap, s21, .pointer (some ⟨sbx, 0, none⟩), s23, s24, s25, s26, s27, s28, s29, s30, s31, s32, s33, s34, s35, s36, s37, s38, s39, s40, s41, s42, s43, s44, s45, s46, s47, s48, s49, s50, s51, s52, s53, s54, s55, s56, s57, s58, s59, s60, s61, s62, s63, s64, s65, s66, s67, s68, s69, s70, s71, s72, s73, s74, s75, s76, s77, s78, s79, s80, s81, s82, s83, s84, s85, s86, s87, s88, s89, s90, s91, s92, s93, s94, s95, s96, s97, s98, s99, s100, s101, s102, s103, s104, s105, s106, s107, s108, s109, s110, s111, s112, s113, s114, s115, s116, s117, s118, s119, s120, s121, s122, s123, s124, s125, s126, s127, s128, s129, s130, s131, s132, s133, s134, s135, s136, s137, s138, s139, s140, s141, s142, s143, s144, s145, s146, s147, u148, u149, u150, u151, u152, u153, u154, u155, u156, u157, u158, u159, u160, u161, u162, u163, u164, u165, u166, u167, u168, u169, u170, u171, u172, u173, s174, s175, s176, s177, s178, s179, s180, s181, s182, s183, s184, s185, s186, s187, s188, s189, s190, s191, s192, s193, s194, s195, s196, s197, s198, s199, s200, s201, s202, s203, s204, s205, s206, s207, s208, s209, s210, s211, s212, s213, s214, s215, s216, s217, s218, s219, s220, s221, s222, s223, s224, s225, s226, s227, s228, s229, s230], []⟩) NoQ) ⟨#[s0, s1, s2, s3, s4, s5, s6, s7, s8, s9, s10, s11, s12, s13, s14, s15, s16, s17, s18, s19, .slice (some ⟨cvb, 0, none⟩) n ccap, s21, .pointer (some ⟨sbx, 0, none⟩), s23, s24, s25, s26, s27, s28, s29, s30, s31, s32, s33, s34, s35, s36, s37, s38, s39, s40, s41, s42, s43, s44, s45, s46, s47, s48, s49, s50, s51, s52, s53, s54, s55, s56, s57, s58, s59, s60, s61, s62, s63, s64, s65, s66, s67, s68, s69, s70, s71, s72, s73, s74, s75, s76, s77, s78, s79, s80, s81, s82, s83, s84, s85, s86, s87, s88, s89, s90, s91, s92, s93, s94, s95, s96, s97, s98, s99, s100, s101, s102, s103, s104, s105, s106, s107, s108, s109, s110, s111, s112, s113, s114, s115, s116, s117, s118, s119, s120, s121, s122, s123, s124, s125, s126, s127, s128, s129, s130, s131, s132, s133, s134, s135, s136, s137, s138, s139, s140, s141, s142, s143, s144, s145, s146, s147, s148, s149, s150, s151, s152, s153, s154, s155, s156, s157, s158, s159, s160, s161, s162, s163, s164, s165, s166, s167, s168, s169, s170, s171, s172, s173, s174, s175, s176, s177, s178, s179, s180, s181, s182, s183, s184, s185, s186, s187, s188, s189, s190, s191, s192, s193, s194, s195, s196, s197, s198, s199, s200, s201, s202, s203, s204, s205, s206, s207, s208, s209, s210, s211, s212, s213, s214, s215, s216, s217, s218, s219, s220, s221, s222, s223, s224, s225, s226, s227, s228, s229, s230], []⟩ w0 := by
  refine wp_letter ?_
  intro J K' hJ hK
  conv => arg 2; whnf
  go_wp2_with fail
  go_loopg [] p0 (fun g wr => g ≤ 2 ∧ SubSt w.heap.size sbx kind (o : Int) (g : Int) v3 m smp v8 k prm w wr)
  case atStart => exact ⟨hp0, S0⟩
  case round =>
    obtain ⟨hg, S1⟩ := hrel
    clear S0
    obtain ⟨_, d1, _, d7, _, hfz⟩ := S1.cells
    have f7 := hfz 7
    have HS1 := Lib.hid S1
    clear hfz S1
    obtain rfl | rfl | rfl : gk = 0 ∨ gk = 1 ∨ gk = 2 := by omega
    · have d7 : wr.cell? ⟨sbx, 7, none⟩ = some (.int .i64 0) := d7
      go_wp2_with fail
      go_quiet (fail)
      go_wp2_with fail
      go_meet
      case rel =>
        exact ⟨0, by omega, by omega, by simpa using ho.2, HS1.out.same (Below.drewN' (Below.refl _ _) _)⟩
    · have d7 : wr.cell? ⟨sbx, 7, none⟩ = some (.int .i64 1) := d7
      by_cases hm : n % 2 = 0
      · have hb : ((n : Int) % 2 != 0) = false := by simp; omega
        by_cases hq : n / 2 ≤ o
        · have hc : (n : Int) / 2 ≤ (o : Int) := by omega
          have hc2 : decide ((n : Int) / 2 ≤ (o : Int)) = true := by simpa using hc
          clear hm hq
          go_wp2_with fail
          go_quiet (fail)
          go_wp2_with fail
          go_roundg 0
          case measure => omega
          case rel => exact ⟨by omega, (HS1.out.same (Below.drewN' (Below.refl _ _) _)).put7 0⟩
        · have hc : ¬ (n : Int) / 2 ≤ (o : Int) := by omega
          have hc2 : decide ((n : Int) / 2 ≤ (o : Int)) = false := by simpa using hc
          have HM := Lib.hid hm
          clear hm
          go_wp2_with fail
          go_quiet (fail)
          go_wp2_with fail
          go_meet
          case rel => exact ⟨1, by omega, HM.out, by show o < n / 2; omega, HS1.out.same (Below.drewN' (Below.refl _ _) _)⟩
      · have hb : ((n : Int) % 2 != 0) = true := by simp; omega
        clear hm
        go_wp2_with fail
        go_quiet (fail)
        go_wp2_with fail
        go_roundg 0
        case measure => omega
        case rel => exact ⟨by omega, (HS1.out.same (Below.drewN' (Below.refl _ _) _)).put7 0⟩
    · have d7 : wr.cell? ⟨sbx, 7, none⟩ = some (.int .i64 2) := d7
      by_cases hm : n % 4 = 0
      · have hb : ((n : Int) % 4 != 0) = false := by simp; omega
        by_cases hq : n / 4 ≤ o
        · have hc : (n : Int) / 4 ≤ (o : Int) := by omega
          have hc2 : decide ((n : Int) / 4 ≤ (o : Int)) = true := by simpa using hc
          clear hm hq
          go_wp2_with fail
          go_quiet (fail)
          go_wp2_with fail
          go_roundg 1
          case measure => omega
          case rel => exact ⟨by omega, (HS1.out.same (Below.drewN' (Below.refl _ _) _)).put7 1⟩
        · have hc : ¬ (n : Int) / 4 ≤ (o : Int) := by omega
          have hc2 : decide ((n : Int) / 4 ≤ (o : Int)) = false := by simpa using hc
          have HM := Lib.hid hm
          clear hm
          go_wp2_with fail
          go_quiet (fail)
          go_wp2_with fail
          go_meet
          case rel => exact ⟨2, by omega, HM.out, by show o < n / 4; omega, HS1.out.same (Below.drewN' (Below.refl _ _) _)⟩
      · have hb : ((n : Int) % 4 != 0) = true := by simp; omega
        clear hm
        go_wp2_with fail
        go_quiet (fail)
        go_wp2_with fail
        go_roundg 1
        case measure => omega
        case rel => exact ⟨by omega, (HS1.out.same (Below.drewN' (Below.refl _ _) _)).put7 1⟩
end Go.Proofs.YtlabcknoooaefaaGreatDoor
