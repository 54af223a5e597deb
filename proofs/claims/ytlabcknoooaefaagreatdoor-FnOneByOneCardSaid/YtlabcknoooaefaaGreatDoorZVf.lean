/-
  WHAT THE LAWS GIVE THE ENCODER: one channel (givenOf's block 3).
-/
import Derived.Test.YtlabcknoooaefaaGreatDoorZVb
import Derived.Test.YtlabcknoooaefaaGreatDoorZVd
import Derived.Test.YtlabcknoooaefaaGreatDoorZVa
namespace Go.Proofs.YtlabcknoooaefaaGreatDoor
open Go.RowKit
set_option linter.unusedVariables false

noncomputable def blk7_3 : Code := (Tryz.f7.body.bind (findBlock 3)).getD .skip

set_option maxRecDepth 1000000 in
set_option maxHeartbeats 8000000 in
theorem channelG {s0 s1 s2 s4 s5 s6 s7 s8 s9 s10 s12 s13 s14 s15 s17 s19 s20 s21 s22 s23 s24 s25 s26 s27 s28 s29 s30 s31 s32 s33 s34 s35 s36 s37 s38 s39 s40 s41 s42 s43 s44 s45 s46 s47 s48 s49 s50 s51 s52 s53 s54 s55 s56 s57 s58 s59 s60 s61 s62 s63 s64 s65 s66 s67 s68 s69 s70 s71 s73 s75 s76 s77 s78 s79 s80 s81 s82 s83 s84 s85 s86 s87 s88 s89 s90 s91 s92 s93 s94 s95 s96 s97 s98 s99 s100 s101 s102 s103 s104 s105 s106 s107 s108 s109 s110 s111 s112 s113 s114 s115 s116 s117 s118 s119 s120 s121 s122 s123 s124 s125 s126 s127 s128 s129 s130 s131 s132 s133 s134 s135 s136 s137 s138 s139 s140 s141 s142 s143 s144 s145 s146 s147 s148 s149 s150 s151 s152 s153 s154 s155 s156 s157 s158 s159 s160 s161 s162 s163 s164 s165 s166 s167 s168 s169 s170 s171 s172 s173 s174 s175 s176 s177 s178 s179 s180 s181 s182 s183 s184 s185 s186 s187 s188 s189 s190 s191 s192 s193 s194 s195 s196 s197 s198 s199 s200 s201 s202 s203 s204 s205 s206 s207 s208 s209 s210 s211 s212 s213 s214 s215 s216 s217 s218 s219 s220 s221 s222 s223 s224 s225 s226 s227 s228 s229 s230 : Value} (wf : World) (Ak : Option Addr) (nk ck : Nat) (kl : List Int) (hk : nk ≤ 100 ∧ nk ≤ ck ∧ ck ≤ maxLen) (hrk : Reads wf wf.heap.size 1 Ak nk (u16V kl)) (hkl : ∀ v ∈ kl, 0 ≤ v ∧ v < 65536)
    (ib : Nat) (bits : Int) (hb5 : isBits bits) (hib : ib < wf.heap.size) (hic : wf.cell? ⟨ib, 6, none⟩ = some (.int .i64 bits)) (kf c nch cb ccap : Nat) (hkf : kf ≤ 3) (hc : c < nch ∧ nch ≤ 8) (hcc : nch ≤ ccap ∧ ccap ≤ maxLen) (cs : List ChG) (size : Nat) (hsz : 1 ≤ size ∧ size ≤ 256) (hchs : ChsAt cb cs size wf) (hcl : cs.length = nch)
    (xb : Nat) (h0 h1 h2 h3 h4 h5 v6 : Value) (subs : List SubI) (w0 : World)
    (G0 : GFr wf.heap.size xb h0 h1 h2 h3 h4 h5 v6 subs c size wf w0) :
    blk7_3.wp Tryz.prog (Exit.then (fun a' w' => ∃ u19 u20 u21 u22 u23 u25 u26 u76 u77 u78 u79 u80 u81 u82 u83 u84 u85 u86 u87 u88 u89 u90 u91 u92 u93 u94 u95 u96 u97 u98 u99 u100 u101 u102 u103 u104 u105 u106 u107 u108 u109 u110 u111 u112 u113 u114 u115 u116 u117 u118 u119 u120 u121 u122 u123 u124 u125 u126 u127 u128 u129 u130 u131 u132 u133 u134 u135 u136 u137 u138 u139 u140 u141 u142 u143 u144 u145 u146 u147 u148 u149 u150 u151 u152 u153 u154 u155 u156 u157 u158 u159 u160 u161 u162 u163 u164 u165 u166 u167 u168 u169 u170 u171 u172 u173 u174 u175 u176 u177 u178 u179 u180 u181 u182 u183 u184 u185 u186 u187 u188 u189 u190 u191 u192 u193 u194 u195 u196 u197 u198 u199 u200 u201 u202 u203 u204 u205 u206 u207 u208 u209 u210 : Value, (∃ (v6' : Value) (subs' : List SubI), GFr wf.heap.size xb h0 h1 h2 h3 h4 h5 v6' subs' (c + 1) size wf w') ∧ a' = ⟨#[s0, s1, s2, .slice Ak nk ck, s4, s5, s6, s7, s8, s9, s10, .pointer (some ⟨ib, 0, none⟩), s12, s13, s14, s15, .int .i64 (kf : Int), s17, .pointer (some ⟨xb, 0, none⟩), u19, u20, u21, u22, u23, s24, u25, u26, s27, s28, s29, s30, s31, s32, s33, s34, s35, s36, s37, s38, s39, s40, s41, s42, s43, s44, s45, s46, s47, s48, s49, s50, s51, s52, s53, s54, s55, s56, s57, s58, s59, s60, s61, s62, s63, s64, s65, s66, s67, s68, s69, s70, s71, .slice (some ⟨cb, 0, none⟩) nch ccap, s73, .int .i64 (c : Int), s75, u76, u77, u78, u79, u80, u81, u82, u83, u84, u85, u86, u87, u88, u89, u90, u91, u92, u93, u94, u95, u96, u97, u98, u99, u100, u101, u102, u103, u104, u105, u106, u107, u108, u109, u110, u111, u112, u113, u114, u115, u116, u117, u118, u119, u120, u121, u122, u123, u124, u125, u126, u127, u128, u129, u130, u131, u132, u133, u134, u135, u136, u137, u138, u139, u140, u141, u142, u143, u144, u145, u146, u147, u148, u149, u150, u151, u152, u153, u154, u155, u156, u157, u158, u159, u160, u161, u162, u163, u164, u165, u166, u167, u168, u169, u170, u171, u172, u173, u174, u175, u176, u177, u178, u179, u180, u181, u182, u183, u184, u185, u186, u187, u188, u189, u190, u191, u192, u193, u194, u195, u196, u197, u198, u199, u200, u201, u202, u203, u204, u205, u206, u207, u208, u209, u210, s211, s212, s213, s214, s215, s216, s217, s218, s219, s220, s221, s222, s223, s224, s225, s226, s227, s228, s229, s230], []⟩) NoQ) ⟨#[s0, s1, s2, .slice Ak nk ck, s4, s5, s6, s7, s8, s9, s10, .pointer (some ⟨ib, 0, none⟩), s12, s13, s14, s15, .int .i64 (kf : Int), s17, .pointer (some ⟨xb, 0, none⟩), s19, s20, s21, s22, s23, s24, s25, s26, s27, s28, s29, s30, s31, s32, s33, s34, s35, s36, s37, s38, s39, s40, s41, s42, s43, s44, s45, s46, s47, s48, s49, s50, s51, s52, s53, s54, s55, s56, s57, s58, s59, s60, s61, s62, s63, s64, s65, s66, s67, s68, s69, s70, s71, .slice (some ⟨cb, 0, none⟩) nch ccap, s73, .int .i64 (c : Int), s75, s76, s77, s78, s79, s80, s81, s82, s83, s84, s85, s86, s87, s88, s89, s90, s91, s92, s93, s94, s95, s96, s97, s98, s99, s100, s101, s102, s103, s104, s105, s106, s107, s108, s109, s110, s111, s112, s113, s114, s115, s116, s117, s118, s119, s120, s121, s122, s123, s124, s125, s126, s127, s128, s129, s130, s131, s132, s133, s134, s135, s136, s137, s138, s139, s140, s141, s142, s143, s144, s145, s146, s147, s148, s149, s150, s151, s152, s153, s154, s155, s156, s157, s158, s159, s160, s161, s162, s163, s164, s165, s166, s167, s168, s169, s170, s171, s172, s173, s174, s175, s176, s177, s178, s179, s180, s181, s182, s183, s184, s185, s186, s187, s188, s189, s190, s191, s192, s193, s194, s195, s196, s197, s198, s199, s200, s201, s202, s203, s204, s205, s206, s207, s208, s209, s210, s211, s212, s213, s214, s215, s216, s217, s218, s219, s220, s221, s222, s223, s224, s225, s226, s227, s228, s229, s230], []⟩ w0 := by
  obtain ⟨x, hx⟩ : ∃ x, cs[c]? = some x := ⟨cs[c]'(by omega), by simp [show c < cs.length by omega]⟩
  obtain ⟨hxat, hxl⟩ := hchs.chs c x hx
  have hcr : w0.cell? ⟨cb, c, none⟩ = some (.slice (some ⟨x.vb, 0, none⟩) size x.cap) := (G0.below.cell (p := ⟨cb, c, none⟩) hchs.row.lt).trans (hchs.row.cell c _ (by simp [hx, ChG.val, hxl]))
  have hxc := hxat.cap
  rw [hxl] at hxc
  have hrow : Row w0 x.vb 3 (intV x.xs) := hxat.row.below G0.below hxat.row.lt
  have hic0 : w0.cell? ⟨ib, 6, none⟩ = some (.int .i64 bits) := (G0.below.cell (p := ⟨ib, 6, none⟩) hib).trans hic
  have hib0 : ib < w0.heap.size := Nat.lt_of_lt_of_le hib G0.hB
  have hcbl : cb < w0.heap.size := Nat.lt_of_lt_of_le hchs.row.lt G0.hB
  have HROW := Lib.hid hrow
  have HXL := Lib.hid hxl
  have HG0 := Lib.hid G0
  clear hrow hxl hx hxat hcl hic hib hchs cs
  unfold maxLen at hk hcc hxc
  refine wp_letter ?_
  intro J K' hJ hK
  conv => arg 2; whnf
  go_upto_if 81 with fail
  go_cut [21] from 76 to 210 (fun v wc => (∃ kw : Int, v = .int .u16 kw ∧ 0 ≤ kw ∧ kw < 65536) ∧ w0 = wc)
  case first => as_aux_lemma =>
    by_cases hnk : 0 < nk
    · obtain ⟨ad, hA, hblk, hcell⟩ := hrk.2 hnk
      subst hA
      obtain ⟨q, hq⟩ : ∃ q, q = (c + kf) % nk := ⟨_, rfl⟩
      have hqd : q < nk := by rw [hq]; exact Nat.mod_lt _ hnk
      have hkll : kl.length = nk := by have := hrk.1; rw [u16V_len] at this; omega
      have cq : w0.cell? (ad.add q) = some (.int .u16 (kl.getD q 0)) := (HG0.out.below.cell (by rw [block_of_add]; exact hblk)).trans (hcell q _ (u16V_get (by omega)))
      have hkv := hkl (kl.getD q 0) (by
        have : kl.getD q 0 = kl[q]'(by omega) := by simp [show q < kl.length by omega]
        rw [this]
        exact List.getElem_mem _)
      have e1 : ((c : Int) + (kf : Int)).tmod (nk : Int) = (q : Int) := by rw [hq, ← Int.natCast_add]; exact (Int.ofNat_tmod (c + kf) nk).symm
      have e2 : ((c : Int) + (kf : Int)) % (nk : Int) = (q : Int) := by rw [hq]; simp
      have hz : ¬ (nk : Int) = 0 := by omega
      have hz2 : ((nk : Int) == 0) = false := by simp; omega
      generalize kl.getD q 0 = dx at cq hkv
      clear hq hkll hcell hrk hkl
      go_wp2_with fail
      go_meet
      case rel => exact ⟨⟨_, rfl, hkv⟩, rfl⟩
    · obtain rfl : nk = 0 := by omega
      clear hrk hkl
      go_wp2_with fail
      go_meet
      case rel => exact ⟨⟨1, rfl, by decide, by decide⟩, rfl⟩
  case rest =>
  obtain ⟨⟨kw, rfl, hkw⟩, rfl⟩ := hcut
  clear hrk hkl
  obtain ⟨kd, hkd⟩ : ∃ kd, kw % 3 = kd := ⟨_, rfl⟩
  have hkd3 : kd = 0 ∨ kd = 1 ∨ kd = 2 := by omega
  go_upto_block 4 with fail
  have S0 := subStart w0 kd
  refine wp_use (samplesP w0 x.vb size x.cap x.xs hsz HXL.out hxc HROW.out (w0.heap.size + 1) kd _ 1 [4] _ S0) ?_
  clear S0 hcr hkd
  intro a7 w7 hinv
  obtain ⟨u23, hinv⟩ := hinv
  obtain ⟨u25, hinv⟩ := hinv
  obtain ⟨u98, hinv⟩ := hinv
  obtain ⟨u99, hinv⟩ := hinv
  obtain ⟨u100, hinv⟩ := hinv
  obtain ⟨u101, hinv⟩ := hinv
  obtain ⟨u102, hinv⟩ := hinv
  obtain ⟨u103, hinv⟩ := hinv
  obtain ⟨u104, hinv⟩ := hinv
  obtain ⟨u105, hinv⟩ := hinv
  obtain ⟨u106, hinv⟩ := hinv
  obtain ⟨u107, hinv⟩ := hinv
  obtain ⟨u108, hinv⟩ := hinv
  obtain ⟨u109, hinv⟩ := hinv
  obtain ⟨u110, hinv⟩ := hinv
  obtain ⟨u111, hinv⟩ := hinv
  obtain ⟨u112, hinv⟩ := hinv
  obtain ⟨u113, hinv⟩ := hinv
  obtain ⟨u114, hinv⟩ := hinv
  obtain ⟨u115, hinv⟩ := hinv
  obtain ⟨u116, hinv⟩ := hinv
  obtain ⟨u117, hinv⟩ := hinv
  obtain ⟨⟨v3, same, rfl, S1, hsame⟩, ha⟩ := hinv
  subst ha
  try dsimp only
  obtain ⟨mb, scap, hv3, _⟩ := ownsRow_some S1.r3 (by omega)
  subst hv3
  have HSAME := Lib.hid hsame
  clear hsame
  go_upto_region 23 with fail
  have bi7 : w7.cell? ⟨ib, 6, none⟩ = some (.int .i64 bits) := (S1.below.cell (p := ⟨ib, 6, none⟩) hib0).trans hic0
  go_cut [129] from 99 to 210 (fun v wc => (∃ b : Bool, v = .bool b ∧ (b = false → (kd = 0 → same = true) ∧ bits ≤ 22)) ∧ SubSt w0.heap.size (w0.heap.size + 1) kd 0 0 (.slice (some ⟨mb, 0, none⟩) size scap) size (smpOf x.xs) (.slice (some ⟨w0.heap.size, 0, none⟩) 1 1) 1 [4] w0 wc)
  case first => as_aux_lemma =>
    obtain ⟨d0, _, _, _, _, _⟩ := S1.cells
    have HS1 := Lib.hid S1
    clear S1
    by_cases hb22 : 22 < bits
    · have hbd : decide (22 < bits) = true := by simpa using hb22
      cases same
      all_goals
        obtain rfl | rfl | rfl := hkd3
        all_goals
          go_wp2_with fail
          all_goals go_meet
          all_goals exact ⟨⟨_, rfl, fun h => by simp at h⟩, HS1.out⟩
    · have hbd : decide (22 < bits) = false := by simpa using hb22
      cases same
      all_goals
        obtain rfl | rfl | rfl := hkd3
        all_goals
          go_wp2_with fail
          all_goals go_meet
          all_goals
            refine ⟨⟨_, rfl, fun h => ?_⟩, HS1.out⟩
            first
              | (exfalso; simp at h; done)
              | (refine ⟨fun h2 => ?_, by omega⟩; first | rfl | trivial | omega)
  case rest =>
  obtain ⟨⟨b, rfl, hbk⟩, S2⟩ := hcut
  clear S1 bi7
  have HBK := Lib.hid hbk
  clear hbk
  go_upto_if 129 with fail
  go_cut [] from 99 to 210 (fun wc => ∃ kd' : Int, (kd' = 0 ∨ kd' = 1 ∨ kd' = 2) ∧ (kd' = 0 → same = true) ∧ (kd' = 2 → bits ≤ 22) ∧ SubSt w0.heap.size (w0.heap.size + 1) kd' 0 0 (.slice (some ⟨mb, 0, none⟩) size scap) size (smpOf x.xs) (.slice (some ⟨w0.heap.size, 0, none⟩) 1 1) 1 [4] w0 wc)
  case first => as_aux_lemma =>
    obtain ⟨d0, _, _, _, _, hfz⟩ := S2.cells
    have f0 := hfz 0
    clear hfz
    have HS2 := Lib.hid S2
    clear S2
    cases b
    · go_wp2_with fail
      go_meet
      case rel => exact ⟨kd, hkd3, (HBK.out (by first | rfl | trivial)).1, fun _ => (HBK.out (by first | rfl | trivial)).2, HS2.out⟩
    · go_wp2_with fail
      go_meet
      case rel => exact ⟨1, by omega, fun h => by omega, fun h => by omega, HS2.out.put0 1⟩
  case rest =>
  obtain ⟨k2, hk2, hk20, hk22, S3⟩ := hcut
  clear S2 HBK hkd3
  have HK20 := Lib.hid hk20
  clear hk20
  obtain ⟨d0, _⟩ := S3.cells
  go_upto_if 133 with fail
  go_cut [] from 99 to 210 (fun wc => ∃ (kd' : Int) (o p : Nat) (v8' : Value) (prm' : List Int), (kd' = 0 ∨ kd' = 1 ∨ kd' = 2) ∧ (kd' = 0 → same = true) ∧ o ≤ 4 ∧ p ≤ 2 ∧ size % 2 ^ p = 0 ∧ o < size / 2 ^ p ∧ prm'.length = 2 ^ p ∧ (∀ v ∈ prm', 4 ≤ v ∧ v ≤ 14) ∧ SubSt w0.heap.size (w0.heap.size + 1) kd' (o : Int) (p : Int) (.slice (some ⟨mb, 0, none⟩) size scap) size (smpOf x.xs) v8' (2 ^ p) prm' w0 wc)
  case first => as_aux_lemma =>
    have HS3 := Lib.hid S3
    clear S3
    obtain rfl | rfl | rfl := hk2
    · clear hk22
      go_wp2_with fail
      go_meet
      case rel => exact ⟨0, 0, 0, _, [4], by omega, fun _ => HK20.out (by first | rfl | trivial), by omega, by omega, by omega, by simp; omega, rfl, fun v hv => by rw [List.mem_singleton.1 hv]; omega, HS3.out⟩
    · clear hk22
      go_wp2_with fail
      go_meet
      case rel => exact ⟨1, 0, 0, _, [4], by omega, fun h => by omega, by omega, by omega, by omega, by simp; omega, rfl, fun v hv => by rw [List.mem_singleton.1 hv]; omega, HS3.out⟩
    · have hb22 := hk22 rfl
      have hb4 : bits = 8 ∨ bits = 12 ∨ bits = 16 ∨ bits = 20 := by unfold isBits at hb5; omega
      clear hk22 hb22 hb5
      obtain ⟨o0, ho0⟩ : ∃ o0 : Nat, kw / 4 % 5 = (o0 : Int) := ⟨(kw / 4 % 5).toNat, by omega⟩
      obtain ⟨p0, hp0⟩ : ∃ p0 : Nat, kw / 32 % 3 = (p0 : Int) := ⟨(kw / 32 % 3).toNat, by omega⟩
      obtain ⟨o, ho⟩ : ∃ o : Nat, (if (size : Int) - 1 < (o0 : Int) then (size : Int) - 1 else (o0 : Int)) = (o : Int) := ⟨if size - 1 < o0 then size - 1 else o0, by split <;> split <;> omega⟩
      have hor : o ≤ 4 ∧ o < size := by split at ho <;> omega
      have hpr : p0 ≤ 2 := by omega
      obtain ⟨_, d1, _, d7, _, hfz⟩ := HS3.out.cells
      have f1 := hfz 1
      have f7 := hfz 7
      clear hfz
      go_upto_block 6 with fail
      have S4 := (HS3.out.put1 (o : Int)).put7 (p0 : Int)
      refine wp_use (partsP w0 x.vb size x.cap hsz (w0.heap.size + 1) 2 o p0 hor hpr _ size (smpOf x.xs) _ 1 [4] _ S4) ?_
      clear S4 d1 d7 f1 f7 ho0 hp0 ho HS3 d0
      intro a8 w8 hinv
      obtain ⟨u148, hinv⟩ := hinv
      obtain ⟨u149, hinv⟩ := hinv
      obtain ⟨u150, hinv⟩ := hinv
      obtain ⟨u151, hinv⟩ := hinv
      obtain ⟨u152, hinv⟩ := hinv
      obtain ⟨u153, hinv⟩ := hinv
      obtain ⟨u154, hinv⟩ := hinv
      obtain ⟨u155, hinv⟩ := hinv
      obtain ⟨u156, hinv⟩ := hinv
      obtain ⟨u157, hinv⟩ := hinv
      obtain ⟨u158, hinv⟩ := hinv
      obtain ⟨u159, hinv⟩ := hinv
      obtain ⟨u160, hinv⟩ := hinv
      obtain ⟨u161, hinv⟩ := hinv
      obtain ⟨u162, hinv⟩ := hinv
      obtain ⟨u163, hinv⟩ := hinv
      obtain ⟨u164, hinv⟩ := hinv
      obtain ⟨u165, hinv⟩ := hinv
      obtain ⟨u166, hinv⟩ := hinv
      obtain ⟨u167, hinv⟩ := hinv
      obtain ⟨u168, hinv⟩ := hinv
      obtain ⟨u169, hinv⟩ := hinv
      obtain ⟨u170, hinv⟩ := hinv
      obtain ⟨u171, hinv⟩ := hinv
      obtain ⟨u172, hinv⟩ := hinv
      obtain ⟨u173, hinv⟩ := hinv
      obtain ⟨⟨p, hp2, hdv, hmr, S3⟩, ha⟩ := hinv
      subst ha
      try dsimp only
      rcases (show p = 0 ∨ p = 1 ∨ p = 2 by omega) with rfl | rfl | rfl
      · have S4 := S3.put8
        have S4c := S3.cells
        obtain ⟨_, _, _, d7, d8, hfz⟩ := S4c
        have f8 := hfz 8
        have d7 : w8.cell? ⟨w0.heap.size + 1, 7, none⟩ = some (.int .i64 0) := d7
        clear hfz
        go_upto_block 8 with fail
        refine wp_use (paramsP w0 ib bits kw hkw hb4 hib0 hic0 (w0.heap.size + 1) 1 (by decide) 2 (o : Int) 0 _ size (smpOf x.xs) _ S4) ?_
        intro a9 w9 hinv
        obtain ⟨u26, hinv⟩ := hinv
        obtain ⟨u178, hinv⟩ := hinv
        obtain ⟨u179, hinv⟩ := hinv
        obtain ⟨u180, hinv⟩ := hinv
        obtain ⟨u181, hinv⟩ := hinv
        obtain ⟨u182, hinv⟩ := hinv
        obtain ⟨u183, hinv⟩ := hinv
        obtain ⟨u184, hinv⟩ := hinv
        obtain ⟨u185, hinv⟩ := hinv
        obtain ⟨u186, hinv⟩ := hinv
        obtain ⟨u187, hinv⟩ := hinv
        obtain ⟨u188, hinv⟩ := hinv
        obtain ⟨u189, hinv⟩ := hinv
        obtain ⟨u190, hinv⟩ := hinv
        obtain ⟨u191, hinv⟩ := hinv
        obtain ⟨u192, hinv⟩ := hinv
        obtain ⟨u193, hinv⟩ := hinv
        obtain ⟨u194, hinv⟩ := hinv
        obtain ⟨u195, hinv⟩ := hinv
        obtain ⟨u196, hinv⟩ := hinv
        obtain ⟨u197, hinv⟩ := hinv
        obtain ⟨u198, hinv⟩ := hinv
        obtain ⟨u199, hinv⟩ := hinv
        obtain ⟨u200, hinv⟩ := hinv
        obtain ⟨u201, hinv⟩ := hinv
        obtain ⟨u202, hinv⟩ := hinv
        obtain ⟨u203, hinv⟩ := hinv
        obtain ⟨u204, hinv⟩ := hinv
        obtain ⟨⟨v89, prm9, hpl9, hpr9, S9⟩, ha⟩ := hinv
        subst ha
        try dsimp only
        go_wp2_with fail
        go_meet
        case rel => exact ⟨2, o, 0, v89, prm9, by omega, fun h => by omega, by omega, by omega, hdv, hmr, hpl9, hpr9, S9⟩
      · have S4 := S3.put8
        have S4c := S3.cells
        obtain ⟨_, _, _, d7, d8, hfz⟩ := S4c
        have f8 := hfz 8
        have d7 : w8.cell? ⟨w0.heap.size + 1, 7, none⟩ = some (.int .i64 1) := d7
        clear hfz
        go_upto_block 8 with fail
        refine wp_use (paramsP w0 ib bits kw hkw hb4 hib0 hic0 (w0.heap.size + 1) 2 (by decide) 2 (o : Int) 1 _ size (smpOf x.xs) _ S4) ?_
        intro a9 w9 hinv
        obtain ⟨u26, hinv⟩ := hinv
        obtain ⟨u178, hinv⟩ := hinv
        obtain ⟨u179, hinv⟩ := hinv
        obtain ⟨u180, hinv⟩ := hinv
        obtain ⟨u181, hinv⟩ := hinv
        obtain ⟨u182, hinv⟩ := hinv
        obtain ⟨u183, hinv⟩ := hinv
        obtain ⟨u184, hinv⟩ := hinv
        obtain ⟨u185, hinv⟩ := hinv
        obtain ⟨u186, hinv⟩ := hinv
        obtain ⟨u187, hinv⟩ := hinv
        obtain ⟨u188, hinv⟩ := hinv
        obtain ⟨u189, hinv⟩ := hinv
        obtain ⟨u190, hinv⟩ := hinv
        obtain ⟨u191, hinv⟩ := hinv
        obtain ⟨u192, hinv⟩ := hinv
        obtain ⟨u193, hinv⟩ := hinv
        obtain ⟨u194, hinv⟩ := hinv
        obtain ⟨u195, hinv⟩ := hinv
        obtain ⟨u196, hinv⟩ := hinv
        obtain ⟨u197, hinv⟩ := hinv
        obtain ⟨u198, hinv⟩ := hinv
        obtain ⟨u199, hinv⟩ := hinv
        obtain ⟨u200, hinv⟩ := hinv
        obtain ⟨u201, hinv⟩ := hinv
        obtain ⟨u202, hinv⟩ := hinv
        obtain ⟨u203, hinv⟩ := hinv
        obtain ⟨u204, hinv⟩ := hinv
        obtain ⟨⟨v89, prm9, hpl9, hpr9, S9⟩, ha⟩ := hinv
        subst ha
        try dsimp only
        go_wp2_with fail
        go_meet
        case rel => exact ⟨2, o, 1, v89, prm9, by omega, fun h => by omega, by omega, by omega, hdv, hmr, hpl9, hpr9, S9⟩
      · have S4 := S3.put8
        have S4c := S3.cells
        obtain ⟨_, _, _, d7, d8, hfz⟩ := S4c
        have f8 := hfz 8
        have d7 : w8.cell? ⟨w0.heap.size + 1, 7, none⟩ = some (.int .i64 2) := d7
        clear hfz
        go_upto_block 8 with fail
        refine wp_use (paramsP w0 ib bits kw hkw hb4 hib0 hic0 (w0.heap.size + 1) 4 (by decide) 2 (o : Int) 2 _ size (smpOf x.xs) _ S4) ?_
        intro a9 w9 hinv
        obtain ⟨u26, hinv⟩ := hinv
        obtain ⟨u178, hinv⟩ := hinv
        obtain ⟨u179, hinv⟩ := hinv
        obtain ⟨u180, hinv⟩ := hinv
        obtain ⟨u181, hinv⟩ := hinv
        obtain ⟨u182, hinv⟩ := hinv
        obtain ⟨u183, hinv⟩ := hinv
        obtain ⟨u184, hinv⟩ := hinv
        obtain ⟨u185, hinv⟩ := hinv
        obtain ⟨u186, hinv⟩ := hinv
        obtain ⟨u187, hinv⟩ := hinv
        obtain ⟨u188, hinv⟩ := hinv
        obtain ⟨u189, hinv⟩ := hinv
        obtain ⟨u190, hinv⟩ := hinv
        obtain ⟨u191, hinv⟩ := hinv
        obtain ⟨u192, hinv⟩ := hinv
        obtain ⟨u193, hinv⟩ := hinv
        obtain ⟨u194, hinv⟩ := hinv
        obtain ⟨u195, hinv⟩ := hinv
        obtain ⟨u196, hinv⟩ := hinv
        obtain ⟨u197, hinv⟩ := hinv
        obtain ⟨u198, hinv⟩ := hinv
        obtain ⟨u199, hinv⟩ := hinv
        obtain ⟨u200, hinv⟩ := hinv
        obtain ⟨u201, hinv⟩ := hinv
        obtain ⟨u202, hinv⟩ := hinv
        obtain ⟨u203, hinv⟩ := hinv
        obtain ⟨u204, hinv⟩ := hinv
        obtain ⟨⟨v89, prm9, hpl9, hpr9, S9⟩, ha⟩ := hinv
        subst ha
        try dsimp only
        go_wp2_with fail
        go_meet
        case rel => exact ⟨2, o, 2, v89, prm9, by omega, fun h => by omega, by omega, by omega, hdv, hmr, hpl9, hpr9, S9⟩
  case rest =>
  obtain ⟨k4, o, p, v8, prm, hk4, hk40, ho4, hp2, hdv, hmr, hprl, hprr, S4⟩ := hcut
  clear S3 d0 HK20 hk22 hk2
  have hok : (⟨k4, o, p, prm, smpOf x.xs⟩ : SubD).ok := ⟨hk4, ho4, hp2, hprl, hprr, by show 1 ≤ (smpOf x.xs).length ∧ (smpOf x.xs).length ≤ 256; rw [smpOf_len, HXL.out]; exact hsz, by show o < (smpOf x.xs).length / 2 ^ p; rw [smpOf_len, HXL.out]; exact hmr, by show (smpOf x.xs).length % 2 ^ p = 0; rw [smpOf_len, HXL.out]; exact hdv, fun j => smpOf_rng x.xs j, fun h => HSAME.out (hk40 h)⟩
  have HOK := Lib.hid hok
  have hnpp : 0 < 2 ^ p := Nat.two_pow_pos p
  obtain ⟨np, hnp⟩ : ∃ np, np = 2 ^ p := ⟨_, rfl⟩
  rw [← hnp] at S4 hprl hnpp
  have HPL := Lib.hid hprl
  clear hnp hmr hdv hprr hprl hk40 hk4 hok
  obtain ⟨pb, pcap, hv8, _⟩ := ownsRow_some S4.r8 hnpp
  subst hv8
  obtain ⟨z0, z1, z2, z3, z4, z5, z6, z7, z8⟩ := S4.all
  have H4 := HG0.out.same S4.below
  obtain ⟨x6, y6⟩ := H4.cells
  have hxbl := H4.box.lt
  have hB4 := H4.hB
  have hcl8 : c < 8 := by omega
  have HS4 := Lib.hid S4
  have HH4 := Lib.hid H4
  clear S4 H4
  obtain ⟨i42, hi42, hz420, hz421, hz422⟩ := info_parts info42
  go_wp2_with (refine wpList_append_any _ rfl (.tmp 206) (.tmp 208) 35 rfl wf.heap.size 42 i42 (.agg #[.int .i64 0, .int .i64 0, .int .i64 0, .slice none 0 0, .slice none 0 0, .int .i64 0, .int .i64 0, .int .i64 0, .slice none 0 0]) 9 120 Tryz.underlying35 hi42 hz420 hz421 hz422 rfl (by decide) v6 c (subs.flatMap SubI.cells) rfl (ownsRow_below HH4.out.row ((Below.refl _ wc).alloc (Nat.le_refl _) _) (fun q hq => (HH4.out.row.lt q hq).2)) _ (some ⟨wc.heap.size, 0, none⟩) 1 1 [.int .i64 k4, .int .i64 (o : Int), .int .i64 0, .slice (some ⟨mb, 0, none⟩) size scap, .slice none 0 0, .int .i64 0, .int .i64 0, .int .i64 (p : Int), .slice (some ⟨pb, 0, none⟩) np pcap] rfl (readsBlk wc #[.int .i64 k4, .int .i64 (o : Int), .int .i64 0, .slice (some ⟨mb, 0, none⟩) size scap, .slice none 0 0, .int .i64 0, .int .i64 0, .int .i64 (p : Int), .slice (some ⟨pb, 0, none⟩) np pcap] 42 _ 9 rfl rfl) (fun u hu => by simp at hu; rcases hu with rfl | rfl | rfl | rfl | rfl | rfl | rfl | rfl | rfl <;> rfl) (by unfold maxLen; omega) (by omega) (by simp; omega) ?_; intro v9 w9 hown9 hg9 hat9; obtain ⟨A9, c9, hv9⟩ := ownsForm hown9; subst hv9; obtain ⟨d9, f9⟩ := HH4.out.grownc _ hg9; obtain ⟨subs9, G9⟩ := HG0.out.step HS4.out HOK.out (by rw [smpOf_len, HXL.out]) HPL.out rfl _ hg9 hown9; have HG9 := Lib.hid G9; clear G9 hown9 hg9 hat9)
  go_meet
  case rel => exact ⟨_, subs9, HG9.out⟩
end Go.Proofs.YtlabcknoooaefaaGreatDoor
