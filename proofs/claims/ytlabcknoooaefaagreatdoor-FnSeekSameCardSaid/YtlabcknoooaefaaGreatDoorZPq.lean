/-
  THE STREAM OF NUMBERS: streamOf's end.
-/
import Derived.Test.YtlabcknoooaefaaGreatDoorZUn
namespace Go.Proofs.YtlabcknoooaefaaGreatDoor
open Go.RowKit
set_option linter.unusedVariables false

noncomputable def tail12_48 : Code := (Tryz.f12.body.bind (findTail 48)).getD .skip

set_option maxRecDepth 1000000 in
set_option maxHeartbeats 8000000 in
theorem endP {s1 s2 s3 s4 s5 s6 s7 s9 s10 s11 s13 s14 s15 s16 s17 s18 s23 s24 s25 s26 s27 s28 s29 s30 s31 s32 s33 s34 s35 s36 s37 s38 s39 s40 s41 s42 s43 s44 s45 s46 s47 s48 s49 s50 s51 s52 s53 s54 s55 s56 s57 s58 s59 s60 s61 s62 s63 s64 s65 s66 s67 s68 s69 s70 s71 s72 s73 s74 s75 s76 s77 s78 s79 s80 s81 s82 s83 s84 s85 s86 s87 s88 s89 s90 s91 s92 s93 s94 s95 s96 s97 s98 s99 s100 s101 s102 s103 s104 s105 s106 s107 s108 s109 s110 s111 s112 s113 s114 s115 s116 s117 s118 s119 s120 s121 s122 s123 s124 s125 s126 s127 s128 s129 s130 s131 s132 s133 s134 s135 s136 s137 s138 s139 s140 s141 s142 s143 s144 s145 s146 s147 s148 s149 s150 s151 s152 s153 s154 s155 s156 s157 s158 s159 s160 s161 s162 s163 s164 s165 s166 s167 s168 s169 s170 s171 s172 s173 s174 s175 s176 s177 s178 s179 s180 s181 s182 s183 s184 s185 s186 s187 s188 s189 s190 s191 s192 s193 s194 s195 s196 s197 s198 s199 s200 s201 s202 s203 s204 s205 s206 s207 s208 s209 s210 s211 s212 s213 s214 s215 s216 s217 s218 s219 s220 s221 s222 s223 s224 s225 s226 s227 s228 s229 s230 s231 s232 s233 s234 s235 s236 s237 s238 s239 s240 s241 s242 : Value} (flags : Int) (hf : 0 ≤ flags ∧ flags < 4294967296) (ns : Nat) (w : World)
    (ib : Nat) (varies : Bool) (rate asg bits : Int) (hib : w.heap.size < ib) (hasg : 0 ≤ asg ∧ asg < 8) (hrate : isRate rate) (hrr : 0 ≤ rate ∧ rate ≤ 1000000) (hb5 : bits = 8 ∨ bits = 12 ∨ bits = 16 ∨ bits = 20 ∨ bits = 24) (nch : Nat) (hnch : (nch : Int) = asg + 1) (v19 v20 v21 : Value) (m nb done : Nat) (hm : m = min ns 3) (hdone : done ≤ 768) (frs : List FrG) (bl : List Int) (w0 : World)
    (L1 : LSt w.heap.size ib varies rate asg bits nch v19 v20 v21 m nb frs bl w w0) :
    tail12_48.wp Tryz.prog (bodyPost Tryz.prog Tryz.f12 (StPost w ns)) ⟨#[.int .u32 flags, s1, s2, s3, s4, s5, s6, s7, .pointer (some ⟨w.heap.size, 0, none⟩), s9, s10, s11, .pointer (some ⟨ib, 0, none⟩), s13, s14, s15, s16, s17, s18, v19, v20, v21, .int .i64 (done : Int), s23, s24, s25, s26, s27, s28, s29, s30, s31, s32, s33, s34, s35, s36, s37, s38, s39, s40, s41, s42, s43, s44, s45, s46, s47, s48, s49, s50, s51, s52, s53, s54, s55, s56, s57, s58, s59, s60, s61, s62, s63, s64, s65, s66, s67, s68, s69, s70, s71, s72, s73, s74, s75, s76, s77, s78, s79, s80, s81, s82, s83, s84, s85, s86, s87, s88, s89, s90, s91, s92, s93, s94, s95, s96, s97, s98, s99, s100, s101, s102, s103, s104, s105, s106, s107, s108, s109, s110, s111, s112, s113, s114, s115, s116, s117, s118, s119, s120, s121, s122, s123, s124, s125, s126, s127, s128, s129, s130, s131, s132, s133, s134, s135, s136, s137, s138, s139, s140, s141, s142, s143, s144, s145, s146, s147, s148, s149, s150, s151, s152, s153, s154, s155, s156, s157, s158, s159, s160, s161, s162, s163, s164, s165, s166, s167, s168, s169, s170, s171, s172, s173, s174, s175, s176, s177, s178, s179, s180, s181, s182, s183, s184, s185, s186, s187, s188, s189, s190, s191, s192, s193, s194, s195, s196, s197, s198, s199, s200, s201, s202, s203, s204, s205, s206, s207, s208, s209, s210, s211, s212, s213, s214, s215, s216, s217, s218, s219, s220, s221, s222, s223, s224, s225, s226, s227, s228, s229, s230, s231, s232, s233, s234, s235, s236, s237, s238, s239, s240, s241, s242], []⟩ w0 := by
  obtain ⟨A21, c21, hv21⟩ := ownsForm L1.out
  subst hv21
  obtain ⟨i5, hi5, hz50, hz51, hz52⟩ := info_parts (show (Tryz.prog.info? 5).map (fun i => (i.zero, i.size, i.bytes)) = some (some (.int .u8 0), 1, 1) by kernel_rfl)
  obtain ⟨k40, hk40⟩ : ∃ k : Nat, flags / 67108864 % 40 = (k : Int) := ⟨(flags / 67108864 % 40).toNat, by omega⟩
  have hk41 : k40 ≤ 40 := by omega
  have HK40 := Lib.hid hk40
  clear hk40
  have E0 := L1.toEnd hib
  have O0 := Lib.hid L1.out
  have HNB := Lib.hid L1.nb
  have HLEN := Lib.hid L1.len
  have HM := Lib.hid hm
  have HRT := Lib.hid hrate
  have hm3 : m ≤ 3 := by omega
  obtain ⟨ch, hch⟩ : ∃ ch, ch = asg + 1 := ⟨_, rfl⟩
  have hch8 : 1 ≤ ch ∧ ch ≤ 8 := by omega
  have HNCH := Lib.hid (hnch.trans hch.symm)
  have hbits : 8 ≤ bits ∧ bits ≤ 24 := by omega
  have hd2 : (0 : Int) ≤ (done : Int) ∧ (done : Int) ≤ 2000 := by omega
  clear L1 hm hrate hnch
  rw [← hch] at E0
  have HCH := Lib.hid hch
  clear hch
  have i0 := E0.ib.cell 0
  have i1 := E0.ib.cell 1
  have i7 := E0.ib.cell 7
  simp at i0 i1 i7
  have f0 := E0.ib.frozen 0
  have f1 := E0.ib.frozen 1
  have f7 := E0.ib.frozen 7
  conv => arg 2; whnf
  go_upto_region 49 with fail
  have E1 := ((E0.putI 0 (.int .i64 16)).putI 1 (.int .i64 4096)).putI 7 (.int .u64 (done : Int))
  simp at E1
  have O1 := Lib.hid (ownsRow_setCell_other (ownsRow_setCell_other (ownsRow_setCell_other O0.out (a := ⟨ib, 0, none⟩) (ownsRow_ne O0.out E0.ib (by decide)) (.int .i64 16)) (a := ⟨ib, 1, none⟩) (ownsRow_ne O0.out E0.ib (by decide)) (.int .i64 4096)) (a := ⟨ib, 7, none⟩) (ownsRow_ne O0.out E0.ib (by decide)) (.int .u64 (done : Int)))
  obtain ⟨w1, hw1⟩ : ∃ w1, w1 = ((w0.setCell ⟨ib, 0, none⟩ (.int .i64 16)).setCell ⟨ib, 1, none⟩ (.int .i64 4096)).setCell ⟨ib, 7, none⟩ (.int .u64 (done : Int)) := ⟨_, rfl⟩
  rw [← hw1] at E1 O1 ⊢
  clear hw1 i0 i1 i7 f0 f1 f7 E0 O0
  obtain ⟨c0, hc0⟩ : ∃ c : Array Value, c = #[.int .i64 16, .int .i64 4096, .int .i64 0, .int .i64 0, .int .i64 rate, .int .i64 ch, .int .i64 bits, .int .u64 (done : Int), .slice none 0 0] := ⟨_, rfl⟩
  have z0 := E1.ib.cell 0
  have z1 := E1.ib.cell 1
  have z2 := E1.ib.cell 2
  have z3 := E1.ib.cell 3
  have z4 := E1.ib.cell 4
  have z5 := E1.ib.cell 5
  have z6 := E1.ib.cell 6
  have z7 := E1.ib.cell 7
  have z8 := E1.ib.cell 8
  simp at z0 z1 z2 z3 z4 z5 z6 z7 z8
  clear hc0 c0
  have HE1 := Lib.hid E1
  have hB1 := E1.hB
  clear E1
  go_upto_region 50 with (go_at_call 25; (with_reducible refine (winfoN rate ch bits _ hd2 hch8 hbits _ _).mono ?_); rintro e w2 ⟨v33, n33, l33, rfl, hn33, hown33, hb33⟩)
  have E2 := HE1.out.same hb33
  have O2 := ownsRow_below O1.out hb33 (fun q hq => (O1.out.lt q hq).2)
  have hlow : ∀ k, Value.ownBlock (.slice A21 nb c21) = some k → k < w1.heap.size := fun k hk => (O1.out.lt k hk).2
  have hz2 := hb33.size
  have P2 := hown33
  obtain ⟨b1, hb1⟩ : ∃ b1, b1 = w1.heap.size := ⟨_, rfl⟩
  rw [← hb1] at hlow P2 hB1 hz2
  clear hb1
  clear hown33 hb33 z0 z1 z2 z3 z4 z5 z6 z7 z8 HE1 O1
  go_upto_if 229 with fail
  go_cut [33] from 215 to 242 (fun v33 wc => ∃ (n33 : Nat) (l33 : List Int), n33 ≤ 10000 ∧ wc.ownsRow b1 5 1 v33 n33 (u8V l33) ∧ wc.ownsRow w.heap.size 5 1 (.slice A21 nb c21) nb (u8V bl) ∧ EndSt w.heap.size ib #[.int .i64 16, .int .i64 4096, .int .i64 0, .int .i64 0, .int .i64 rate, .int .i64 ch, .int .i64 bits, .int .u64 (done : Int), .slice none 0 0] #[.int .i64 0, .int .i64 0, .int .i64 0, .int .i64 0, .int .i64 0, .int .i64 0, .int .i64 0, .int .u64 0, .slice none 0 0] varies asg bits nch m v19 v20 frs w wc ∧ b1 ≤ wc.heap.size)
  case first =>
    have HE2 := Lib.hid E2
    have HO2 := Lib.hid O2
    have HP2 := Lib.hid P2
    clear E2 O2 P2
    go_wp2_with (first
      | (refine wpList_make_full _ rfl (.tmp 233) (.tmp 233) 23 rfl w.heap.size 5 i5 (.int .u8 0) 1 Tryz.underlying23 hi5 hz50 hz51 .u32 .u32 (flags / 67108864 % 40) (flags / 67108864 % 40) k40 rfl rfl HK40.out HK40.out (by rw [hz52]; omega) (by unfold maxLen; omega) (by omega) ?_; intro w5 hown5 hg5; have hb5w := (Below.refl w2.heap.size w2).grown hg5 (Nat.le_refl _) (fun k hk => by cases hk); have hz5 := hb5w.size; have hfull := ownsFull hown5; rw [show (madeCells (Value.int .u8 0).cells (k40 * 1)).toList = List.replicate k40 (Value.int .u8 0) from by rw [Nat.mul_one]; exact toList_madeCells_one _ _] at hfull; clear hown5 hg5)
      | (go_at_call 26; (with_reducible refine (wblockP k40 w2.heap.size hk41 w5 hfull).mono ?_); rintro e w6 ⟨v6, n6, l6, rfl, hn6, hown6, hb6⟩; obtain ⟨A6, c6, rfl⟩ := ownsForm hown6; have hb26 := hb5w.trans (hb6.mono hz5); have E6 := Lib.hid (HE2.out.same hb26); have O6 := Lib.hid (ownsRow_below HO2.out hb26 (fun q hq => (HO2.out.lt q hq).2)); have P6 := Lib.hid (ownsRow_below HP2.out hb26 (fun q hq => (HP2.out.lt q hq).2)); have hz6 := hb26.size)
      | (refine wpList_append_any _ rfl (.tmp 230) (.tmp 235) 23 rfl b1 5 i5 (.int .u8 0) 1 1 Tryz.underlying23 hi5 hz50 hz51 hz52 rfl (by decide) v33 n33 (u8V l33) rfl P6.out _ A6 n6 c6 (u8V l6) rfl (Reads.of_own hown6) (u8V_one _) (by unfold maxLen; omega) (by omega) (by omega) ?_; intro v7 w7 hown7 hg7 hat7; have E7 := Lib.hid (E6.out.g5 (ownsRow_base P6.out hB1) hg7); have O7 := Lib.hid (ownsRow_stay O6.out (fun k o ho hk => by have h1 := hlow k hk; rw [hg7.block k (by omega) (fun e => by have h2 := (P6.out.lt k e.symm).1; omega)]; exact ho)); have hz7 := hg7.size))
    all_goals go_meet
    all_goals first
      | exact ⟨n33, l33, by omega, HP2.out, HO2.out, HE2.out, hz2⟩
      | exact ⟨n33 + n6, l33 ++ l6, by omega, by simpa [u8V] using hown7, O7.out, E7.out, by omega⟩
  case rest =>
  obtain ⟨n34, l34, hn34, P3, O3, E3, hz3⟩ := hcut
  clear E2 O2 P2
  have z0 := E3.ib.cell 0
  have z1 := E3.ib.cell 1
  have z2 := E3.ib.cell 2
  have z3 := E3.ib.cell 3
  have z4 := E3.ib.cell 4
  have z5 := E3.ib.cell 5
  have z6 := E3.ib.cell 6
  have z7 := E3.ib.cell 7
  have z8 := E3.ib.cell 8
  simp at z0 z1 z2 z3 z4 z5 z6 z7 z8
  have HP3 := Lib.hid P3
  have HO3 := Lib.hid O3
  have HE3 := Lib.hid E3
  have hnb := HNB.out
  clear P3 O3 E3
  go_wp2_with fail
  go_region_law (refine step_append_any _ rfl (.tmp 240) (.tmp 241) 23 rfl b1 5 i5 (.int .u8 0) 1 1 Tryz.underlying23 hi5 hz50 hz51 hz52 rfl (by decide) u33 n34 (u8V l34) (by first | (simp [Act.eval]; done) | (simp [Act.eval, Act.put]; done)) HP3.out _ A21 nb c21 (u8V bl) (by first | (simp [Act.eval]; done) | (simp [Act.eval, Act.put]; done)) (Reads.of_own HO3.out) (u8V_one _) (by unfold maxLen; omega) (by omega) hz3 ?_; intro v9 w9 hown9 hg9 hat9; have E9 := (HE3.out.same ((Below.refl _ wc).drew)).g5 (w := wc.drew) (ownsRow_base HP3.out hB1) hg9; have z0 := E9.ib.cell 0; have z1 := E9.ib.cell 1; have z2 := E9.ib.cell 2; have z3 := E9.ib.cell 3; have z4 := E9.ib.cell 4; have z5 := E9.ib.cell 5; have z6 := E9.ib.cell 6; have z7 := E9.ib.cell 7; have z8 := E9.ib.cell 8; simp at z0 z1 z2 z3 z4 z5 z6 z7 z8; have y0 := E9.rb.cell 0; have y1 := E9.rb.cell 1; have y2 := E9.rb.cell 2; have y3 := E9.rb.cell 3; have y4 := E9.rb.cell 4; have y5 := E9.rb.cell 5; have y6 := E9.rb.cell 6; have y7 := E9.rb.cell 7; have y8 := E9.rb.cell 8; simp at y0 y1 y2 y3 y4 y5 y6 y7 y8; have g0 := E9.rb.frozen 0; have g1 := E9.rb.frozen 1; have g2 := E9.rb.frozen 2; have g3 := E9.rb.frozen 3; have g4 := E9.rb.frozen 4; have g5 := E9.rb.frozen 5; have g6 := E9.rb.frozen 6; have g7 := E9.rb.frozen 7; have g8 := E9.rb.frozen 8)
  all_goals
    go_wp2_with fail
    have F9 := ((((((((E9.putR 0 (.int .i64 16)).putR 1 (.int .i64 4096)).putR 2 (.int .i64 0)).putR 3 (.int .i64 0)).putR 4 (.int .i64 rate)).putR 5 (.int .i64 ch)).putR 6 (.int .i64 bits)).putR 7 (.int .u64 (done : Int))).putR 8 (.slice none 0 0)
    simp at F9
    have key : ∀ W : World, EndSt w.heap.size ib #[.int .i64 16, .int .i64 4096, .int .i64 0, .int .i64 0, .int .i64 rate, .int .i64 ch, .int .i64 bits, .int .u64 (done : Int), .slice none 0 0] #[.int .i64 16, .int .i64 4096, .int .i64 0, .int .i64 0, .int .i64 rate, .int .i64 ch, .int .i64 bits, .int .u64 (done : Int), .slice none 0 0] varies asg bits nch m v19 v20 frs w W → StPost w ns (.returned (.tuple #[.agg #[.int .i64 16, .int .i64 4096, .int .i64 0, .int .i64 0, .int .i64 rate, .int .i64 ch, .int .i64 bits, .int .u64 (done : Int), .slice none 0 0], v19, v20, v9])) W := fun W F => by
      refine ⟨varies, rate, ch, bits, (done : Int), nch, frs, v19, v20, v9, rfl, ?_⟩
      rw [← HM.out]
      refine ⟨⟨hrr, hch8, hbits, hd2⟩, HRT.out, by unfold isBits; omega, HNCH.out.symm, ⟨HLEN.out, hm3⟩, ?_, F.r20, F.frm, F.below⟩
      have e : ch - 1 = asg := by have := HCH.out; omega
      rw [e]
      exact F.r19
    refine bodyPost_ret (v := .tuple #[.agg #[.int .i64 16, .int .i64 4096, .int .i64 0, .int .i64 0, .int .i64 rate, .int .i64 ch, .int .i64 bits, .int .u64 (done : Int), .slice none 0 0], v19, v20, v9]) (by simp [results, Tryz.results12, go_sem, y0, y1, y2, y3, y4, y5, y6, y7, y8]) rfl (key _ F9)
end Go.Proofs.YtlabcknoooaefaaGreatDoor

/-
  THE STREAM OF NUMBERS: a frame's channels (streamOf's block 5).
-/
namespace Go.Proofs.YtlabcknoooaefaaGreatDoor
open Go.RowKit
set_option linter.unusedVariables false

noncomputable def blk12_5 : Code := (Tryz.f12.body.bind (findBlock 5)).getD .skip

set_option maxRecDepth 1000000 in
set_option maxHeartbeats 8000000 in
theorem chanP {s1 s3 s4 s5 s6 s7 s8 s9 s10 s11 s13 s14 s15 s16 s17 s18 s19 s20 s21 s22 s23 s24 s26 s28 s29 s30 s31 s32 s33 s34 s35 s36 s37 s38 s39 s40 s41 s42 s43 s44 s45 s46 s47 s48 s49 s50 s51 s52 s53 s54 s55 s56 s57 s58 s59 s60 s61 s62 s63 s64 s65 s66 s67 s68 s69 s70 s71 s72 s73 s74 s75 s76 s77 s78 s79 s80 s81 s82 s83 s84 s85 s86 s87 s88 s89 s90 s91 s92 s93 s94 s95 s96 s97 s98 s99 s100 s101 s102 s103 s104 s105 s106 s107 s108 s109 s110 s111 s112 s113 s114 s115 s116 s117 s118 s119 s120 s121 s122 s123 s124 s125 s126 s127 s128 s129 s130 s133 s134 s135 s136 s137 s138 s139 s140 s141 s142 s143 s144 s145 s146 s147 s148 s149 s150 s151 s152 s153 s154 s155 s156 s157 s158 s159 s160 s161 s162 s163 s164 s165 s166 s167 s168 s169 s170 s171 s172 s173 s174 s175 s176 s177 s178 s179 s180 s181 s182 s183 s184 s185 s186 s187 s188 s189 s190 s191 s192 s193 s194 s195 s196 s197 s198 s199 s200 s201 s202 s203 s204 s205 s206 s207 s208 s209 s210 s211 s212 s213 s214 s215 s216 s217 s218 s219 s220 s221 s222 s223 s224 s225 s226 s227 s228 s229 s230 s231 s232 s233 s234 s235 s236 s237 s238 s239 s240 s241 s242 : Value} (flags : Int) (hf : 0 ≤ flags ∧ flags < 4294967296) (Ad : Option Addr) (nd cd : Nat) (dl : List Int) (hd : nd ≤ 1000 ∧ nd ≤ cd ∧ cd ≤ maxLen) (w : World) (hrd : Reads w w.heap.size 1 Ad nd (u8V dl))
    (ib : Nat) (varies : Bool) (rate asg bits rt num : Int) (hb5 : bits = 8 ∨ bits = 12 ∨ bits = 16 ∨ bits = 20 ∨ bits = 24) (nch : Nat) (nI : Int) (hnI : (nch : Int) = nI) (hnc8 : 1 ≤ nch ∧ nch ≤ 8) (v19 v20 v21 : Value) (j nb : Nat) (frs : List FrG) (bl : List Int) (size : Nat) (hsz : 1 ≤ size ∧ size ≤ 256)
    (wl hbk : Nat) (hwB : w.heap.size ≤ wl) (HZ : ∀ (q : Nat) (f : FrG), frs[q]? = some f → f.cb < wl) (v27 : Value) (w0 : World)
    (L6 : LSt w.heap.size ib varies rate asg bits nch v19 v20 v21 j nb frs bl w w0) (C6 : CSt wl hbk #[.bool varies, .int .i64 (size : Int), .int .i64 rt, .int .i64 asg, .int .i64 bits, .int .u64 num] v27 0 size [] w0) :
    blk12_5.wp Tryz.prog (Exit.then (fun a' w' => ∃ u27 u28 u132 u133 u134 u135 u136 u137 u138 u139 u140 u141 u142 u143 u144 u145 u146 u147 u148 u149 u150 u151 u152 u153 u154 u155 u156 u157 u158 u159 : Value, (∃ cs : List ChG, LSt w.heap.size ib varies rate asg bits nch v19 v20 v21 j nb frs bl w w' ∧ CSt wl hbk #[.bool varies, .int .i64 (size : Int), .int .i64 rt, .int .i64 asg, .int .i64 bits, .int .u64 num] u27 nch size cs w') ∧ a' = ⟨#[.int .u32 flags, s1, .slice Ad nd cd, s3, s4, s5, s6, s7, s8, s9, s10, s11, .pointer (some ⟨ib, 0, none⟩), s13, s14, s15, s16, s17, s18, s19, s20, s21, s22, s23, s24, .int .i64 (size : Int), s26, u27, u28, s29, s30, s31, s32, s33, s34, s35, s36, s37, s38, s39, s40, s41, s42, s43, s44, s45, s46, s47, s48, s49, s50, s51, s52, s53, s54, s55, s56, s57, s58, s59, s60, s61, s62, s63, s64, s65, s66, s67, s68, s69, s70, s71, s72, s73, s74, s75, s76, s77, s78, s79, s80, s81, s82, s83, s84, s85, s86, s87, s88, s89, s90, s91, s92, s93, s94, s95, s96, s97, s98, s99, s100, s101, s102, s103, s104, s105, s106, s107, s108, s109, s110, s111, s112, s113, s114, s115, s116, s117, s118, s119, s120, s121, s122, s123, s124, s125, s126, s127, s128, s129, s130, .int .i64 nI, u132, u133, u134, u135, u136, u137, u138, u139, u140, u141, u142, u143, u144, u145, u146, u147, u148, u149, u150, u151, u152, u153, u154, u155, u156, u157, u158, u159, s160, s161, s162, s163, s164, s165, s166, s167, s168, s169, s170, s171, s172, s173, s174, s175, s176, s177, s178, s179, s180, s181, s182, s183, s184, s185, s186, s187, s188, s189, s190, s191, s192, s193, s194, s195, s196, s197, s198, s199, s200, s201, s202, s203, s204, s205, s206, s207, s208, s209, s210, s211, s212, s213, s214, s215, s216, s217, s218, s219, s220, s221, s222, s223, s224, s225, s226, s227, s228, s229, s230, s231, s232, s233, s234, s235, s236, s237, s238, s239, s240, s241, s242], []⟩) NoQ) ⟨#[.int .u32 flags, s1, .slice Ad nd cd, s3, s4, s5, s6, s7, s8, s9, s10, s11, .pointer (some ⟨ib, 0, none⟩), s13, s14, s15, s16, s17, s18, s19, s20, s21, s22, s23, s24, .int .i64 (size : Int), s26, v27, s28, s29, s30, s31, s32, s33, s34, s35, s36, s37, s38, s39, s40, s41, s42, s43, s44, s45, s46, s47, s48, s49, s50, s51, s52, s53, s54, s55, s56, s57, s58, s59, s60, s61, s62, s63, s64, s65, s66, s67, s68, s69, s70, s71, s72, s73, s74, s75, s76, s77, s78, s79, s80, s81, s82, s83, s84, s85, s86, s87, s88, s89, s90, s91, s92, s93, s94, s95, s96, s97, s98, s99, s100, s101, s102, s103, s104, s105, s106, s107, s108, s109, s110, s111, s112, s113, s114, s115, s116, s117, s118, s119, s120, s121, s122, s123, s124, s125, s126, s127, s128, s129, s130, .int .i64 nI, .int .i64 0, s133, s134, s135, s136, s137, s138, s139, s140, s141, s142, s143, s144, s145, s146, s147, s148, s149, s150, s151, s152, s153, s154, s155, s156, s157, s158, s159, s160, s161, s162, s163, s164, s165, s166, s167, s168, s169, s170, s171, s172, s173, s174, s175, s176, s177, s178, s179, s180, s181, s182, s183, s184, s185, s186, s187, s188, s189, s190, s191, s192, s193, s194, s195, s196, s197, s198, s199, s200, s201, s202, s203, s204, s205, s206, s207, s208, s209, s210, s211, s212, s213, s214, s215, s216, s217, s218, s219, s220, s221, s222, s223, s224, s225, s226, s227, s228, s229, s230, s231, s232, s233, s234, s235, s236, s237, s238, s239, s240, s241, s242], []⟩ w0 := by
  subst hnI
  unfold maxLen at hd
  have HZH := Lib.hid HZ
  clear HZ
  refine wp_letter ?_
  intro J K' hJ hK
  conv => arg 2; whnf
  go_wp2_with fail
  go_loopg [27, 132] nch (fun k v27 i wr => ∃ (c : Nat) (cs : List ChG), k + c = nch ∧ i = .int .i64 (c : Int) ∧ LSt w.heap.size ib varies rate asg bits nch v19 v20 v21 j nb frs bl w wr ∧ CSt wl hbk #[.bool varies, .int .i64 (size : Int), .int .i64 rt, .int .i64 asg, .int .i64 bits, .int .u64 num] v27 c size cs wr)
  case atStart => exact ⟨0, [], by omega, rfl, L6, C6⟩
  case round =>
    obtain ⟨c, cs2, hgk2, rfl, L7, C7⟩ := hrel
    have HGK2 := Lib.hid hgk2
    have hcn : c ≤ nch := by omega
    clear hgk2 L6 C6
    by_cases hltc : c < nch
    · obtain ⟨i4, i5, i6⟩ := L7.cells
      have ilt := L7.ib.lt
      obtain ⟨i3, hi3, hz30, hz31, hz32⟩ := info_parts (show (Tryz.prog.info? 40).map (fun i => (i.zero, i.size, i.bytes)) = some (some (.slice none 0 0), 1, 24) by kernel_rfl)
      have HL7 := Lib.hid L7
      have HC7 := Lib.hid C7
      have hwz := L7.hB
      clear i4 i5 L7 C7
      obtain ⟨lo, hlo⟩ : ∃ lo, lo = min c nd := ⟨_, rfl⟩
      have hlo1 : lo ≤ nd ∧ lo ≤ cd := by omega
      have hRd := (((hrd.below HL7.out.below).more HL7.out.hB).cut (k := lo) (cap := cd) (by omega) (by omega))
      have hRd2 : Reads wr wr.heap.size 1 (if cd = lo then Ad else Ad.map (·.add lo)) (nd - lo) (u8V (dl.drop lo)) := by
        have e : u8V (dl.drop lo) = (u8V dl).drop (lo * 1) := by simp [u8V, List.map_drop]
        rw [e]
        simpa using hRd
      have hsl2 := fun W => sliceLow Ad nd cd lo hlo1.1 hd.2.1 (by omega) W
      obtain ⟨A2, hA2⟩ : ∃ A2, A2 = if cd = lo then Ad else Ad.map (·.add (lo * 1)) := ⟨_, rfl⟩
      rw [← hA2] at hsl2
      obtain ⟨m1, hm1⟩ : ∃ m1, m1 = nd - lo := ⟨_, rfl⟩
      obtain ⟨m2, hm2⟩ : ∃ m2, m2 = cd - lo := ⟨_, rfl⟩
      have hm3 : m1 ≤ 1000 ∧ m1 ≤ m2 ∧ m2 ≤ 9223372036854775807 := by omega
      rw [← hm1, ← hm2] at hsl2
      have hRd3 : Reads wr wr.heap.size 1 A2 m1 (u8V (dl.drop lo)) := by
        rw [hA2, hm1]
        simpa using hRd2
      have HRD := Lib.hid hRd3
      clear hRd hRd2 hRd3 hA2 hm1 hm2
      have HS := Lib.hid (fun (kd : Int) (hkd : 0 ≤ kd ∧ kd < 256) (q : Nat) => soundP kd hkd size (by omega) bits hb5 A2 m1 m2 ⟨by omega, by omega, by unfold maxLen; omega⟩ (dl.drop lo) (wr.drewN q) HRD.out)
      have hwl2 := HC7.out.hB
      have fin : lo = c ∨ (lo = nd ∧ nd < c) := by omega
      have hb1 : (0 : Int) ≤ (lo : Int) := by omega
      have hb2 : (lo : Int) ≤ (cd : Int) := by omega
      have hb3 : (lo : Int) ≤ (nd : Int) := by omega
      clear hlo
      rcases fin with hlc | ⟨hlc, hnc⟩
      · have hmin : ¬ ((nd : Int) < (c : Int)) := by omega
        subst hlc
        go_upto_region 31 with fail
        go_region_law (first
          | (refine step_append_any _ rfl (.tmp 135) (.tmp 157) 54 rfl wl 40 i3 (.slice none 0 0) 1 24 Tryz.underlying54 hi3 hz30 hz31 hz32 rfl (by decide) u27 lo (cs2.map ChG.val) (by simp [Act.eval]) (World.ownsRow.alloc (ownsRow_below (w := wr.drewN 1) HC7.out.row hbq (fun q hq => (HC7.out.row.lt q hq).2)) _) _ (some ⟨wq.heap.size, 0, none⟩) 1 1 [.slice (some ⟨gq, 0, none⟩) size cq] (by simp [Act.eval]) (readsNew1 _ _ _ _ rfl) (fun u hu => by simp at hu; subst hu; rfl) (by unfold maxLen; omega) (by omega) (by have := hbq.size; simp at this; simp; omega) ?_; intro v9 w9 hown9 hg9 hat9)
          | (go_simp; go_at_call 23; refine (HS.out _ (by first | omega | (simp only [IntKind.wrap_u8]; omega)) 1).mono ?_; rintro e wq ⟨vq, lq, rfl, hlq, hoq, hbq⟩; obtain ⟨gq, cq, rfl, hgq1, hgq2, hgq3, hgq4, hgq5⟩ := ownsRow_some hoq (by omega)))
        all_goals
          obtain ⟨cs9, L9, C9⟩ := roundCh HL7.out HC7.out hwB HZH.out hbq hgq5 hlq ⟨hgq3, hgq4⟩ _ hown9 hg9
          clear hown9 hg9 hat9 hbq hgq1 hgq2 hgq3 hgq4 hgq5 hoq HL7 HC7 HS HRD
          go_wp2_with fail
          go_roundg (nch - (lo + 1))
          case measure => have := HGK2.out; omega
          case rel => exact ⟨lo + 1, cs9, by have := HGK2.out; omega, by simp, L9, C9⟩
      · have hmin : (nd : Int) < (c : Int) := by omega
        subst hlc
        go_upto_region 31 with fail
        go_region_law (first
          | (refine step_append_any _ rfl (.tmp 135) (.tmp 157) 54 rfl wl 40 i3 (.slice none 0 0) 1 24 Tryz.underlying54 hi3 hz30 hz31 hz32 rfl (by decide) u27 c (cs2.map ChG.val) (by simp [Act.eval]) (World.ownsRow.alloc (ownsRow_below (w := wr.drewN 1) HC7.out.row hbq (fun q hq => (HC7.out.row.lt q hq).2)) _) _ (some ⟨wq.heap.size, 0, none⟩) 1 1 [.slice (some ⟨gq, 0, none⟩) size cq] (by simp [Act.eval]) (readsNew1 _ _ _ _ rfl) (fun u hu => by simp at hu; subst hu; rfl) (by unfold maxLen; omega) (by omega) (by have := hbq.size; simp at this; simp; omega) ?_; intro v9 w9 hown9 hg9 hat9)
          | (go_simp; go_at_call 23; refine (HS.out _ (by first | omega | (simp only [IntKind.wrap_u8]; omega)) 1).mono ?_; rintro e wq ⟨vq, lq, rfl, hlq, hoq, hbq⟩; obtain ⟨gq, cq, rfl, hgq1, hgq2, hgq3, hgq4, hgq5⟩ := ownsRow_some hoq (by omega)))
        all_goals
          obtain ⟨cs9, L9, C9⟩ := roundCh HL7.out HC7.out hwB HZH.out hbq hgq5 hlq ⟨hgq3, hgq4⟩ _ hown9 hg9
          clear hown9 hg9 hat9 hbq hgq1 hgq2 hgq3 hgq4 hgq5 hoq HL7 HC7 HS HRD
          go_wp2_with fail
          go_roundg (nch - (c + 1))
          case measure => have := HGK2.out; omega
          case rel => exact ⟨c + 1, cs9, by have := HGK2.out; omega, by simp, L9, C9⟩
    · have hcn2 : c = nch := by omega
      subst hcn2
      go_wp2_with fail
      go_meet
      case rel => exact ⟨cs2, L7, C7⟩
end Go.Proofs.YtlabcknoooaefaaGreatDoor
