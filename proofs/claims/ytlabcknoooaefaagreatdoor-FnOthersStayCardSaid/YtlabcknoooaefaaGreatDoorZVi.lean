/-
  WHAT THE LAWS GIVE THE ENCODER: givenOf.
-/
import Derived.Test.YtlabcknoooaefaaGreatDoorZVh
import Derived.Test.YtlabcknoooaefaaGreatDoorZEa
import Derived.Test.YtlabcknoooaefaaGreatDoorZPi
namespace Go.Proofs.YtlabcknoooaefaaGreatDoor
open Go.RowKit
set_option linter.unusedVariables false

set_option maxRecDepth 1000000 in
set_option maxHeartbeats 8000000 in
theorem givenP (flags : Int) (hf : 0 ≤ flags ∧ flags < 4294967296) (As Ad Ak : Option Addr) (ns cs nd cd nk ck : Nat) (sl dl kl : List Int) (hs : ns ≤ cs ∧ cs ≤ maxLen) (hd : nd ≤ 1000 ∧ nd ≤ cd ∧ cd ≤ maxLen) (hk : nk ≤ 100 ∧ nk ≤ ck ∧ ck ≤ maxLen) (hsl : ∀ x ∈ sl, 0 ≤ x ∧ x < 256) (hkl : ∀ v ∈ kl, 0 ≤ v ∧ v < 65536) (w : World) (hrs : Reads w w.heap.size 1 As ns (u8V sl)) (hrd : Reads w w.heap.size 1 Ad nd (u8V dl)) (hrk : Reads w w.heap.size 1 Ak nk (u16V kl)) :
    Calls Tryz.prog 7 #[.int .u32 flags, .slice As ns cs, .slice Ad nd cd, .slice Ak nk ck] w (GvPost w) := by
  obtain ⟨F, hF, hFr, hF8⟩ := flagsOf flags hf
  have B0 := (Below.refl w.heap.size w).alloc (Nat.le_refl _) (.cells #[.int .i64 0, .int .i64 0, .int .i64 0, .int .i64 0, .int .i64 0, .int .i64 0, .int .i64 0, .int .u64 0, .slice none 0 0] 28)
  have RB := Bk.new w 28 #[.int .i64 0, .int .i64 0, .int .i64 0, .int .i64 0, .int .i64 0, .int .i64 0, .int .i64 0, .int .u64 0, .slice none 0 0]
  obtain ⟨wa, hwa⟩ : ∃ wa, wa = w.alloc (.cells #[.int .i64 0, .int .i64 0, .int .i64 0, .int .i64 0, .int .i64 0, .int .i64 0, .int .i64 0, .int .u64 0, .slice none 0 0] 28) := ⟨_, rfl⟩
  have hza : wa.heap.size = w.heap.size + 1 := by rw [hwa]; simp
  rw [← hwa] at B0 RB
  have HS := Lib.hid (streamP F hFr hF8 As Ad ns cs nd cd sl dl hs hd hsl wa ((hrs.below B0).more (by omega)) ((hrd.below B0).more (by omega)))
  have HRK := Lib.hid hrk
  have HKL := Lib.hid hkl
  clear hrs hrd hrk hkl hsl hFr hF8
  have HK := Lib.hid hk
  clear hk
  have hzl : w.heap.size < wa.heap.size := by omega
  have HWA := Lib.hid hwa
  clear hwa hza
  go_enter Tryz.func7, Tryz.ntmps7
  go_upto_region 4 with (go_at_call 12; rw [← HWA.out]; refine HS.out.mono ?_; rintro e w2 ⟨varies, rate, ch, bits, nsam, nch, gs, vh, va, vb, rfl, S2⟩; unfold sinfoV)
  obtain ⟨Ah, hcap, hvh⟩ := ownsForm S2.heads
  subst hvh
  obtain ⟨Aa, acap, hva⟩ := ownsForm S2.all
  subst hva
  obtain ⟨m, hm⟩ : ∃ m, m = min ns 3 := ⟨_, rfl⟩
  rw [← hm] at S2
  rw [← hm]
  clear hm
  have hm3 := S2.len.2
  have hgl := S2.len.1
  have ib1 := Bk.new w2 47 (sinfoV rate ch bits nsam)
  have Bs := S2.below.alloc S2.below.size (.cells (sinfoV rate ch bits nsam) 47)
  have Bk2 := (Below.refl w2.heap.size w2).alloc (Nat.le_refl _) (.cells (sinfoV rate ch bits nsam) 47)
  obtain ⟨ib, hib⟩ : ∃ ib, ib = w2.heap.size := ⟨_, rfl⟩
  obtain ⟨ws, hws⟩ : ∃ ws, ws = w2.alloc (.cells (sinfoV rate ch bits nsam) 47) := ⟨_, rfl⟩
  rw [← hib] at ib1
  rw [← hws] at ib1 Bs Bk2
  unfold sinfoV at hws
  rw [← hws, ← hib]
  have HF := fun (q : Nat) (f : FrG) (hq : gs[q]? = some f) => (S2.frm q f hq).below Bk2
  have hin := S2.info
  have hir := S2.irate
  have hbt := S2.ibits
  have hcn := S2.chn
  have hhd := ownsRow_below S2.heads Bk2 (fun q hq => (S2.heads.lt q hq).2)
  have hal := ownsRow_below S2.all Bk2 (fun q hq => (S2.all.lt q hq).2)
  have hws0 : Below w.heap.size w ws := B0.trans (Bs.mono (Nat.le_of_lt hzl))
  have RBs := RB.below Bs RB.lt
  have hrks : Reads ws ws.heap.size 1 Ak nk (u16V kl) := (HRK.out.below hws0).more hws0.size
  have HRKS := Lib.hid hrks
  have ibl := ib1.lt
  have hcap2 : m ≤ hcap ∧ hcap ≤ maxLen ∨ m = 0 := by
    rcases Nat.eq_zero_or_pos m with h0 | h0
    · exact .inr h0
    · obtain ⟨_, _, e, _, _, h3, h4, _⟩ := ownsRow_some hhd h0
      injection e with _ _ e
      subst e
      exact .inl ⟨h3, h4⟩
  have hch8 := hin.ch
  have HCN := Lib.hid hcn
  have hnch : 1 ≤ nch ∧ nch ≤ 8 := by omega
  obtain ⟨asg, hasg⟩ : ∃ asg, asg = ch - 1 := ⟨_, rfl⟩
  have HASG := Lib.hid (show asg + 1 = (nch : Int) by omega)
  rw [← hasg] at hhd
  clear hasg hcn hrks Bk2 Bs hws hib S2 RB B0 HS HWA
  have HHF := Lib.hid HF
  clear HF
  have HGL := Lib.hid hgl
  clear hgl
  go_upto_block 0 with fail
  have A0 : GAll ws.heap.size (.slice (some ⟨ws.heap.size, 0, none⟩) 0 0) [] 0 nch bits ws (ws.alloc (.cells #[] 37)) :=
    ⟨World.ownsRow_made ws #[] 0 (Nat.le_refl _) (by decide) rfl, rfl, fun f hf => by simp at hf, fun f hf => by simp at hf, fun i j f g hi => by simp at hi, fun f hf => by simp at hf, (Below.refl _ ws).alloc (Nat.le_refl _) _, by simp⟩
  obtain ⟨w5, hw5⟩ : ∃ w5, w5 = ws.alloc (.cells #[] 37) := ⟨_, rfl⟩
  rw [← hw5] at A0 ⊢
  clear hw5
  go_cut [15] from 16 (fun v15 wc => ∃ frs : List FrI, GAll ws.heap.size v15 frs m nch bits ws wc ∧ (0 < m ∨ ∃ g c, v15 = .slice (some ⟨g, 0, none⟩) 0 c ∧ c ≤ maxLen))
  case first =>
    refine wp_use ?_ (fun _ _ h => h)
    go_wp2_with fail
    go_loopg [15, 53] m (fun q v15 i wr => ∃ (k : Nat) (frs : List FrI), q + k = m ∧ i = .int .i64 (k : Int) ∧ GAll ws.heap.size v15 frs k nch bits ws wr ∧ (0 < k ∨ ∃ g c, v15 = .slice (some ⟨g, 0, none⟩) 0 c ∧ c ≤ maxLen))
    case atStart => exact ⟨0, [], by omega, rfl, A0, .inr ⟨_, 0, rfl, by omega⟩⟩
    case round =>
      obtain ⟨k, frs, hgk, rfl, A1, hA⟩ := hrel
      have HGK := Lib.hid hgk
      have HAA := Lib.hid hA
      have hkm : k ≤ m := by omega
      clear hgk A0 hA
      by_cases hlt : k < m
      · obtain ⟨hb, hc2, e1, _, _, e3, e4, hhr⟩ := ownsRow_some hhd (by omega)
        injection e1 with e1 _ e2
        subst e1 e2
        obtain ⟨ab, ac2, e5, _, _, e7, e8, har⟩ := ownsRow_some hal (by omega)
        injection e5 with e5 _ e6
        subst e5 e6
        go_upto_block 1 with fail
        refine wp_use (frameG ws Ak nk ck kl HK.out HRKS.out HKL.out ib varies rate asg ch bits nsam hir hbt ib1 nch HASG.out hnch hb ab hcap acap m k gs HGL.out hm3 hlt ⟨e3, e4⟩ ⟨e7, e8⟩ hhr har HHF.out u15 frs _ A1) ?_
        clear A1
        intro a7 w7 hinv
        obtain ⟨u15, hinv⟩ := hinv
        obtain ⟨u16, hinv⟩ := hinv
        obtain ⟨u17, hinv⟩ := hinv
        obtain ⟨u18, hinv⟩ := hinv
        obtain ⟨u19, hinv⟩ := hinv
        obtain ⟨u20, hinv⟩ := hinv
        obtain ⟨u21, hinv⟩ := hinv
        obtain ⟨u22, hinv⟩ := hinv
        obtain ⟨u23, hinv⟩ := hinv
        obtain ⟨u25, hinv⟩ := hinv
        obtain ⟨u26, hinv⟩ := hinv
        obtain ⟨u55, hinv⟩ := hinv
        obtain ⟨u56, hinv⟩ := hinv
        obtain ⟨u57, hinv⟩ := hinv
        obtain ⟨u58, hinv⟩ := hinv
        obtain ⟨u59, hinv⟩ := hinv
        obtain ⟨u60, hinv⟩ := hinv
        obtain ⟨u61, hinv⟩ := hinv
        obtain ⟨u62, hinv⟩ := hinv
        obtain ⟨u63, hinv⟩ := hinv
        obtain ⟨u64, hinv⟩ := hinv
        obtain ⟨u65, hinv⟩ := hinv
        obtain ⟨u66, hinv⟩ := hinv
        obtain ⟨u67, hinv⟩ := hinv
        obtain ⟨u68, hinv⟩ := hinv
        obtain ⟨u69, hinv⟩ := hinv
        obtain ⟨u70, hinv⟩ := hinv
        obtain ⟨u71, hinv⟩ := hinv
        obtain ⟨u72, hinv⟩ := hinv
        obtain ⟨u73, hinv⟩ := hinv
        obtain ⟨u74, hinv⟩ := hinv
        obtain ⟨u75, hinv⟩ := hinv
        obtain ⟨u76, hinv⟩ := hinv
        obtain ⟨u77, hinv⟩ := hinv
        obtain ⟨u78, hinv⟩ := hinv
        obtain ⟨u79, hinv⟩ := hinv
        obtain ⟨u80, hinv⟩ := hinv
        obtain ⟨u81, hinv⟩ := hinv
        obtain ⟨u82, hinv⟩ := hinv
        obtain ⟨u83, hinv⟩ := hinv
        obtain ⟨u84, hinv⟩ := hinv
        obtain ⟨u85, hinv⟩ := hinv
        obtain ⟨u86, hinv⟩ := hinv
        obtain ⟨u87, hinv⟩ := hinv
        obtain ⟨u88, hinv⟩ := hinv
        obtain ⟨u89, hinv⟩ := hinv
        obtain ⟨u90, hinv⟩ := hinv
        obtain ⟨u91, hinv⟩ := hinv
        obtain ⟨u92, hinv⟩ := hinv
        obtain ⟨u93, hinv⟩ := hinv
        obtain ⟨u94, hinv⟩ := hinv
        obtain ⟨u95, hinv⟩ := hinv
        obtain ⟨u96, hinv⟩ := hinv
        obtain ⟨u97, hinv⟩ := hinv
        obtain ⟨u98, hinv⟩ := hinv
        obtain ⟨u99, hinv⟩ := hinv
        obtain ⟨u100, hinv⟩ := hinv
        obtain ⟨u101, hinv⟩ := hinv
        obtain ⟨u102, hinv⟩ := hinv
        obtain ⟨u103, hinv⟩ := hinv
        obtain ⟨u104, hinv⟩ := hinv
        obtain ⟨u105, hinv⟩ := hinv
        obtain ⟨u106, hinv⟩ := hinv
        obtain ⟨u107, hinv⟩ := hinv
        obtain ⟨u108, hinv⟩ := hinv
        obtain ⟨u109, hinv⟩ := hinv
        obtain ⟨u110, hinv⟩ := hinv
        obtain ⟨u111, hinv⟩ := hinv
        obtain ⟨u112, hinv⟩ := hinv
        obtain ⟨u113, hinv⟩ := hinv
        obtain ⟨u114, hinv⟩ := hinv
        obtain ⟨u115, hinv⟩ := hinv
        obtain ⟨u116, hinv⟩ := hinv
        obtain ⟨u117, hinv⟩ := hinv
        obtain ⟨u118, hinv⟩ := hinv
        obtain ⟨u119, hinv⟩ := hinv
        obtain ⟨u120, hinv⟩ := hinv
        obtain ⟨u121, hinv⟩ := hinv
        obtain ⟨u122, hinv⟩ := hinv
        obtain ⟨u123, hinv⟩ := hinv
        obtain ⟨u124, hinv⟩ := hinv
        obtain ⟨u125, hinv⟩ := hinv
        obtain ⟨u126, hinv⟩ := hinv
        obtain ⟨u127, hinv⟩ := hinv
        obtain ⟨u128, hinv⟩ := hinv
        obtain ⟨u129, hinv⟩ := hinv
        obtain ⟨u130, hinv⟩ := hinv
        obtain ⟨u131, hinv⟩ := hinv
        obtain ⟨u132, hinv⟩ := hinv
        obtain ⟨u133, hinv⟩ := hinv
        obtain ⟨u134, hinv⟩ := hinv
        obtain ⟨u135, hinv⟩ := hinv
        obtain ⟨u136, hinv⟩ := hinv
        obtain ⟨u137, hinv⟩ := hinv
        obtain ⟨u138, hinv⟩ := hinv
        obtain ⟨u139, hinv⟩ := hinv
        obtain ⟨u140, hinv⟩ := hinv
        obtain ⟨u141, hinv⟩ := hinv
        obtain ⟨u142, hinv⟩ := hinv
        obtain ⟨u143, hinv⟩ := hinv
        obtain ⟨u144, hinv⟩ := hinv
        obtain ⟨u145, hinv⟩ := hinv
        obtain ⟨u146, hinv⟩ := hinv
        obtain ⟨u147, hinv⟩ := hinv
        obtain ⟨u148, hinv⟩ := hinv
        obtain ⟨u149, hinv⟩ := hinv
        obtain ⟨u150, hinv⟩ := hinv
        obtain ⟨u151, hinv⟩ := hinv
        obtain ⟨u152, hinv⟩ := hinv
        obtain ⟨u153, hinv⟩ := hinv
        obtain ⟨u154, hinv⟩ := hinv
        obtain ⟨u155, hinv⟩ := hinv
        obtain ⟨u156, hinv⟩ := hinv
        obtain ⟨u157, hinv⟩ := hinv
        obtain ⟨u158, hinv⟩ := hinv
        obtain ⟨u159, hinv⟩ := hinv
        obtain ⟨u160, hinv⟩ := hinv
        obtain ⟨u161, hinv⟩ := hinv
        obtain ⟨u162, hinv⟩ := hinv
        obtain ⟨u163, hinv⟩ := hinv
        obtain ⟨u164, hinv⟩ := hinv
        obtain ⟨u165, hinv⟩ := hinv
        obtain ⟨u166, hinv⟩ := hinv
        obtain ⟨u167, hinv⟩ := hinv
        obtain ⟨u168, hinv⟩ := hinv
        obtain ⟨u169, hinv⟩ := hinv
        obtain ⟨u170, hinv⟩ := hinv
        obtain ⟨u171, hinv⟩ := hinv
        obtain ⟨u172, hinv⟩ := hinv
        obtain ⟨u173, hinv⟩ := hinv
        obtain ⟨u174, hinv⟩ := hinv
        obtain ⟨u175, hinv⟩ := hinv
        obtain ⟨u176, hinv⟩ := hinv
        obtain ⟨u177, hinv⟩ := hinv
        obtain ⟨u178, hinv⟩ := hinv
        obtain ⟨u179, hinv⟩ := hinv
        obtain ⟨u180, hinv⟩ := hinv
        obtain ⟨u181, hinv⟩ := hinv
        obtain ⟨u182, hinv⟩ := hinv
        obtain ⟨u183, hinv⟩ := hinv
        obtain ⟨u184, hinv⟩ := hinv
        obtain ⟨u185, hinv⟩ := hinv
        obtain ⟨u186, hinv⟩ := hinv
        obtain ⟨u187, hinv⟩ := hinv
        obtain ⟨u188, hinv⟩ := hinv
        obtain ⟨u189, hinv⟩ := hinv
        obtain ⟨u190, hinv⟩ := hinv
        obtain ⟨u191, hinv⟩ := hinv
        obtain ⟨u192, hinv⟩ := hinv
        obtain ⟨u193, hinv⟩ := hinv
        obtain ⟨u194, hinv⟩ := hinv
        obtain ⟨u195, hinv⟩ := hinv
        obtain ⟨u196, hinv⟩ := hinv
        obtain ⟨u197, hinv⟩ := hinv
        obtain ⟨u198, hinv⟩ := hinv
        obtain ⟨u199, hinv⟩ := hinv
        obtain ⟨u200, hinv⟩ := hinv
        obtain ⟨u201, hinv⟩ := hinv
        obtain ⟨u202, hinv⟩ := hinv
        obtain ⟨u203, hinv⟩ := hinv
        obtain ⟨u204, hinv⟩ := hinv
        obtain ⟨u205, hinv⟩ := hinv
        obtain ⟨u206, hinv⟩ := hinv
        obtain ⟨u207, hinv⟩ := hinv
        obtain ⟨u208, hinv⟩ := hinv
        obtain ⟨u209, hinv⟩ := hinv
        obtain ⟨u210, hinv⟩ := hinv
        obtain ⟨u211, hinv⟩ := hinv
        obtain ⟨u212, hinv⟩ := hinv
        obtain ⟨u213, hinv⟩ := hinv
        obtain ⟨u214, hinv⟩ := hinv
        obtain ⟨u215, hinv⟩ := hinv
        obtain ⟨⟨v7, frs7, rfl, A7⟩, ha⟩ := hinv
        subst ha
        go_wp2_with fail
        go_roundg (m - (k + 1))
        case measure => have := HGK.out; omega
        case rel => exact ⟨k + 1, frs7, by have := HGK.out; omega, by simp, A7, .inl (by omega)⟩
      · have hkm2 : k = m := by omega
        subst hkm2
        go_wp2_with fail
        go_meet
        case rel => exact ⟨frs, A1, HAA.out⟩
  case rest =>
  obtain ⟨frs, A1, hA⟩ := hcut
  obtain ⟨A, cap, hv15, O1⟩ := A1.out hm3 hws0 hA
  subst hv15
  have RBc := RBs.below A1.below RBs.lt
  have ibc := ib1.below A1.below ibl
  have z0 := ibc.cell 0
  have z1 := ibc.cell 1
  have z2 := ibc.cell 2
  have z3 := ibc.cell 3
  have z4 := ibc.cell 4
  have z5 := ibc.cell 5
  have z6 := ibc.cell 6
  have z7 := ibc.cell 7
  have z8 := ibc.cell 8
  simp [sinfoV] at z0 z1 z2 z3 z4 z5 z6 z7 z8
  have y0 := RBc.cell 0
  have y1 := RBc.cell 1
  have y2 := RBc.cell 2
  have y3 := RBc.cell 3
  have y4 := RBc.cell 4
  have y5 := RBc.cell 5
  have y6 := RBc.cell 6
  have y7 := RBc.cell 7
  have y8 := RBc.cell 8
  simp at y0 y1 y2 y3 y4 y5 y6 y7 y8
  have g0 := RBc.frozen 0
  have g1 := RBc.frozen 1
  have g2 := RBc.frozen 2
  have g3 := RBc.frozen 3
  have g4 := RBc.frozen 4
  have g5 := RBc.frozen 5
  have g6 := RBc.frozen 6
  have g7 := RBc.frozen 7
  have g8 := RBc.frozen 8
  have HO1 := Lib.hid O1
  have HRB := Lib.hid RBc
  clear A1 O1 RBc ibc hA A0 hhd hal
  go_wp2_with fail
  have O9 := HO1.out.fill (Nat.le_refl _) [(0, .int .i64 16), (1, .int .i64 4096), (2, .int .i64 0), (3, .int .i64 0), (4, .int .i64 rate), (5, .int .i64 ch), (6, .int .i64 bits), (7, .int .u64 nsam), (8, .slice none 0 0)] HRB.out
  refine bodyPost_ret (v := .tuple #[.agg #[.int .i64 16, .int .i64 4096, .int .i64 0, .int .i64 0, .int .i64 rate, .int .i64 ch, .int .i64 bits, .int .u64 nsam, .slice none 0 0], .slice A frs.length cap]) (by simp [results, Tryz.results7, go_sem, y0, y1, y2, y3, y4, y5, y6, y7, y8]) rfl ⟨rate, ch, bits, nsam, nch, A, cap, frs, rfl, hin, hbt, HCN.out, hnch, O9⟩
end Go.Proofs.YtlabcknoooaefaaGreatDoor
