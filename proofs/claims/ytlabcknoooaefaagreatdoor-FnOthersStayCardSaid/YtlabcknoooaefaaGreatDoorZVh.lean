/-
  WHAT THE LAWS GIVE THE ENCODER: one frame (givenOf's block 1).
-/
import Derived.Test.YtlabcknoooaefaaGreatDoorZVf
import Derived.Test.YtlabcknoooaefaaGreatDoorZEa
namespace Go.Proofs.YtlabcknoooaefaaGreatDoor
open Go.RowKit
set_option linter.unusedVariables false

noncomputable def blk7_1 : Code := (Tryz.f7.body.bind (findBlock 1)).getD .skip

set_option maxRecDepth 1000000 in
set_option maxHeartbeats 8000000 in
theorem frameG {s0 s1 s2 s4 s5 s6 s7 s8 s9 s10 s12 s14 s16 s17 s18 s19 s20 s21 s22 s23 s24 s25 s26 s27 s28 s29 s30 s31 s32 s33 s34 s35 s36 s37 s38 s39 s40 s41 s42 s43 s44 s45 s46 s47 s48 s49 s50 s52 s54 s55 s56 s57 s58 s59 s60 s61 s62 s63 s64 s65 s66 s67 s68 s69 s70 s71 s72 s73 s74 s75 s76 s77 s78 s79 s80 s81 s82 s83 s84 s85 s86 s87 s88 s89 s90 s91 s92 s93 s94 s95 s96 s97 s98 s99 s100 s101 s102 s103 s104 s105 s106 s107 s108 s109 s110 s111 s112 s113 s114 s115 s116 s117 s118 s119 s120 s121 s122 s123 s124 s125 s126 s127 s128 s129 s130 s131 s132 s133 s134 s135 s136 s137 s138 s139 s140 s141 s142 s143 s144 s145 s146 s147 s148 s149 s150 s151 s152 s153 s154 s155 s156 s157 s158 s159 s160 s161 s162 s163 s164 s165 s166 s167 s168 s169 s170 s171 s172 s173 s174 s175 s176 s177 s178 s179 s180 s181 s182 s183 s184 s185 s186 s187 s188 s189 s190 s191 s192 s193 s194 s195 s196 s197 s198 s199 s200 s201 s202 s203 s204 s205 s206 s207 s208 s209 s210 s211 s212 s213 s214 s215 s216 s217 s218 s219 s220 s221 s222 s223 s224 s225 s226 s227 s228 s229 s230 : Value} (ws : World) (Ak : Option Addr) (nk ck : Nat) (kl : List Int) (hk : nk ≤ 100 ∧ nk ≤ ck ∧ ck ≤ maxLen) (hrk : Reads ws ws.heap.size 1 Ak nk (u16V kl)) (hkl : ∀ v ∈ kl, 0 ≤ v ∧ v < 65536)
    (ib : Nat) (varies : Bool) (rate asg ch bits nsam : Int) (hrate : isRate rate) (hb5 : isBits bits) (hib : Bk ws ib 47 (sinfoV rate ch bits nsam)) (nch : Nat) (hasg : asg + 1 = (nch : Int)) (hnch : 1 ≤ nch ∧ nch ≤ 8) (hb ab hcap acap m k : Nat) (gs : List FrG) (hgl : gs.length = m) (hm : m ≤ 3) (hkm : k < m) (hcc : m ≤ hcap ∧ hcap ≤ maxLen) (hac : m ≤ acap ∧ acap ≤ maxLen)
    (hhr : Row ws hb 53 (gs.flatMap (FrG.head varies asg bits))) (har : Row ws ab 54 (gs.map FrG.chv)) (hfr : ∀ (q : Nat) (f : FrG), gs[q]? = some f → f.at nch ws)
    (v15 : Value) (frs : List FrI) (w0 : World) (A0 : GAll ws.heap.size v15 frs k nch bits ws w0) :
    blk7_1.wp Tryz.prog (Exit.then (fun a' w' => ∃ u15 u16 u17 u18 u19 u20 u21 u22 u23 u25 u26 u55 u56 u57 u58 u59 u60 u61 u62 u63 u64 u65 u66 u67 u68 u69 u70 u71 u72 u73 u74 u75 u76 u77 u78 u79 u80 u81 u82 u83 u84 u85 u86 u87 u88 u89 u90 u91 u92 u93 u94 u95 u96 u97 u98 u99 u100 u101 u102 u103 u104 u105 u106 u107 u108 u109 u110 u111 u112 u113 u114 u115 u116 u117 u118 u119 u120 u121 u122 u123 u124 u125 u126 u127 u128 u129 u130 u131 u132 u133 u134 u135 u136 u137 u138 u139 u140 u141 u142 u143 u144 u145 u146 u147 u148 u149 u150 u151 u152 u153 u154 u155 u156 u157 u158 u159 u160 u161 u162 u163 u164 u165 u166 u167 u168 u169 u170 u171 u172 u173 u174 u175 u176 u177 u178 u179 u180 u181 u182 u183 u184 u185 u186 u187 u188 u189 u190 u191 u192 u193 u194 u195 u196 u197 u198 u199 u200 u201 u202 u203 u204 u205 u206 u207 u208 u209 u210 u211 u212 u213 u214 u215 : Value, (∃ (v15' : Value) (frs' : List FrI), u15 = v15' ∧ GAll ws.heap.size v15' frs' (k + 1) nch bits ws w') ∧ a' = ⟨#[s0, s1, s2, .slice Ak nk ck, s4, s5, s6, s7, s8, s9, s10, .pointer (some ⟨ib, 0, none⟩), s12, .slice (some ⟨ab, 0, none⟩) m acap, s14, u15, u16, u17, u18, u19, u20, u21, u22, u23, s24, u25, u26, s27, s28, s29, s30, s31, s32, s33, s34, s35, s36, s37, s38, s39, s40, s41, s42, s43, s44, s45, s46, s47, s48, s49, s50, .slice (some ⟨hb, 0, none⟩) m hcap, s52, .int .i64 (k : Int), s54, u55, u56, u57, u58, u59, u60, u61, u62, u63, u64, u65, u66, u67, u68, u69, u70, u71, u72, u73, u74, u75, u76, u77, u78, u79, u80, u81, u82, u83, u84, u85, u86, u87, u88, u89, u90, u91, u92, u93, u94, u95, u96, u97, u98, u99, u100, u101, u102, u103, u104, u105, u106, u107, u108, u109, u110, u111, u112, u113, u114, u115, u116, u117, u118, u119, u120, u121, u122, u123, u124, u125, u126, u127, u128, u129, u130, u131, u132, u133, u134, u135, u136, u137, u138, u139, u140, u141, u142, u143, u144, u145, u146, u147, u148, u149, u150, u151, u152, u153, u154, u155, u156, u157, u158, u159, u160, u161, u162, u163, u164, u165, u166, u167, u168, u169, u170, u171, u172, u173, u174, u175, u176, u177, u178, u179, u180, u181, u182, u183, u184, u185, u186, u187, u188, u189, u190, u191, u192, u193, u194, u195, u196, u197, u198, u199, u200, u201, u202, u203, u204, u205, u206, u207, u208, u209, u210, u211, u212, u213, u214, u215, s216, s217, s218, s219, s220, s221, s222, s223, s224, s225, s226, s227, s228, s229, s230], []⟩) NoQ) ⟨#[s0, s1, s2, .slice Ak nk ck, s4, s5, s6, s7, s8, s9, s10, .pointer (some ⟨ib, 0, none⟩), s12, .slice (some ⟨ab, 0, none⟩) m acap, s14, v15, s16, s17, s18, s19, s20, s21, s22, s23, s24, s25, s26, s27, s28, s29, s30, s31, s32, s33, s34, s35, s36, s37, s38, s39, s40, s41, s42, s43, s44, s45, s46, s47, s48, s49, s50, .slice (some ⟨hb, 0, none⟩) m hcap, s52, .int .i64 (k : Int), s54, s55, s56, s57, s58, s59, s60, s61, s62, s63, s64, s65, s66, s67, s68, s69, s70, s71, s72, s73, s74, s75, s76, s77, s78, s79, s80, s81, s82, s83, s84, s85, s86, s87, s88, s89, s90, s91, s92, s93, s94, s95, s96, s97, s98, s99, s100, s101, s102, s103, s104, s105, s106, s107, s108, s109, s110, s111, s112, s113, s114, s115, s116, s117, s118, s119, s120, s121, s122, s123, s124, s125, s126, s127, s128, s129, s130, s131, s132, s133, s134, s135, s136, s137, s138, s139, s140, s141, s142, s143, s144, s145, s146, s147, s148, s149, s150, s151, s152, s153, s154, s155, s156, s157, s158, s159, s160, s161, s162, s163, s164, s165, s166, s167, s168, s169, s170, s171, s172, s173, s174, s175, s176, s177, s178, s179, s180, s181, s182, s183, s184, s185, s186, s187, s188, s189, s190, s191, s192, s193, s194, s195, s196, s197, s198, s199, s200, s201, s202, s203, s204, s205, s206, s207, s208, s209, s210, s211, s212, s213, s214, s215, s216, s217, s218, s219, s220, s221, s222, s223, s224, s225, s226, s227, s228, s229, s230], []⟩ w0 := by
  obtain ⟨g, hg⟩ : ∃ g, gs[k]? = some g := ⟨gs[k]'(by omega), by simp [show k < gs.length by omega]⟩
  have hgat := hfr k g hg
  have tr := fun (p : Addr) (hp : p.block < ws.heap.size) => A0.below.cell hp
  have hl := hhr.lt
  have al := har.lt
  have il := hib.lt
  have x0 := (tr ⟨hb, k * 6 + 0, none⟩ hl).trans (headsAt hhr hg 0 _ rfl)
  have x1 := (tr ⟨hb, k * 6 + 1, none⟩ hl).trans (headsAt hhr hg 1 _ rfl)
  have x2 := (tr ⟨hb, k * 6 + 2, none⟩ hl).trans (headsAt hhr hg 2 _ rfl)
  have x3 := (tr ⟨hb, k * 6 + 3, none⟩ hl).trans (headsAt hhr hg 3 _ rfl)
  have x4 := (tr ⟨hb, k * 6 + 4, none⟩ hl).trans (headsAt hhr hg 4 _ rfl)
  have x5 := (tr ⟨hb, k * 6 + 5, none⟩ hl).trans (headsAt hhr hg 5 _ rfl)
  simp only [Nat.add_zero] at x0
  have y0 : w0.cell? ⟨ab, k, none⟩ = some (.slice (some ⟨g.cb, 0, none⟩) nch g.ccap) := (tr ⟨ab, k, none⟩ al).trans (har.cell k _ (by simp [hg, FrG.chv, hgat.nch]))
  have i4 : w0.cell? ⟨ib, 4, none⟩ = some (.int .i64 rate) := (tr ⟨ib, 4, none⟩ il).trans (by rw [hib.cell]; rfl)
  have i6 : w0.cell? ⟨ib, 6, none⟩ = some (.int .i64 bits) := (tr ⟨ib, 6, none⟩ il).trans (by rw [hib.cell]; rfl)
  have hBw := A0.hB
  have hil : ib < w0.heap.size := by omega
  have hal : ab < w0.heap.size := by omega
  have hchs : ChsAt g.cb g.chs g.size w0 := by
    have h1 := hgat.chs
    exact ⟨h1.row.below A0.below h1.row.lt, fun q c hq => ⟨⟨(h1.chs q c hq).1.row.below A0.below (h1.chs q c hq).1.row.lt, (h1.chs q c hq).1.cap⟩, (h1.chs q c hq).2⟩⟩
  have HCHS := Lib.hid hchs
  have hgcap := hgat.cap
  rw [hgat.nch] at hgcap
  have HGN := Lib.hid hgat.nch
  have hgs := hgat.size
  have hrk0 : Reads w0 w0.heap.size 1 Ak nk (u16V kl) := (hrk.below A0.below).more hBw
  have HRK := Lib.hid hrk0
  have HKL := Lib.hid hkl
  have HA0 := Lib.hid A0
  clear tr hhr har hfr hg hgat hib hgl hchs hrk hrk0 hkl A0 hl al il
  unfold maxLen at hcc hac
  refine wp_letter ?_
  intro J K' hJ hK
  conv => arg 2; whnf
  go_upto_block 2 with fail
  have G0 := frStart w0 (.cells #[.bool varies, .int .i64 (g.size : Int), .int .i64 g.rt, .int .i64 asg, .int .i64 bits, .int .u64 g.num] 53) (.bool varies) (.int .i64 (g.size : Int)) (.int .i64 rate) (.int .i64 asg) (.int .i64 bits) (.int .u64 0) g.size
  go_cut [] from 74 to 211 (fun wc => ∃ (v6 : Value) (subs : List SubI), GFr w0.heap.size (w0.heap.size + 1) (.bool varies) (.int .i64 (g.size : Int)) (.int .i64 rate) (.int .i64 asg) (.int .i64 bits) (.int .u64 0) v6 subs nch g.size w0 wc)
  case first =>
    clear x0 x1 x2 x3 x4 x5 y0 i4
    refine wp_use ?_ (fun _ _ h => h)
    go_wp2_with fail
    go_loopg [74] nch (fun q i wr => ∃ (c : Nat) (v6 : Value) (subs : List SubI), q + c = nch ∧ i = .int .i64 (c : Int) ∧ GFr w0.heap.size (w0.heap.size + 1) (.bool varies) (.int .i64 (g.size : Int)) (.int .i64 rate) (.int .i64 asg) (.int .i64 bits) (.int .u64 0) v6 subs c g.size w0 wr)
    case atStart => exact ⟨0, _, [], by omega, rfl, G0⟩
    case round =>
      obtain ⟨c, v6, subs, hgk, rfl, G1⟩ := hrel
      have HGK := Lib.hid hgk
      have hcn : c ≤ nch := by omega
      clear hgk G0
      by_cases hlt : c < nch
      · go_upto_block 3 with fail
        refine wp_use (channelG w0 Ak nk ck kl hk HRK.out HKL.out ib bits hb5 hil i6 k c nch g.cb g.ccap (by omega) ⟨hlt, hnch.2⟩ hgcap g.chs g.size hgs HCHS.out HGN.out (w0.heap.size + 1) (.bool varies) (.int .i64 (g.size : Int)) (.int .i64 rate) (.int .i64 asg) (.int .i64 bits) (.int .u64 0) v6 subs _ G1) ?_
        clear G1
        intro a7 w7 hinv
        obtain ⟨u19, hinv⟩ := hinv
        obtain ⟨u20, hinv⟩ := hinv
        obtain ⟨u21, hinv⟩ := hinv
        obtain ⟨u22, hinv⟩ := hinv
        obtain ⟨u23, hinv⟩ := hinv
        obtain ⟨u25, hinv⟩ := hinv
        obtain ⟨u26, hinv⟩ := hinv
        obtain ⟨u76, hinv⟩ := hinv
        obtain ⟨u77, hinv⟩ := hinv
        obtain ⟨u78, hinv⟩ := hinv
        obtain ⟨u79, hinv⟩ := hinv
        obtain ⟨u80, hinv⟩ := hinv
        obtain ⟨u81, hinv⟩ := hinv
        obtain ⟨u82, hinv⟩ := hinv
        obtain ⟨u83, hinv⟩ := hinv
        obtain ⟨u84, hinv⟩ := hinv
        obtain ⟨u85, hinv⟩ := hinv
        obtain ⟨u86, hinv⟩ := hinv
        obtain ⟨u87, hinv⟩ := hinv
        obtain ⟨u88, hinv⟩ := hinv
        obtain ⟨u89, hinv⟩ := hinv
        obtain ⟨u90, hinv⟩ := hinv
        obtain ⟨u91, hinv⟩ := hinv
        obtain ⟨u92, hinv⟩ := hinv
        obtain ⟨u93, hinv⟩ := hinv
        obtain ⟨u94, hinv⟩ := hinv
        obtain ⟨u95, hinv⟩ := hinv
        obtain ⟨u96, hinv⟩ := hinv
        obtain ⟨u97, hinv⟩ := hinv
        obtain ⟨u98, hinv⟩ := hinv
        obtain ⟨u99, hinv⟩ := hinv
        obtain ⟨u100, hinv⟩ := hinv
        obtain ⟨u101, hinv⟩ := hinv
        obtain ⟨u102, hinv⟩ := hinv
        obtain ⟨u103, hinv⟩ := hinv
        obtain ⟨u104, hinv⟩ := hinv
        obtain ⟨u105, hinv⟩ := hinv
        obtain ⟨u106, hinv⟩ := hinv
        obtain ⟨u107, hinv⟩ := hinv
        obtain ⟨u108, hinv⟩ := hinv
        obtain ⟨u109, hinv⟩ := hinv
        obtain ⟨u110, hinv⟩ := hinv
        obtain ⟨u111, hinv⟩ := hinv
        obtain ⟨u112, hinv⟩ := hinv
        obtain ⟨u113, hinv⟩ := hinv
        obtain ⟨u114, hinv⟩ := hinv
        obtain ⟨u115, hinv⟩ := hinv
        obtain ⟨u116, hinv⟩ := hinv
        obtain ⟨u117, hinv⟩ := hinv
        obtain ⟨u118, hinv⟩ := hinv
        obtain ⟨u119, hinv⟩ := hinv
        obtain ⟨u120, hinv⟩ := hinv
        obtain ⟨u121, hinv⟩ := hinv
        obtain ⟨u122, hinv⟩ := hinv
        obtain ⟨u123, hinv⟩ := hinv
        obtain ⟨u124, hinv⟩ := hinv
        obtain ⟨u125, hinv⟩ := hinv
        obtain ⟨u126, hinv⟩ := hinv
        obtain ⟨u127, hinv⟩ := hinv
        obtain ⟨u128, hinv⟩ := hinv
        obtain ⟨u129, hinv⟩ := hinv
        obtain ⟨u130, hinv⟩ := hinv
        obtain ⟨u131, hinv⟩ := hinv
        obtain ⟨u132, hinv⟩ := hinv
        obtain ⟨u133, hinv⟩ := hinv
        obtain ⟨u134, hinv⟩ := hinv
        obtain ⟨u135, hinv⟩ := hinv
        obtain ⟨u136, hinv⟩ := hinv
        obtain ⟨u137, hinv⟩ := hinv
        obtain ⟨u138, hinv⟩ := hinv
        obtain ⟨u139, hinv⟩ := hinv
        obtain ⟨u140, hinv⟩ := hinv
        obtain ⟨u141, hinv⟩ := hinv
        obtain ⟨u142, hinv⟩ := hinv
        obtain ⟨u143, hinv⟩ := hinv
        obtain ⟨u144, hinv⟩ := hinv
        obtain ⟨u145, hinv⟩ := hinv
        obtain ⟨u146, hinv⟩ := hinv
        obtain ⟨u147, hinv⟩ := hinv
        obtain ⟨u148, hinv⟩ := hinv
        obtain ⟨u149, hinv⟩ := hinv
        obtain ⟨u150, hinv⟩ := hinv
        obtain ⟨u151, hinv⟩ := hinv
        obtain ⟨u152, hinv⟩ := hinv
        obtain ⟨u153, hinv⟩ := hinv
        obtain ⟨u154, hinv⟩ := hinv
        obtain ⟨u155, hinv⟩ := hinv
        obtain ⟨u156, hinv⟩ := hinv
        obtain ⟨u157, hinv⟩ := hinv
        obtain ⟨u158, hinv⟩ := hinv
        obtain ⟨u159, hinv⟩ := hinv
        obtain ⟨u160, hinv⟩ := hinv
        obtain ⟨u161, hinv⟩ := hinv
        obtain ⟨u162, hinv⟩ := hinv
        obtain ⟨u163, hinv⟩ := hinv
        obtain ⟨u164, hinv⟩ := hinv
        obtain ⟨u165, hinv⟩ := hinv
        obtain ⟨u166, hinv⟩ := hinv
        obtain ⟨u167, hinv⟩ := hinv
        obtain ⟨u168, hinv⟩ := hinv
        obtain ⟨u169, hinv⟩ := hinv
        obtain ⟨u170, hinv⟩ := hinv
        obtain ⟨u171, hinv⟩ := hinv
        obtain ⟨u172, hinv⟩ := hinv
        obtain ⟨u173, hinv⟩ := hinv
        obtain ⟨u174, hinv⟩ := hinv
        obtain ⟨u175, hinv⟩ := hinv
        obtain ⟨u176, hinv⟩ := hinv
        obtain ⟨u177, hinv⟩ := hinv
        obtain ⟨u178, hinv⟩ := hinv
        obtain ⟨u179, hinv⟩ := hinv
        obtain ⟨u180, hinv⟩ := hinv
        obtain ⟨u181, hinv⟩ := hinv
        obtain ⟨u182, hinv⟩ := hinv
        obtain ⟨u183, hinv⟩ := hinv
        obtain ⟨u184, hinv⟩ := hinv
        obtain ⟨u185, hinv⟩ := hinv
        obtain ⟨u186, hinv⟩ := hinv
        obtain ⟨u187, hinv⟩ := hinv
        obtain ⟨u188, hinv⟩ := hinv
        obtain ⟨u189, hinv⟩ := hinv
        obtain ⟨u190, hinv⟩ := hinv
        obtain ⟨u191, hinv⟩ := hinv
        obtain ⟨u192, hinv⟩ := hinv
        obtain ⟨u193, hinv⟩ := hinv
        obtain ⟨u194, hinv⟩ := hinv
        obtain ⟨u195, hinv⟩ := hinv
        obtain ⟨u196, hinv⟩ := hinv
        obtain ⟨u197, hinv⟩ := hinv
        obtain ⟨u198, hinv⟩ := hinv
        obtain ⟨u199, hinv⟩ := hinv
        obtain ⟨u200, hinv⟩ := hinv
        obtain ⟨u201, hinv⟩ := hinv
        obtain ⟨u202, hinv⟩ := hinv
        obtain ⟨u203, hinv⟩ := hinv
        obtain ⟨u204, hinv⟩ := hinv
        obtain ⟨u205, hinv⟩ := hinv
        obtain ⟨u206, hinv⟩ := hinv
        obtain ⟨u207, hinv⟩ := hinv
        obtain ⟨u208, hinv⟩ := hinv
        obtain ⟨u209, hinv⟩ := hinv
        obtain ⟨u210, hinv⟩ := hinv
        obtain ⟨⟨v67, subs7, G7⟩, ha⟩ := hinv
        subst ha
        go_wp2_with fail
        go_roundg (nch - (c + 1))
        case measure => have := HGK.out; omega
        case rel => exact ⟨c + 1, v67, subs7, by have := HGK.out; omega, by simp, G7⟩
      · have hcn2 : c = nch := by omega
        subst hcn2
        go_wp2_with fail
        go_meet
        case rel => exact ⟨v6, subs, G1⟩
  case rest =>
  obtain ⟨v6, subs, G1⟩ := hcut
  clear G0 x0 x1 x2 x3 x4 x5 y0 i4 i6
  obtain ⟨sb, scap, hv6, _⟩ := ownsRow_some G1.row hnch.1
  subst hv6
  have z0 := G1.box.cell 0
  have z1 := G1.box.cell 1
  have z2 := G1.box.cell 2
  have z3 := G1.box.cell 3
  have z4 := G1.box.cell 4
  have z5 := G1.box.cell 5
  have z6 := G1.box.cell 6
  simp at z0 z1 z2 z3 z4 z5 z6
  have AC := HA0.out.same G1.below
  have hBc := AC.hB
  have HAC := Lib.hid AC
  have HG1 := Lib.hid G1
  clear AC G1
  obtain ⟨i37, hi37, hz370, hz371, hz372⟩ := info_parts info37
  go_wp2_with (refine wpList_append_any _ rfl (.tmp 212) (.tmp 214) 29 rfl ws.heap.size 37 i37 (.agg #[.bool false, .int .i64 0, .int .i64 0, .int .i64 0, .int .i64 0, .int .u64 0, .slice none 0 0]) 7 72 Tryz.underlying29 hi37 hz370 hz371 hz372 rfl (by decide) v15 k (frs.flatMap FrI.cells) rfl (ownsRow_below HAC.out.row ((Below.refl _ wc).alloc (Nat.le_refl _) _) (fun q hq => (HAC.out.row.lt q hq).2)) _ (some ⟨wc.heap.size, 0, none⟩) 1 1 [.bool varies, .int .i64 (g.size : Int), .int .i64 rate, .int .i64 asg, .int .i64 bits, .int .u64 0, .slice (some ⟨sb, 0, none⟩) nch scap] rfl (readsBlk wc #[.bool varies, .int .i64 (g.size : Int), .int .i64 rate, .int .i64 asg, .int .i64 bits, .int .u64 0, .slice (some ⟨sb, 0, none⟩) nch scap] 37 _ 7 rfl rfl) (fun u hu => by simp at hu; rcases hu with rfl | rfl | rfl | rfl | rfl | rfl | rfl <;> rfl) (by unfold maxLen; omega) (by omega) (by simp; omega) ?_; intro v9 w9 hown9 hg9 hat9; obtain ⟨frs9, A9⟩ := HA0.out.step HG1.out hnch.1 hgs hrate hasg _ hg9 hown9; have HA9 := Lib.hid A9; clear A9 hown9 hg9 hat9)
  go_meet
  case rel => exact ⟨_, frs9, rfl, HA9.out⟩
end Go.Proofs.YtlabcknoooaefaaGreatDoor
