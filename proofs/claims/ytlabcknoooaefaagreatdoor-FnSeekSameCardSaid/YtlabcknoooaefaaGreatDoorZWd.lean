/-
  A FRAME WRITTEN: Encoder.WriteFrame: the walk.
-/
import Derived.Test.YtlabcknoooaefaaGreatDoorZFa
import Derived.Deep.DeepCutAuto
namespace Go.Proofs.YtlabcknoooaefaaGreatDoor
open Go.RowKit
set_option linter.unusedVariables false

/-- Between WriteFrame's checks and its header. -/
structure WMid (s : Sk) (B : Nat) (out0 : List UInt8) (e : EncS) (eb ib : Nat) (i : InfoD) (bl : Value) (h : HdrD) (S : List SubL) (fb lb lcap : Nat) (tl : List Value) (m : MdS) (d tb mw r : Nat) (w0 : World) (z : Nat) (w : World) : Prop where
  mem : Mem s out0 e eb ib i bl h S fb lb lcap tl m w
  dig : D16 d tb 0 w
  mul : Multi mw r [.iface 241 (.pointer (some ⟨d, 0, none⟩)), .iface s.ty s.val] w
  keep : Keep B (fun k => s.own k ∨ k = eb ∨ k = e.md ∨ k = fb) w0 w
  size : w.heap.size = z

theorem WMid.encPut {s : Sk} {B : Nat} {out0 : List UInt8} {e e' : EncS} {eb ib : Nat} {i : InfoD} {bl : Value} {h : HdrD} {S : List SubL} {fb lb lcap : Nat} {tl : List Value} {m : MdS} {d tb mw r : Nat} {w0 : World} {z : Nat} {w : World} (hs : s.Ok Tryz.prog 429 B)
    (M : WMid s B out0 e eb ib i bl h S fb lb lcap tl m d tb mw r w0 z w) (hn : ¬ s.own eb) (h0 : 0 < eb) (hB : B ≤ eb) (k : Nat) (v : Value) (he : (e.cells s).setIfInBounds k v = e'.cells s) (hsb : e'.sb = e.sb) (hmd : e'.md = e.md) :
    WMid s B out0 e' eb ib i bl h S fb lb lcap tl m d tb mw r w0 z (w.setCell ⟨eb, k, none⟩ v) := by
  refine ⟨M.mem.encPut hs hn h0 k v he hsb hmd, M.dig.far M.mem.enc (by decide) k v, M.mul.farB M.mem.enc (by decide) k v, ?_, by simpa [World.setCell] using M.size⟩
  rw [hmd]
  exact M.keep.setCell hB (Or.inr (Or.inl rfl)) _

theorem WMid.num {s : Sk} {B : Nat} {out0 : List UInt8} {e : EncS} {eb ib : Nat} {i : InfoD} {bl : Value} {fix : Bool} {z0 rate ch bps num : Int} {S : List SubL} {fb lb lcap : Nat} {tl : List Value} {m : MdS} {d tb mw r : Nat} {w0 : World} {z : Nat} {w : World} (hs : s.Ok Tryz.prog 429 B)
    (M : WMid s B out0 e eb ib i bl ⟨fix, z0, rate, ch, bps, num⟩ S fb lb lcap tl m d tb mw r w0 z w) (hn : ¬ s.own fb) (h0 : 0 < fb) (hB : B ≤ fb) (v : Int) :
    WMid s B out0 e eb ib i bl ⟨fix, z0, rate, ch, bps, v⟩ S fb lb lcap tl m d tb mw r w0 z (w.setCell ⟨fb, 5, none⟩ (.int .u64 v)) :=
  ⟨M.mem.num hs hn h0 v, M.dig.far M.mem.fr.blk (by decide) 5 _, M.mul.farB M.mem.fr.blk (by decide) 5 _, M.keep.setCell hB (Or.inr (Or.inr (Or.inr rfl))) _, by simpa [World.setCell] using M.size⟩

theorem methSum16 (a : Addr) (w : World) : (method 429 241 (.pointer (some a)) "Sum16").run Tryz.prog w = .ok (191, .pointer (some a)) w := by kernel_rfl

/-- What is left behind a frame. -/
structure WPost (s : Sk) (B : Nat) (out0 : List UInt8) (e : EncS) (eb : Nat) (h : HdrD) (S : List SubL) (fb n : Nat) (w w' : World) : Prop where
  inv : s.inv (out0 ++ frBytes { h with num := e.cur } (S.map (·.d))) w'
  enc : Bk w' eb 111 ((e.next h.fix n).cells s)
  md : ∃ m' : MdS, m'.ok ∧ m'.fit ∧ Bk w' e.md 170 m'.cells
  keep : Keep B (fun k => s.own k ∨ k = eb ∨ k = e.md ∨ k = fb) w w'

theorem frBody_len (h : HdrD) (ds : List SubD) (hd : ∀ d ∈ ds, d.ok) (hb : h.bps.toNat ≤ 32) : (frBody h ds).length ≤ 82 + ds.length * 1099511638000 := by
  unfold frBody
  have h1 := BS.subs_grow (s := ⟨hdBytes h, 0, 0⟩) (by simp [BS.ok]) ds hd h.bps.toNat hb
  have h2 := BS.align_grow (BS.subs_ok (s := ⟨hdBytes h, 0, 0⟩) (by simp [BS.ok]) ds h.bps.toNat)
  have h3 := hdBody_len h
  have h4 : (hdBytes h).length = (hdBody h).length + 1 := by simp [hdBytes]
  generalize (BS.subs ⟨hdBytes h, 0, 0⟩ ds h.bps.toNat) = x at *
  simp only at h1
  omega

set_option maxRecDepth 100000 in
set_option maxHeartbeats 8000000 in
theorem writeFrame (s : Sk) (B : Nat) (hs : s.Ok Tryz.prog 429 B) (hB0 : 0 < B) (out0 : List UInt8) (e : EncS) (eb ib : Nat) (i : InfoD) (bl : Value) (fix : Bool) (rate ch bps num : Int) (S : List SubL) (fb lb lcap : Nat) (tl : List Value) (n : Nat) (m : MdS) (w : World)
    (hty : s.ty = 65 ∨ s.ty = 87) (hp : WPre s B out0 e eb ib i bl ⟨fix, n, rate, ch, bps, num⟩ S fb lb lcap tl n m w) :
    Calls Tryz.prog 17 #[.pointer (some ⟨eb, 0, none⟩), .pointer (some ⟨fb, 0, none⟩)] w fun x w' => x = .returned .nilIface ∧ WPost s B out0 e eb ⟨fix, n, rate, ch, bps, num⟩ S fb n w w' := by
  obtain ⟨M, hmok, hmfit, heok, hsubs, hnch, hch, hz, hnr, hrate, hbps, hana, hcap, hbB, hnown, hlow⟩ := hp
  simp only at hnch hch hrate hbps
  obtain ⟨e0, e1, e2, e3, e6, e7, e8, e9⟩ := encCells M.enc
  have t0 := M.str.cell 0
  simp at t0
  have i5 := (infoCells M.info).2.2.2.2.2.1
  rw [hnch.2] at i5
  obtain ⟨f0, f1, f2, f3, f4, f5, f6⟩ := frCells M.fr
  have hcp := M.fr.cap
  have hS : 0 < S.length ∧ S.length ≤ 8 := by omega
  obtain ⟨s0, hs0⟩ : ∃ t, S[0]? = some t := ⟨S[0], by simp [hS.1]⟩
  have l0 : w.cell? ⟨lb, 0, none⟩ = some (.pointer (some ⟨s0.sb, 0, none⟩)) := M.fr.row.cell 0 _ (by simp [hs0])
  have k9 : w.cell? ⟨s0.sb, 9, none⟩ = some (.int .i64 n) := by
    rw [(M.fr.subs 0 s0 hs0).sub.cell 9, ← (hsubs 0 s0 hs0).2]
    rfl
  have HNC := Lib.hid hnch
  have HN := Lib.hid hnown
  have HA := Lib.hid hana
  clear hnch hz hnown hana
  go_enter_defers Tryz.func17, Tryz.ntmps17
  go_wp2_with fail
  go_loop [55] (fun kv => ∃ k : Nat, k ≤ S.length ∧ kv = .int .i64 (k : Int)) (fun kv => 256 - (intOf kv).toNat)
  case atStart => exact ⟨0, by omega, rfl⟩
  case round =>
    obtain ⟨k, hk, rfl⟩ := hrel
    by_cases hkl : k < S.length
    · obtain ⟨t, ht⟩ : ∃ t, S[k]? = some t := ⟨S[k], by simp [hkl]⟩
      have lk : w.cell? ⟨lb, k, none⟩ = some (.pointer (some ⟨t.sb, 0, none⟩)) := M.fr.row.cell k _ (by simp [ht])
      have k8 : w.cell? ⟨t.sb, 8, none⟩ = some (.slice (some ⟨t.mb, 0, none⟩) n t.scap) := by
        rw [(M.fr.subs k t ht).sub.cell 8, ← (hsubs k t ht).2]
        rfl
      go_wp2_with fail
      go_round
      case rel => exact ⟨k + 1, by omega, by simp⟩
      case measure => simp [intOf] <;> omega
    · go_wp2_with fail
      have hcnt := count ch hch w M.tab
      rw [show ch + 1 = (S.length : Int) from HNC.out.1.symm] at hcnt
      refine hcnt.mono ?_
      rintro x w' ⟨rfl, rfl⟩
      clear hcnt
      go_wp2_with fail
      refine (newSum16 _).mono ?_
      rintro x w1 ⟨rfl, hw1⟩
      have hb1 : Below w.heap.size w w1 := by
        rw [← hw1]
        exact ((Below.refl _ w).alloc (Nat.le_refl _) _).alloc (by simp) _
      have hd1 : D16 (w.heap.size + 1) w.heap.size 0 w1 := by
        rw [← hw1]
        exact ⟨Bk.newAt _ 243 _ _ (by simp), (Bk.newAt _ 245 _ _ rfl).alloc _, by omega⟩
      have hsz1 : w1.heap.size = w.heap.size + 2 := by rw [← hw1]; simp
      clear hw1
      have M1 := M.below hs hb1
      obtain ⟨e0, e1, e2, e3, e6, e7, e8, e9⟩ := encCells M1.enc
      go_wp2_with fail
      refine (multi2 _ _ s.ty s.val hty _ (Bk.newAt _ 101 _ _ hsz1.symm)).mono ?_
      rintro x w2 ⟨mw, r, rfl, hmul, hmw, hmr, hb2⟩
      have hb2' : Below w1.heap.size w1 w2 := ((Below.refl _ w1).alloc (Nat.le_refl _) _).trans (hb2.mono (by simp))
      have M2 := M1.below hs hb2'
      have hd2 : D16 (w.heap.size + 1) w.heap.size 0 w2 := ⟨hd1.blk.below hb2' hd1.blk.lt, hd1.tab.below hb2' hd1.tab.lt, hd1.rng⟩
      have hbw2 : Below w.heap.size w w2 := hb1.trans (hb2'.mono hb1.size)
      have hmw' : w.heap.size ≤ mw := by simp at hmw; omega
      have hmr' : w.heap.size ≤ r := by simp at hmr; omega
      have hsz2 : w1.heap.size ≤ w2.heap.size := hb2'.size
      clear hb1 hb2 hb2' hmw hmr M1 e0 e1 e2 e3 e6 e7 e8 e9 hd1
      obtain ⟨e0, e1, e2, e3, e6, e7, e8, e9⟩ := encCells M2.enc
      obtain ⟨f0, f1, f2, f3, f4, f5, f6⟩ := frCells M2.fr
      have z5 := M2.fr.blk.frozen 5
      have hne : eb ≠ fb := Bk.ne M2.enc M2.fr.blk (by decide)
      have rns := heok.nsam
      have rcu := heok.cur
      have nfb := HN.out.2.2.2.2.1
      have neb := HN.out.1
      have nmd := HN.out.2.2.2.1
      have pfb : 0 < fb := by omega
      have peb : 0 < eb := by omega
      have pmd : 0 < e.md := by omega
      have Q0 : WMid s B out0 e eb ib i bl ⟨fix, n, rate, ch, bps, num⟩ S fb lb lcap tl m (w.heap.size + 1) w.heap.size mw r w w2.heap.size w2 := ⟨M2, hd2, hmul, (Keep.refl B _ w).same hbw2 hbB, rfl⟩
      have Q1 := Q0.num hs nfb pfb hlow.2.2 e.cur
      clear M2 hd2 hmul Q0
      go_upto_if 97 with fail
      go_cut [] from 22 (fun wc => WMid s B out0 { e with cur := if fix then e.cur + 1 else e.cur + n } eb ib i bl ⟨fix, n, rate, ch, bps, e.cur⟩ S fb lb lcap tl m (w.heap.size + 1) w.heap.size mw r w w2.heap.size wc)
      case first => as_aux_lemma =>
        have z8 := Q1.mem.enc.frozen 8
        obtain ⟨e0, e1, e2, e3, e6, e7, e8, e9⟩ := encCells Q1.mem.enc
        cases fix
        · go_wp2_with fail
          go_meet
          case rel => exact Q1.encPut hs neb peb hlow.1 8 (.int .u64 (e.cur + n)) rfl rfl rfl
        · go_wp2_with fail
          go_meet
          case rel => exact Q1.encPut hs neb peb hlow.1 8 (.int .u64 (e.cur + 1)) rfl rfl rfl
      case rest => as_aux_lemma =>
      have Q2 := hcut
      clear hcut Q1
      obtain ⟨e0, e1, e2, e3, e6, e7, e8, e9⟩ := encCells Q2.mem.enc
      have z7 := Q2.mem.enc.frozen 7
      simp only at e0 e1 e2 e3 e6 e7 e8 e9
      go_upto_region 21 with fail
      have Q3 := Q2.encPut (e' := { e with cur := if fix then e.cur + 1 else e.cur + n, nsam := e.nsam + n }) hs neb peb hlow.1 7 (.int .u64 (e.nsam + n)) rfl rfl rfl
      clear Q2
      go_cut [137] from 22 (fun v wc => v = .bool (decide (e.bmin = 0 ∨ (n : Int) < e.bmin)) ∧ WMid s B out0 { e with cur := if fix then e.cur + 1 else e.cur + n, nsam := e.nsam + n } eb ib i bl ⟨fix, n, rate, ch, bps, e.cur⟩ S fb lb lcap tl m (w.heap.size + 1) w.heap.size mw r w w2.heap.size wc)
      case first => as_aux_lemma =>
        clear e0 e1 e2 e3 e6 e7 e8 e9 z7
        obtain ⟨e0, e1, e2, e3, e6, e7, e8, e9⟩ := encCells Q3.mem.enc
        simp only at e0 e1 e2 e3 e6 e7 e8 e9
        by_cases hb0 : e.bmin = 0
        · rw [hb0] at e2
          go_wp2_with fail
          go_meet
          case rel => exact ⟨by simp [hb0], Q3⟩
        · have hb1 : (e.bmin == 0) = false := by simpa using hb0
          go_wp2_with fail
          go_meet
          case rel => exact ⟨by simp [hb0], Q3⟩
      case rest => as_aux_lemma =>
      obtain ⟨c1, hc1⟩ : ∃ c1, c1 = decide (e.bmin = 0 ∨ (n : Int) < e.bmin) := ⟨_, rfl⟩
      rw [← hc1] at hcut
      have HC1 := Lib.hid hc1
      obtain ⟨rfl, Q4⟩ := hcut
      clear hc1 Q3 e0 e1 e2 e3 e6 e7 e8 e9 z7
      go_upto_if 137 with fail
      go_cut [] from 22 (fun wc => WMid s B out0 { e with cur := if fix then e.cur + 1 else e.cur + n, nsam := e.nsam + n, bmin := if c1 = true then (n : Int) else e.bmin } eb ib i bl ⟨fix, n, rate, ch, bps, e.cur⟩ S fb lb lcap tl m (w.heap.size + 1) w.heap.size mw r w w2.heap.size wc)
      case first => as_aux_lemma =>
        have z2 := Q4.mem.enc.frozen 2
        obtain ⟨e0, e1, e2, e3, e6, e7, e8, e9⟩ := encCells Q4.mem.enc
        simp only at e0 e1 e2 e3 e6 e7 e8 e9
        cases c1
        · go_wp2_with fail
          go_meet
          case rel => exact Q4
        · go_wp2_with fail
          go_meet
          case rel => exact Q4.encPut hs neb peb hlow.1 2 (.int .u16 n) rfl rfl rfl
      case rest => as_aux_lemma =>
      have Q5 := hcut
      clear hcut Q4
      go_upto_region 23 with fail
      go_cut [154] from 22 (fun v wc => v = .bool (decide (e.bmax = 0 ∨ e.bmax < (n : Int))) ∧ WMid s B out0 { e with cur := if fix then e.cur + 1 else e.cur + n, nsam := e.nsam + n, bmin := if c1 = true then (n : Int) else e.bmin } eb ib i bl ⟨fix, n, rate, ch, bps, e.cur⟩ S fb lb lcap tl m (w.heap.size + 1) w.heap.size mw r w w2.heap.size wc)
      case first => as_aux_lemma =>
        obtain ⟨e0, e1, e2, e3, e6, e7, e8, e9⟩ := encCells Q5.mem.enc
        simp only at e0 e1 e2 e3 e6 e7 e8 e9
        by_cases hb0 : e.bmax = 0
        · rw [hb0] at e3
          go_wp2_with fail
          go_meet
          case rel => exact ⟨by simp [hb0], Q5⟩
        · have hb1 : (e.bmax == 0) = false := by simpa using hb0
          go_wp2_with fail
          go_meet
          case rel => exact ⟨by simp [hb0], Q5⟩
      case rest => as_aux_lemma =>
      obtain ⟨c2, hc2⟩ : ∃ c2, c2 = decide (e.bmax = 0 ∨ e.bmax < (n : Int)) := ⟨_, rfl⟩
      rw [← hc2] at hcut
      have HC2 := Lib.hid hc2
      obtain ⟨rfl, Q6⟩ := hcut
      clear hc2 Q5
      go_upto_if 154 with fail
      go_cut [] from 22 (fun wc => WMid s B out0 { e with cur := if fix then e.cur + 1 else e.cur + n, nsam := e.nsam + n, bmin := if c1 = true then (n : Int) else e.bmin, bmax := if c2 = true then (n : Int) else e.bmax } eb ib i bl ⟨fix, n, rate, ch, bps, e.cur⟩ S fb lb lcap tl m (w.heap.size + 1) w.heap.size mw r w w2.heap.size wc)
      case first => as_aux_lemma =>
        have z3 := Q6.mem.enc.frozen 3
        obtain ⟨e0, e1, e2, e3, e6, e7, e8, e9⟩ := encCells Q6.mem.enc
        simp only at e0 e1 e2 e3 e6 e7 e8 e9
        cases c2
        · go_wp2_with fail
          go_meet
          case rel => exact Q6
        · go_wp2_with fail
          go_meet
          case rel => exact Q6.encPut hs neb peb hlow.1 3 (.int .u16 n) rfl rfl rfl
      case rest => as_aux_lemma =>
      have he' : ({ e with cur := if fix then e.cur + 1 else e.cur + n, nsam := e.nsam + n, bmin := if c1 = true then (n : Int) else e.bmin, bmax := if c2 = true then (n : Int) else e.bmax } : EncS) = e.next fix n := by
        have a1 := HC1.out
        have a2 := HC2.out
        have b1 : (if c1 = true then (n : Int) else e.bmin) = if e.bmin = 0 then (n : Int) else if (n : Int) < e.bmin then (n : Int) else e.bmin := by
          rw [a1]
          by_cases h1 : e.bmin = 0 <;> by_cases h2 : (n : Int) < e.bmin <;> simp [h1, h2]
        have b2 : (if c2 = true then (n : Int) else e.bmax) = if e.bmax = 0 then (n : Int) else if e.bmax < (n : Int) then (n : Int) else e.bmax := by
          rw [a2]
          by_cases h1 : e.bmax = 0 <;> by_cases h2 : e.bmax < (n : Int) <;> simp [h1, h2]
        rw [b1, b2]
        rfl
      rw [he'] at hcut
      obtain ⟨A5, D5, U5, K5, hz5⟩ := hcut
      have hz5 := hz5.symm
      obtain ⟨w3, rfl⟩ : ∃ w3 : World, w3 = wc := ⟨_, rfl⟩
      clear he' Q6
      have HZ5 := Lib.hid hz5
      clear hz5
      obtain ⟨e0, e1, e2, e3, e6, e7, e8, e9⟩ := encCells A5.enc
      go_wp2_with fail
      refine (hashAny e.md _ hbps S fb lb lcap tl n hsubs hS w3 A5.fr m hmok hmfit A5.md).mono ?_
      rintro x w4 ⟨rfl, hg4, m', hm', hmf', hmd4⟩
      have M4 := A5.grown (e := e.next fix n) hs nmd pmd hg4 hmd4
      have D4 := D5.grown A5.md hg4
      have U4 := U5.grown A5.md hg4
      have K4 : Keep B (fun k => s.own k ∨ k = eb ∨ k = e.md ∨ k = fb) w w4 := K5.onGrown hg4 (by omega) A5.md.lt (Or.inr (Or.inr (Or.inl rfl)))
      have hz4 : w2.heap.size ≤ w4.heap.size := by rw [HZ5.out]; exact hg4.size
      have hfresh : ∀ k, w.heap.size ≤ k → ¬ s.own k := fun k hk x => by have := hs.lt _ _ _ M.inv x; omega
      have I4 : Inv2 s out0 mw r (w.heap.size + 1) w.heap.size [] w4 := ⟨by simpa using M4.inv, D4, U4, hfresh _ hmw', hfresh _ hmr', hfresh _ (by omega), hfresh _ (Nat.le_refl _)⟩
      clear A5 D5 U5 K5 hg4 D4 U4 hmd4 e0 e1 e2 e3 e6 e7 e8 e9
      obtain ⟨f0, f1, f2, f3, f4, f5, f6⟩ := frCells M4.fr
      go_wp2_with fail
      refine (frameHeader s B hs hB0 out0 eb mw r (w.heap.size + 1) w.heap.size (by omega) (by omega) (by omega) hbB ⟨fix, n, rate, ch, bps, e.cur⟩ ⟨by simp only; omega, hrate, hch, hbps, by simp only; omega⟩ w4 M4.tab I4 (by omega) (by omega)).mono ?_
      rintro x w5 ⟨rfl, I5, k5⟩
      have hlt4 : w.heap.size ≤ w4.heap.size := by omega
      have hI5 : Inv2 s out0 mw r (w.heap.size + 1) w.heap.size (hdBytes ⟨fix, n, rate, ch, bps, e.cur⟩) w5 := I5
      have hown : ∀ k, k < w.heap.size → ¬ s.own k → ¬ own2 s mw r (w.heap.size + 1) w.heap.size k := by
        rintro k hk hn (x | x | x | x | x)
        · exact hn x
        all_goals omega
      have nS : ∀ t ∈ S, ¬ own2 s mw r (w.heap.size + 1) w.heap.size t.sb ∧ ¬ own2 s mw r (w.heap.size + 1) w.heap.size t.rb ∧ ¬ own2 s mw r (w.heap.size + 1) w.heap.size t.mb ∧ ¬ own2 s mw r (w.heap.size + 1) w.heap.size t.pb := by
        intro t ht
        obtain ⟨j, hj⟩ := List.getElem?_of_mem ht
        have ha := M.fr.subs j t hj
        obtain ⟨a1, a2, a3, a4⟩ := HN.out.2.2.2.2.2.2 t ht
        exact ⟨hown _ ha.sub.lt a1, hown _ ha.rice.lt a2, hown _ ha.smp.lt a3, hown _ ha.prt.lt a4⟩
      have nfb2 := hown fb M.fr.blk.lt nfb
      have neb2 := hown eb M.enc.lt neb
      have nmd2 := hown e.md M.md.lt nmd
      have nlb2 := hown lb M.fr.row.lt HN.out.2.2.2.2.2.1
      have F5 := M4.fr.keep k5 nfb2 nlb2 nS
      have E5 := k5.bk M4.enc neb2 (by decide)
      have md5 := k5.bk M4.md nmd2 (by decide)
      have K5 := K4.onNew k5 (fun k hk x => by
        rcases x with x | x | x | x | x
        · exact Or.inl x
        all_goals omega)
      clear f0 f1 f2 f3 f4 f5 f6
      obtain ⟨f0, f1, f2, f3, f4, f5, f6⟩ := frCells F5
      obtain ⟨e0, e1, e2, e3, e6, e7, e8, e9⟩ := encCells E5
      go_wp2_with (first | (go_at_call 40; refine (decorrelate fb ch hch _ f3).mono ?_; rintro x w' ⟨rfl, rfl⟩))
      refine (newWriter _ _ _).mono ?_
      rintro x w6 ⟨rfl, hw6⟩
      have ok2 := sk2_ok s B hs out0 mw r (w.heap.size + 1) w.heap.size (by omega) (by omega) (by omega) hbB
      have hB5 : B ≤ w5.heap.size := Nat.le_trans (by omega) k5.below.size
      have hfr5 : ∀ k, w5.heap.size ≤ k → ¬ own2 s mw r (w.heap.size + 1) w.heap.size k := fun k hk x => by have := ok2.lt _ _ _ I5 x; omega
      have hbwr : BWr (sk2 s out0 mw r (w.heap.size + 1) w.heap.size) w5.heap.size (BS.mk (hdBytes ⟨fix, n, rate, ch, bps, e.cur⟩) 0 0) w6 := by
        rw [← hw6]
        exact ⟨Bk.newAt _ 172 _ _ rfl, ok2.alloc I5 _, hfr5 _ (Nat.le_refl _), by simp [BS.ok]⟩
      have hal6 : Below w5.heap.size w5 w6 := by rw [← hw6]; exact (Below.refl _ w5).alloc (Nat.le_refl _) _
      clear hw6
      have F6 := F5.below hal6
      have E6 := E5.below hal6 E5.lt
      have md6 := md5.below hal6 md5.lt
      have K6 := K5.same hal6 hB5
      have hz6 : w.heap.size ≤ w5.heap.size := Nat.le_trans hlt4 k5.below.size
      have nS6 : ∀ t ∈ S, ¬ bwOwn (sk2 s out0 mw r (w.heap.size + 1) w.heap.size) w5.heap.size t.sb ∧ ¬ bwOwn (sk2 s out0 mw r (w.heap.size + 1) w.heap.size) w5.heap.size t.rb ∧ ¬ bwOwn (sk2 s out0 mw r (w.heap.size + 1) w.heap.size) w5.heap.size t.mb ∧ ¬ bwOwn (sk2 s out0 mw r (w.heap.size + 1) w.heap.size) w5.heap.size t.pb := by
        intro t ht
        obtain ⟨j, hj⟩ := List.getElem?_of_mem ht
        have ha := M.fr.subs j t hj
        have l1 := ha.sub.lt
        have l2 := ha.rice.lt
        have l3 := ha.smp.lt
        have l4 := ha.prt.lt
        obtain ⟨a1, a2, a3, a4⟩ := nS t ht
        exact ⟨fun x => x.elim a1 (by omega), fun x => x.elim a2 (by omega), fun x => x.elim a3 (by omega), fun x => x.elim a4 (by omega)⟩
      have lfb := M.fr.blk.lt
      have llb := M.fr.row.lt
      have leb := M.enc.lt
      have lmd := M.md.lt
      have nfb6 : ¬ bwOwn (sk2 s out0 mw r (w.heap.size + 1) w.heap.size) w5.heap.size fb := fun x => x.elim nfb2 (by omega)
      have nlb6 : ¬ bwOwn (sk2 s out0 mw r (w.heap.size + 1) w.heap.size) w5.heap.size lb := fun x => x.elim nlb2 (by omega)
      have neb6 : ¬ bwOwn (sk2 s out0 mw r (w.heap.size + 1) w.heap.size) w5.heap.size eb := fun x => x.elim neb2 (by omega)
      have nmd6 : ¬ bwOwn (sk2 s out0 mw r (w.heap.size + 1) w.heap.size) w5.heap.size e.md := fun x => x.elim nmd2 (by omega)
      clear f0 f1 f2 f3 f4 f5 f6 e0 e1 e2 e3 e6 e7 e8 e9
      obtain ⟨f0, f1, f2, f3, f4, f5, f6⟩ := frCells F6
      go_wp2_with fail
      have hbn : ((bps.toNat : Nat) : Int) = bps := by rcases hbps with e1 | e1 | e1 | e1 | e1 <;> subst e1 <;> rfl
      have hbr : 8 ≤ bps ∧ bps ≤ 24 := by rcases hbps with e1 | e1 | e1 | e1 | e1 <;> subst e1 <;> decide
      have HBN := Lib.hid hbn
      clear hbn
      have hch8 : ¬ ch = 8 := by omega
      have hch9 : ¬ ch = 9 := by omega
      have hch10 : ¬ ch = 10 := by omega
      have hdl := hdBody_len ⟨fix, n, rate, ch, bps, e.cur⟩
      go_loopw [185] (fun kv wr => ∃ k : Nat, k ≤ S.length ∧ kv = .int .i64 (k : Int) ∧ BWr (sk2 s out0 mw r (w.heap.size + 1) w.heap.size) w5.heap.size (BS.subs ⟨hdBytes ⟨fix, n, rate, ch, bps, e.cur⟩, 0, 0⟩ ((S.take k).map (·.d)) bps.toNat) wr ∧ FrAt ⟨fix, n, rate, ch, bps, e.cur⟩ S fb lb lcap tl wr ∧ Bk wr eb 111 ((e.next fix n).cells s) ∧ Bk wr e.md 170 m'.cells ∧ Keep B (bwOwn (sk2 s out0 mw r (w.heap.size + 1) w.heap.size) w5.heap.size) w6 wr) (fun kv _ => 256 - (intOf kv).toNat)
      case atStart => exact ⟨0, by omega, rfl, hbwr, F6, E6, md6, Keep.refl _ _ _⟩
      case round =>
        obtain ⟨k, hk, rfl, hbk, Fk, Ek, mdk, Kk⟩ := hrel
        clear f0 f1 f2 f3 f4 f5 f6
        obtain ⟨f0, f1, f2, f3, f4, f5, f6⟩ := frCells Fk
        obtain ⟨e0, e1, e2, e3, e6, e7, e8, e9⟩ := encCells Ek
        by_cases hkl : k < S.length
        · obtain ⟨t, ht⟩ : ∃ t, S[k]? = some t := ⟨S[k], by simp [hkl]⟩
          have lk : wr.cell? ⟨lb, k, none⟩ = some (.pointer (some ⟨t.sb, 0, none⟩)) := Fk.row.cell k _ (by simp [ht])
          have hat := Fk.subs k t ht
          have k0 := hat.sub.cell 0
          simp at k0
          have htd := hsubs k t ht
          have hgk := BS.subs_grow (s := ⟨hdBytes ⟨fix, n, rate, ch, bps, e.cur⟩, 0, 0⟩) (by simp [BS.ok]) ((S.take k).map (·.d)) (fun d hd => by
            obtain ⟨u, hu, rfl⟩ := List.mem_map.1 hd
            obtain ⟨j, hj⟩ := List.getElem?_of_mem (List.mem_of_mem_take hu)
            exact (hsubs j u hj).1) bps.toNat (by omega)
          have hlk : ((S.take k).map (·.d)).length = k := by simp; omega
          rw [hlk] at hgk
          have hgh : (hdBytes ⟨fix, n, rate, ch, bps, e.cur⟩).length = (hdBody ⟨fix, n, rate, ch, bps, e.cur⟩).length + 1 := by simp [hdBytes]
          simp only at hgk
          have hkd := htd.1.kind
          have hkind : e.ana = true → ¬ t.d.kind = 1 := fun h => HA.out h t (List.mem_of_getElem? ht)
          have he9 : wr.cell? ⟨eb, 9, none⟩ = some (.bool e.ana) := e9
          clear e9
          generalize hana : e.ana = an at he9 hkind
          cases an
          · go_wp2_with fail
            have hsf := subframe (sk2 s out0 mw r (w.heap.size + 1) w.heap.size) B w5.heap.size ok2 hB5 _ t.d htd.1 bps.toNat (by omega) ⟨fix, n, rate, ch, bps, e.cur⟩ (by simp [htd.2]) t.sb t.rb t.mb t.pb t.prec t.cf t.scap t.pcap wr hbk (by show _ ≤ s.cap - out0.length; omega) hat (nS6 t (List.mem_of_getElem? ht)).1 (nS6 t (List.mem_of_getElem? ht)).2.1 (nS6 t (List.mem_of_getElem? ht)).2.2.1 (nS6 t (List.mem_of_getElem? ht)).2.2.2
            rw [HBN.out] at hsf
            refine hsf.mono ?_
            rintro x w7 ⟨rfl, hb7, k7⟩
            clear hsf
            go_wp2_with fail
            go_roundw
            case rel =>
              refine ⟨k + 1, by omega, by simp, ?_, Fk.keep k7 nfb6 nlb6 nS6, k7.bk Ek neb6 (by decide), k7.bk mdk nmd6 (by decide), Kk.trans k7⟩
              rw [List.take_add_one, ht]
              simp only [Option.toList_some, List.map_append, List.map_cons, List.map_nil]
              rw [BS.subs_snoc]
              exact hb7
            case measure => simp [intOf] <;> omega
          · have hk1 := hkind rfl
            go_wp2_with fail
            have hsf := subframe (sk2 s out0 mw r (w.heap.size + 1) w.heap.size) B w5.heap.size ok2 hB5 _ t.d htd.1 bps.toNat (by omega) ⟨fix, n, rate, ch, bps, e.cur⟩ (by simp [htd.2]) t.sb t.rb t.mb t.pb t.prec t.cf t.scap t.pcap wr hbk (by show _ ≤ s.cap - out0.length; omega) hat (nS6 t (List.mem_of_getElem? ht)).1 (nS6 t (List.mem_of_getElem? ht)).2.1 (nS6 t (List.mem_of_getElem? ht)).2.2.1 (nS6 t (List.mem_of_getElem? ht)).2.2.2
            rw [HBN.out] at hsf
            refine hsf.mono ?_
            rintro x w7 ⟨rfl, hb7, k7⟩
            clear hsf
            go_wp2_with fail
            go_roundw
            case rel =>
              refine ⟨k + 1, by omega, by simp, ?_, Fk.keep k7 nfb6 nlb6 nS6, k7.bk Ek neb6 (by decide), k7.bk mdk nmd6 (by decide), Kk.trans k7⟩
              rw [List.take_add_one, ht]
              simp only [Option.toList_some, List.map_append, List.map_cons, List.map_nil]
              rw [BS.subs_snoc]
              exact hb7
            case measure => simp [intOf] <;> omega
        · have hkn : k = S.length := by omega
          subst hkn
          rw [List.take_of_length_le (Nat.le_refl _)] at hbk
          have hdsk : ∀ d ∈ S.map (·.d), d.ok := fun d hd => by
            obtain ⟨u, hu, rfl⟩ := List.mem_map.1 hd
            obtain ⟨j, hj⟩ := List.getElem?_of_mem hu
            exact (hsubs j u hj).1
          have hgk := BS.subs_grow (s := ⟨hdBytes ⟨fix, n, rate, ch, bps, e.cur⟩, 0, 0⟩) (by simp [BS.ok]) (S.map (·.d)) hdsk bps.toNat (by omega)
          have hbl := frBody_len ⟨fix, n, rate, ch, bps, e.cur⟩ (S.map (·.d)) hdsk (by show bps.toNat ≤ 32; omega)
          have hgh : (hdBytes ⟨fix, n, rate, ch, bps, e.cur⟩).length = (hdBody ⟨fix, n, rate, ch, bps, e.cur⟩).length + 1 := by simp [hdBytes]
          rw [List.length_map] at hgk hbl
          simp only at hgk
          go_wp2_with fail
          refine (align _ B w5.heap.size ok2 hB5 _ wr hbk (by show _ ≤ s.cap - out0.length; omega)).mono ?_
          rintro x w7 ⟨⟨kk, rfl⟩, hb7, k7⟩
          have I7 : Inv2 s out0 mw r (w.heap.size + 1) w.heap.size (frBody ⟨fix, n, rate, ch, bps, e.cur⟩ (S.map (·.d))) w7 := hb7.inv
          have E7 := k7.bk Ek neb6 (by decide)
          have md7 := k7.bk mdk nmd6 (by decide)
          have F7 := Fk.keep k7 nfb6 nlb6 nS6
          have hB7 : B ≤ w7.heap.size := Nat.le_trans hB5 (Nat.le_of_lt hb7.blk.lt)
          have K7 := K6.onNew (Kk.trans k7) (fun q hq x => by
            rcases x with (x | x | x | x | x) | x
            · exact Or.inl x
            all_goals omega)
          clear e0 e1 e2 e3 e6 e7 e8 e9 f0 f1 f2 f3 f4 f5 f6
          obtain ⟨e0, e1, e2, e3, e6, e7, e8, e9⟩ := encCells E7
          have ms := methSum16
          go_wp2_with fail
          refine (sum16 _ _ _ _ I7.dig).mono ?_
          rintro x w8 ⟨rfl, rfl⟩
          go_wp2_with fail
          refine (write16 s B hs _ _ (crc16_range 0 (by decide) _) w7 I7.inv hB7 (by rw [List.length_append]; omega)).mono ?_
          rintro x w8 ⟨rfl, i8, k8⟩
          have F8 := F7.keep k8 nfb HN.out.2.2.2.2.2.1 HN.out.2.2.2.2.2.2
          have E8 := k8.bk E7 neb (by decide)
          have md8 := k8.bk md7 nmd (by decide)
          have K8 := K7.trans (k8.mono fun _ => Or.inl)
          have c3 := (frCells F8).2.2.2.1
          go_wp2_with fail
          refine leaves_cons (f := 41) (args := #[.pointer (some ⟨fb, 0, none⟩)]) (by simp) (by simp [go_sem]) ?_
          refine (correlateD fb ch hch .returning _ c3).mono ?_
          rintro x u' w'' ⟨rfl, rfl, rfl⟩
          refine ⟨_, results_tmp rfl _ _ _, rfl, ?_, E8, ⟨m', hm', hmf', md8⟩, K8⟩
          rw [List.append_assoc] at i8
          exact i8
end Go.Proofs.YtlabcknoooaefaaGreatDoor
