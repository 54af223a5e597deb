/-
  THE REFERENCE's frame.
-/
import Derived.Test.YtlabcknoooaefaaGreatDoorZPd
import Derived.Test.YtlabcknoooaefaaGreatDoorZGz
namespace Go.Proofs.YtlabcknoooaefaaGreatDoor
open Go.RowKit
set_option linter.unusedVariables false

/-- Some bytes of the call's own, none or more. -/
def NewBytes (m : Nat) (w : World) (e : Ending) (w' : World) : Prop := ∃ v n l, e = .returned v ∧ n ≤ m ∧ w'.ownsRow w.heap.size 5 1 v n (u8V l) ∧ Below w.heap.size w w'

/-- A channel as the reference holds it. -/
structure ChG where
  vb : Nat
  cap : Nat
  xs : List Int

def ChG.val (c : ChG) : Value := .slice (some ⟨c.vb, 0, none⟩) c.xs.length c.cap

structure ChG.at (c : ChG) (w : World) : Prop where
  row : Row w c.vb 3 (intV c.xs)
  cap : c.xs.length ≤ c.cap ∧ c.cap ≤ maxLen

theorem ChG.at.keep {c : ChG} {w w' : World} {B : Nat} {S : Nat → Prop} (h : c.at w) (k : Keep B S w w') (hS : ¬ S c.vb) : c.at w' := ⟨h.row.keep k hS (by decide), h.cap⟩
theorem ChG.at.below {c : ChG} {w w' : World} (h : c.at w) (k : Below w.heap.size w w') : c.at w' := ⟨h.row.below k h.row.lt, h.cap⟩

/-- The channels of a frame, in memory. -/
structure ChsAt (cb : Nat) (cs : List ChG) (n : Nat) (w : World) : Prop where
  row : Row w cb 40 (cs.map ChG.val)
  chs : ∀ (j : Nat) (c : ChG), cs[j]? = some c → c.at w ∧ c.xs.length = n

theorem ChsAt.below {cb : Nat} {cs : List ChG} {n : Nat} {w w' : World} (h : ChsAt cb cs n w) (k : Below w.heap.size w w') : ChsAt cb cs n w' :=
  ⟨h.row.below k h.row.lt, fun j c hj => ⟨(h.chs j c hj).1.below k, (h.chs j c hj).2⟩⟩

theorem rowNe {w : World} {b g : Nat} {t t' : TypeId} {l : List Value} {cs : Array Value} (h : Row w b t l) (h' : Bk w g t' cs) (hne : t ≠ t') : b ≠ g := by
  obtain ⟨cur, hb, hv⟩ := h
  exact Bk.ne hb h' hne

theorem ChsAt.keep {cb : Nat} {cs : List ChG} {n : Nat} {w w' : World} {B wb : Nat} (h : ChsAt cb cs n w) (k : Keep B (fun k => k = wb) w w') {t : TypeId} {ar : Array Value} (hw : Bk w wb t ar) (h1 : t ≠ 40) (h2 : t ≠ 3) : ChsAt cb cs n w' :=
  ⟨h.row.keep k (rowNe h.row hw (fun e => h1 e.symm)) (by decide), fun j c hj => ⟨(h.chs j c hj).1.keep k (rowNe (h.chs j c hj).1.row hw (fun e => h2 e.symm)), (h.chs j c hj).2⟩⟩

/-- A frame's writing. -/
structure FSt (B wb a hb : Nat) (hc : Array Value) (cb : Nat) (cs : List ChG) (n : Nat) (w0 w : World) : Prop where
  wr : PWr B wb a w
  hd : Bk w hb 53 hc
  chs : ChsAt cb cs n w
  keep : Below B w0 w
  hB : B ≤ w.heap.size

theorem FSt.on {B wb a a2 hb : Nat} {hc : Array Value} {cb : Nat} {cs : List ChG} {n : Nat} {w0 w w' : World} (h : FSt B wb a hb hc cb cs n w0 w) (p : PWr B wb a2 w') (k : Keep B (fun k => k = wb) w w') : FSt B wb a2 hb hc cb cs n w0 w' := by
  obtain ⟨v, l, x1, x2⟩ := h.wr.ex
  exact ⟨p, k.bk h.hd (fun e => Bk.ne h.hd x1 (by decide) e) (by decide), h.chs.keep k x1 (by decide) (by decide), h.keep.trans k.below, Nat.le_trans h.hB k.below.size⟩

theorem FSt.same {B wb a hb : Nat} {hc : Array Value} {cb : Nat} {cs : List ChG} {n : Nat} {w0 w w' : World} (h : FSt B wb a hb hc cb cs n w0 w) (k : Below w.heap.size w w') : FSt B wb a hb hc cb cs n w0 w' :=
  ⟨h.wr.below k, h.hd.below k h.hd.lt, h.chs.below k, h.keep.trans (k.mono h.hB), Nat.le_trans h.hB k.size⟩

set_option maxRecDepth 100000 in
set_option maxHeartbeats 4000000 in
theorem wframeP (varies : Bool) (size : Nat) (rate assign bits num : Int) (plain : Bool) (hs : 1 ≤ size ∧ size ≤ 256) (hr : 0 ≤ rate ∧ rate ≤ 1000000) (hn : 0 ≤ num ∧ num < 2048) (ha : 0 ≤ assign ∧ assign < 8) (hb : 8 ≤ bits ∧ bits ≤ 24) (cb ccap : Nat) (cs : List ChG) (hcs : 1 ≤ cs.length ∧ cs.length ≤ 8) (hcc : cs.length ≤ ccap ∧ ccap ≤ maxLen) (A : Option Addr) (lc : Nat) (w : World) (hat : ChsAt cb cs size w) :
    Calls Tryz.prog 24 #[.agg (headV varies size rate assign bits num), .slice (some ⟨cb, 0, none⟩) cs.length ccap, .int .i64 bits, .slice A 0 lc, .bool plain] w (NewBytes 1000000 w) := by
  unfold maxLen at hcc
  have hlen : cs.length ≤ 9223372036854775807 := by omega
  have H0 := Bk.new w 53 (headV varies size rate assign bits num)
  obtain ⟨c0, c1, c2, c3, c4, c5⟩ := headCells H0
  have hat1 := hat.below ((Below.refl _ w).alloc (Nat.le_refl _) (.cells (headV varies size rate assign bits num) 53))
  have hb1 := (Below.refl _ w).alloc (Nat.le_refl _) (.cells (headV varies size rate assign bits num) 53)
  have HP := Lib.hid (headP varies size rate assign bits num plain (by omega) hr hn (w.alloc (.cells (headV varies size rate assign bits num) 53)))
  generalize hW : w.alloc (.cells (headV varies size rate assign bits num) 53) = W at *
  unfold headV at *
  go_enter Tryz.func24, Tryz.ntmps24
  go_wp2_with fail
  refine (HP.out).mono ?_
  rintro e w1 ⟨g, c, n, l, rfl, hn1, hn2, hown, hb2⟩
  have hWs : W.heap.size = w.heap.size + 1 := by rw [← hW]; simp
  have hs1 : w.heap.size + 1 ≤ w1.heap.size := by have := hb2.size; omega
  have F0 : FSt w.heap.size w1.heap.size (8 * n) w.heap.size #[.bool varies, .int .i64 size, .int .i64 rate, .int .i64 assign, .int .i64 bits, .int .u64 num] cb cs size w (w1.alloc (.cells #[.slice (some ⟨g, 0, none⟩) n c, .int .i64 (8 * (n : Int))] 159)) := by
    have X := Bk.newAt w1 159 #[.slice (some ⟨g, 0, none⟩) n c, .int .i64 (8 * (n : Int))] w1.heap.size rfl
    have hbb : Below w.heap.size w w1 := hb1.trans (hb2.mono (by omega))
    refine ⟨⟨.slice (some ⟨g, 0, none⟩) n c, l, by simpa using X, ?_⟩, (H0.below hb2 (by omega)).alloc _, (hat1.below hb2).below ((Below.refl _ w1).alloc (Nat.le_refl _) _), hbb.alloc (by omega) _, by simp; omega⟩
    have e : (8 * n + 7) / 8 = n := by omega
    rw [e]
    exact (ownsRow_base hown (by omega)).alloc _
  clear c0 c1 c2 c3 c4 c5 hat1 hb1 H0 hb2 hW hown
  go_upto_region 3 with fail
  obtain ⟨w2, hw2⟩ : ∃ w2, w2 = w1.alloc (.cells #[.slice (some ⟨g, 0, none⟩) n c, .int .i64 (8 * (n : Int))] 159) := ⟨_, rfl⟩
  rw [← hw2] at F0 ⊢
  clear hw2
  obtain ⟨wb, hwb⟩ : ∃ wb, wb = w1.heap.size := ⟨_, rfl⟩
  rw [← hwb] at F0 ⊢
  have hle : w.heap.size ≤ wb := by omega
  clear hwb
  obtain ⟨c0, c1, c2, c3, c4, c5⟩ := headCells F0.hd
  have f0 := F0.wr.blk
  have hle2 : assign ≤ 7 := by omega
  go_wp2_with fail
  go_loopg [55] cs.length (fun k i wr => ∃ (j a : Nat), k + j = cs.length ∧ i = .int .i64 (j : Int) ∧ 1 ≤ a ∧ a ≤ 40000 + j * 7000 ∧ FSt w.heap.size wb a w.heap.size #[.bool varies, .int .i64 size, .int .i64 rate, .int .i64 assign, .int .i64 bits, .int .u64 num] cb cs size w wr)
  case atStart => exact ⟨0, 8 * n, by omega, rfl, by omega, by omega, F0⟩
  case round =>
    obtain ⟨j, a, hgk, rfl, ha1, ha2, F1⟩ := hrel
    have HGK := Lib.hid hgk
    have hj : j ≤ cs.length := by omega
    clear hgk F0 f0 c0 c1 c2 c3 c4 c5
    obtain ⟨c0, c1, c2, c3, c4, c5⟩ := headCells (by exact F1.hd)
    have hlt53 := F1.hd.lt
    by_cases hlt : j < cs.length
    · obtain ⟨c, hc⟩ : ∃ c, cs[j]? = some c := ⟨cs[j], by simp [hlt]⟩
      have ck := F1.chs.row.cell j _ (show (cs.map ChG.val)[j]? = some c.val by simp [hc])
      obtain ⟨⟨crow, ccap2⟩, cln⟩ := F1.chs.chs j c hc
      obtain ⟨cvb, ccp, cxs⟩ := c
      unfold ChG.val at ck
      simp only at ck crow ccap2 cln
      have hcc2 := ccap2
      unfold maxLen at hcc2
      go_wp2_with (go_at_call 47; refine (sideP assign _ ha _).mono ?_; rintro e w' ⟨rfl, rfl⟩; refine Hid.out ?_)
      refine Lib.hid ?_
      have F2 := F1.same ((Below.refl _ wr).alloc (Nat.le_refl _) (.cells wayV 94))
      go_wp2_with fail
      have cr2 := crow.below ((Below.refl _ wr).alloc (Nat.le_refl _) (.cells wayV 94)) crow.lt
      refine (fitP cvb size ccp cxs cln hs.1 ⟨by omega, ccap2.2⟩ bits _ cr2).mono ?_
      rintro e w5 ⟨rfl, hb5⟩
      have F3 := F2.same hb5
      have cr3 := cr2.below hb5 cr2.lt
      have f3 := F3.wr.blk
      clear F1 F2 crow cr2
      go_wp2_with fail
      have hbits : bits.toNat ≤ 24 := by omega
      have hmul : size * bits.toNat ≤ 256 * 24 := Nat.mul_le_mul hs.2 hbits
      refine (channelP w.heap.size wb a cvb size ccp cxs cln hs ⟨by omega, ccap2.2⟩ bits (by omega) (by omega) hle _ F3.wr cr3).mono ?_
      rintro e w6 ⟨rfl, p6, k6⟩
      have F4 := F3.on p6 k6
      go_wp2_with fail
      go_roundg (cs.length - (j + 1))
      case measure => have := HGK.out; omega
      case rel => exact ⟨j + 1, _, by omega, by simp, by omega, by omega, F4⟩
    · go_wp2_with fail
      go_loopg [94] ((8 - a % 8) % 8) (fun k v wr2 => ∃ a2 : Nat, 1 ≤ a2 ∧ a2 ≤ 100000 ∧ a2 + (8 - a2 % 8) % 8 ≤ 100000 ∧ k = (8 - a2 % 8) % 8 ∧ FSt w.heap.size wb a2 w.heap.size #[.bool varies, .int .i64 size, .int .i64 rate, .int .i64 assign, .int .i64 bits, .int .u64 num] cb cs size w wr2)
      case atStart =>
        have hj7 : j * 7000 ≤ 8 * 7000 := Nat.mul_le_mul (by omega) (Nat.le_refl _)
        exact ⟨a, ha1, by omega, by omega, rfl, F1⟩
      case round =>
        obtain ⟨a2, h1a, h2a, h3a, hgk2, F5⟩ := hrel
        have HGK2 := Lib.hid hgk2
        clear hgk2 F1 c0 c1 c2 c3 c4 c5
        obtain ⟨v5, l5, hb5, ho5⟩ := F5.wr.ex
        have x1 := hb5.cell 1
        have x0 := hb5.cell 0
        simp at x0 x1
        by_cases hz : a2 % 8 = 0
        · obtain ⟨g5, p5, rfl, hg5, hgl5, hnc5, hcm5, hrow5⟩ := ownsRow_some ho5 (by omega)
          have hz1 : ((a2 : Int) % 8 == 0) = true := by simp; omega
          have hz2 : ((a2 : Int) % 8 != 0) = false := by simp; omega
          have hl5 : l5.length = (a2 + 7) / 8 := by have := ho5.1; rw [u8V_len] at this; omega
          have HL5 := Lib.hid hl5
          clear hl5
          go_wp2_with (go_at_call 51; refine (crc16s g5 _ p5 l5 HL5.out ⟨hnc5, hcm5⟩ _ hrow5).mono ?_; rintro e w' ⟨y, rfl, q, rfl⟩; refine Hid.out ?_)
          refine Lib.hid ?_
          have F6 := F5.same (Below.drewN (Below.refl _ wr) q)
          go_wp2_with fail
          refine (wordJ w.heap.size wb a2 _ _ (by decide) (by omega) _ F6.wr hle).mono ?_
          rintro e w7 ⟨rfl, p7, k7⟩
          have F7 := F6.on p7 k7
          obtain ⟨v7, l7, hb7, ho7⟩ := F7.wr.ex
          have y0 := hb7.cell 0
          simp at y0
          go_wp2_with fail
          go_ret
          exact ⟨v7, _, l7, rfl, by simp; omega, ho7, F7.keep⟩
        · have hz1 : ((a2 : Int) % 8 == 0) = false := by simp; omega
          have hz2 : ((a2 : Int) % 8 != 0) = true := by simp; omega
          go_wp2_with fail
          refine (wordJ w.heap.size wb a2 _ _ (by decide) (by omega) _ F5.wr hle).mono ?_
          rintro e w7 ⟨rfl, p7, k7⟩
          have F7 := F5.on p7 k7
          go_wp2_with fail
          go_roundg ((8 - (a2 + 1) % 8) % 8)
          case measure => have := HGK2.out; omega
          case rel => exact ⟨a2 + 1, by omega, by omega, by omega, rfl, F7⟩
end Go.Proofs.YtlabcknoooaefaaGreatDoor
