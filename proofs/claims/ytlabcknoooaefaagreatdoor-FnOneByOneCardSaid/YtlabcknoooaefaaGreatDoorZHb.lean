/-
  A FRAME's HEADER, whole: encodeFrameHeader.
-/
import Derived.Test.YtlabcknoooaefaaGreatDoorZUt
import Derived.Test.YtlabcknoooaefaaGreatDoorZCs
namespace Go.Proofs.YtlabcknoooaefaaGreatDoor
open Go.RowKit
set_option linter.unusedVariables false

/-- A header's numbers. -/
structure HdrD where
  fix : Bool
  z : Int
  rate : Int
  ch : Int
  bps : Int
  num : Int

structure HdrD.ok (h : HdrD) : Prop where
  z : 1 ≤ h.z ∧ h.z ≤ 256
  rate : isRate h.rate
  ch : 0 ≤ h.ch ∧ h.ch < 8
  bps : isBits h.bps
  num : 0 ≤ h.num ∧ h.num ≤ 2047

def HdrD.cells (h : HdrD) : Array Value := #[.bool h.fix, .int .u16 h.z, .int .u32 h.rate, .int .u8 h.ch, .int .u8 h.bps, .int .u64 h.num]

def BS.more (s : BS) (v n : Int) : BS := if n = 0 then s else s.put v n.toNat

theorem BS.more0 (s : BS) (v : Int) : s.more v 0 = s := by simp [BS.more]
theorem BS.more8 (s : BS) (v : Int) : s.more v 8 = s.put v (Int.toNat 8) := by simp [BS.more]
theorem BS.more16 (s : BS) (v : Int) : s.more v 16 = s.put v (Int.toNat 16) := by simp [BS.more]

def BS.empty : BS := ⟨[], 0, 0⟩

/-- The header's first four bytes. -/
def BS.hd4 (s : BS) (h : HdrD) : BS :=
  (((((((s.put 16382 14).put 0 1).bool (!h.fix)).put (szBits h.z) 4).put (rtBits h.rate) 4).put h.ch 4).put (bpBits h.bps) 3).put 0 1

/-- The header without its sum. -/
def hdBody (h : HdrD) : List UInt8 :=
  (((BS.mk ((BS.empty.hd4 h).out ++ utf8L h.num) (BS.empty.hd4 h).c 0).more (h.z - 1) (szMore h.z)).more (rtSuf h.rate) (rtMore h.rate)).align.out

def hdBytes (h : HdrD) : List UInt8 := hdBody h ++ [UInt8.ofNat (crc8 0 (hdBody h)).toNat]

theorem BS.empty_ok : BS.empty.ok := by simp [BS.empty, BS.ok]

theorem BS.more_ok {s : BS} (h : s.ok) (v n : Int) : (s.more v n).ok := by
  unfold BS.more
  split
  · exact h
  · exact BS.put_ok h _ _

theorem BS.more_grow {s : BS} (h : s.ok) (v n : Int) (hn : 0 ≤ n ∧ n ≤ 16) : (s.more v n).out.length ≤ s.out.length + 32 := by
  unfold BS.more
  split
  · omega
  · have := BS.put_grow s h v n.toNat
    omega

theorem BS.hd4_ok {s : BS} (hs : s.ok) (h : HdrD) : (s.hd4 h).ok := by
  unfold BS.hd4 BS.bool
  repeat' apply BS.put_ok
  exact hs

theorem BS.hd4_len {s : BS} (hs : s.ok) (h0 : s.n = 0) (h : HdrD) : (s.hd4 h).n = 0 ∧ (s.hd4 h).out.length = s.out.length + 4 := by
  unfold BS.hd4 BS.bool
  have o1 := BS.put_ok hs 16382 14
  have l1 := BS.put_len _ hs 16382 14
  have o2 := BS.put_ok o1 0 1
  have l2 := BS.put_len _ o1 0 1
  have o3 := BS.put_ok o2 (if (!h.fix) then 1 else 0) 1
  have l3 := BS.put_len _ o2 (if (!h.fix) then 1 else 0) 1
  have o4 := BS.put_ok o3 (szBits h.z) 4
  have l4 := BS.put_len _ o3 (szBits h.z) 4
  have o5 := BS.put_ok o4 (rtBits h.rate) 4
  have l5 := BS.put_len _ o4 (rtBits h.rate) 4
  have o6 := BS.put_ok o5 h.ch 4
  have l6 := BS.put_len _ o5 h.ch 4
  have o7 := BS.put_ok o6 (bpBits h.bps) 3
  have l7 := BS.put_len _ o6 (bpBits h.bps) 3
  have o8 := BS.put_ok o7 0 1
  have l8 := BS.put_len _ o7 0 1
  have h8 := o8.1
  exact ⟨by omega, by omega⟩

theorem szMore_two (z : Int) : szMore z = 0 ∨ szMore z = 8 := by
  unfold szMore
  split
  · exact Or.inl rfl
  · split
    · exact Or.inl rfl
    · exact Or.inr rfl

theorem rtMore_two (r : Int) : rtMore r = 0 ∨ rtMore r = 16 := by
  unfold rtMore
  split
  · exact Or.inr rfl
  · split
    · exact Or.inr rfl
    · exact Or.inl rfl

theorem rtSuf_range (r : Int) : 0 ≤ rtSuf r ∧ rtSuf r < 65536 := by
  unfold rtSuf
  split
  · omega
  · split <;> omega

theorem methSum8 (a : Addr) (w : World) : (method 429 261 (.pointer (some a)) "Sum8").run Tryz.prog w = .ok (198, .pointer (some a)) w := by kernel_rfl

theorem hdrCells {w : World} {g : Nat} {fix : Bool} {z rate ch bps num : Int} (h : Bk w g 72 (HdrD.cells ⟨fix, z, rate, ch, bps, num⟩)) :
    w.cell? ⟨g, 0, none⟩ = some (.bool fix) ∧ w.cell? ⟨g, 1, none⟩ = some (.int .u16 z) ∧ w.cell? ⟨g, 2, none⟩ = some (.int .u32 rate) ∧ w.cell? ⟨g, 3, none⟩ = some (.int .u8 ch) ∧ w.cell? ⟨g, 4, none⟩ = some (.int .u8 bps) ∧ w.cell? ⟨g, 5, none⟩ = some (.int .u64 num) := by
  refine ⟨?_, ?_, ?_, ?_, ?_, ?_⟩ <;> (rw [h.cell]; simp [HdrD.cells])

/-- The world in which the header's places are made. -/
theorem headWorld (s : Sk) (B : Nat) (hs : s.Ok Tryz.prog 429 B) (hB0 : 0 < B) (out0 : List UInt8) (mw r d tb : Nat) (h1 : B ≤ mw) (h2 : B ≤ r) (h3 : B ≤ d) (h4 : B ≤ tb) (fix : Bool) (z rate ch bps num : Int) (w : World) (hN : NCh w) (hi2 : Inv2 s out0 mw r d tb [] w) (hB : B ≤ w.heap.size) (W : World)
    (hW : (((w.alloc (.cells #[.bool fix, .int .u16 z, .int .u32 rate, .int .u8 ch, .int .u8 bps, .int .u64 num] 72)).alloc (.cells (tabC .u8 t8 256) 265)).alloc (.cells #[.int .u8 0, .pointer (some ⟨w.heap.size + 1, 0, none⟩)] 263)).alloc (.cells #[.iface 261 (.pointer (some ⟨w.heap.size + 1 + 1, 0, none⟩)), .iface 198 (.pointer (some ⟨mw, 0, none⟩))] 101) = W) :
    Bk W w.heap.size 72 (HdrD.cells ⟨fix, z, rate, ch, bps, num⟩) ∧ D8 (w.heap.size + 1 + 1) (w.heap.size + 1) 0 W ∧ Bk W (w.heap.size + 1 + 1 + 1) 101 #[.iface 261 (.pointer (some ⟨w.heap.size + 1 + 1, 0, none⟩)), .iface 198 (.pointer (some ⟨mw, 0, none⟩))] ∧ Inv2 s out0 mw r d tb [] W ∧ Keep B (own2 s mw r d tb) w W ∧ W.heap.size = w.heap.size + 4 ∧ NCh W ∧
    (B ≤ W.heap.size ∧ ¬ own2 s mw r d tb w.heap.size ∧ ¬ own2 s mw r d tb (w.heap.size + 1) ∧ ¬ own2 s mw r d tb (w.heap.size + 1 + 1) ∧ ∀ k, w.heap.size ≤ k → ¬ own2 s mw r d tb k) := by
  have ok2 := sk2_ok s B hs out0 mw r d tb h1 h2 h3 h4
  have hnw : ∀ k, w.heap.size ≤ k → ¬ own2 s mw r d tb k := fun k hk e => by have := ok2.lt _ _ _ hi2 e; omega
  have hi2' : (sk2 s out0 mw r d tb).inv [] w := hi2
  subst hW
  have hK : Keep B (own2 s mw r d tb) w ((((w.alloc (.cells #[.bool fix, .int .u16 z, .int .u32 rate, .int .u8 ch, .int .u8 bps, .int .u64 num] 72)).alloc (.cells (tabC .u8 t8 256) 265)).alloc (.cells #[.int .u8 0, .pointer (some ⟨w.heap.size + 1, 0, none⟩)] 263)).alloc (.cells #[.iface 261 (.pointer (some ⟨w.heap.size + 1 + 1, 0, none⟩)), .iface 198 (.pointer (some ⟨mw, 0, none⟩))] 101)) :=
    ((((Keep.refl B _ w).alloc hB _).alloc (by simp; omega) _).alloc (by simp; omega) _).alloc (by simp; omega) _
  refine ⟨(((Bk.newAt w 72 _ _ rfl).alloc _).alloc _).alloc _, ⟨(Bk.newAt _ 263 _ _ (by simp)).alloc _, ((Bk.newAt _ 265 _ _ (by simp)).alloc _).alloc _, by omega⟩, Bk.newAt _ 101 _ _ (by simp), ok2.alloc (ok2.alloc (ok2.alloc (ok2.alloc hi2' _) _) _) _, hK, by simp, hN.below hB0 hK.below, by simp; omega, hnw _ (by omega), hnw _ (by omega), hnw _ (by omega), hnw⟩

/-- The places behind which the header is written. -/
theorem headSink (s : Sk) (B : Nat) (hs : s.Ok Tryz.prog 429 B) (out0 : List UInt8) (mw r d tb : Nat) (h1 : B ≤ mw) (h2 : B ≤ r) (h3 : B ≤ d) (h4 : B ≤ tb) (h : HdrD) (e te mx rx : Nat) (w W w2 : World) (hB : B ≤ w.heap.size) (q1 : Bk W w.heap.size 72 h.cells) (q2 : D8 e te 0 W) (q4 : Inv2 s out0 mw r d tb [] W) (q5 : Keep B (own2 s mw r d tb) w W) (q6 : W.heap.size = w.heap.size + 4) (qe : ∀ k, w.heap.size ≤ k → ¬ own2 s mw r d tb k)
    (hmu : Multi mx rx [.iface 261 (.pointer (some ⟨e, 0, none⟩)), .iface 241 (.pointer (some ⟨d, 0, none⟩)), .iface s.ty s.val] w2) (hmx : W.heap.size ≤ mx) (hrx : W.heap.size ≤ rx) (hbl : Below W.heap.size W w2) (he : w.heap.size ≤ e := by omega) (hte : w.heap.size ≤ te := by omega) (he2 : e ≠ w.heap.size := by omega) (hte2 : te ≠ w.heap.size := by omega) :
    (sk3 s out0 mx rx e te d tb).Ok Tryz.prog 429 B ∧ BWr (sk3 s out0 mx rx e te d tb) w2.heap.size BS.empty (w2.alloc (.cells #[.iface 198 (.pointer (some ⟨mx, 0, none⟩)), .int .u8 0, .int .u8 0] 172)) ∧
    ¬ bwOwn (sk3 s out0 mx rx e te d tb) w2.heap.size w.heap.size ∧ Bk (w2.alloc (.cells #[.iface 198 (.pointer (some ⟨mx, 0, none⟩)), .int .u8 0, .int .u8 0] 172)) w.heap.size 72 h.cells ∧
    Keep B (own2 s mw r d tb) w (w2.alloc (.cells #[.iface 198 (.pointer (some ⟨mx, 0, none⟩)), .int .u8 0, .int .u8 0] 172)) ∧ B ≤ w2.heap.size := by
  have hs3 := sk3_ok s B hs out0 mx rx e te d tb (by omega) (by omega) (by omega) (by omega) h3 h4
  have hz := hbl.size
  have hnw : ∀ k, w.heap.size ≤ k → ¬ s.own k := fun k hk x => qe k hk (Or.inl x)
  have hI3 : Inv3 s out0 mx rx e te d tb [] w2 := ⟨hs.same q4.inv hbl, ⟨q2.blk.below hbl q2.blk.lt, q2.tab.below hbl q2.tab.lt, q2.rng⟩, ⟨q4.dig.blk.below hbl q4.dig.blk.lt, q4.dig.tab.below hbl q4.dig.tab.lt, q4.dig.rng⟩, hmu, hnw _ (by omega), hnw _ (by omega), q4.n3, q4.n4, hnw _ he, hnw _ hte⟩
  have hd := q4.dig.blk.lt
  have htb := q4.dig.tab.lt
  have hdw : d ≠ w.heap.size := fun x => qe _ (Nat.le_of_eq x.symm) (Or.inr (Or.inr (Or.inr (Or.inl rfl))))
  have htw : tb ≠ w.heap.size := fun x => qe _ (Nat.le_of_eq x.symm) (Or.inr (Or.inr (Or.inr (Or.inr rfl))))
  refine ⟨hs3, ⟨Bk.newAt _ 172 _ _ rfl, hs3.alloc (s := sk3 s out0 mx rx e te d tb) hI3 _, ?_, BS.empty_ok⟩, ?_, (q1.below hbl q1.lt).alloc _, (q5.same hbl (by omega)).alloc (by omega) _, by omega⟩
  · intro x
    have := hs3.lt [] w2 _ hI3 x
    omega
  · intro x
    rcases x with (x | x | x | x | x | x | x) | x
    · exact hnw _ (Nat.le_refl _) x
    all_goals omega

theorem Multi.below {mw r : Nat} {vs : List Value} {w w' : World} (h : Multi mw r vs w) (hb : Below w.heap.size w w') : Multi mw r vs w' := by
  obtain ⟨cap, cur, hm, hr, rest⟩ := h
  exact ⟨cap, cur, hm.below hb hm.lt, hr.below hb hr.lt, rest⟩

theorem Multi.lt {mw r : Nat} {vs : List Value} {w : World} (h : Multi mw r vs w) : mw < w.heap.size ∧ r < w.heap.size := by
  obtain ⟨cap, cur, hm, hr, rest⟩ := h
  exact ⟨hm.lt, hr.lt⟩

/-- Onward, where the call turns more blocks, but these are new. -/
theorem Keep.onNew {B : Nat} {S S' : Nat → Prop} {a w w' : World} (h : Keep B S a w) (k : Keep B S' w w') (hs : ∀ i, i < a.heap.size → S' i → S i) : Keep B S a w' :=
  ⟨h.below.trans k.below, fun i o hi hn hb => k.blk i o (h.blk i o hi hn hb) (fun x => hn (hs i (Array.getElem?_eq_some_iff.1 hi).1 x)) hb⟩

theorem bwCloseB (bw : Nat) (u : FrameMode) (w : World) (c2 : w.cell? ⟨bw, 2, none⟩ = some (.int .u8 0)) :
    CallsD Tryz.prog 64 #[.pointer (some ⟨bw, 0, none⟩)] u w fun e u' w' => u' = u ∧ e = .returned .nilIface ∧ w = w' := by
  go_enter_d Tryz.func64, Tryz.ntmps64
  go_wp2
  go_ret
  exact ⟨rfl, rfl⟩

theorem BS.align_grow {s : BS} (h : s.ok) : s.align.out.length ≤ s.out.length + 1 := by
  unfold BS.align
  split
  · omega
  · have := BS.put_grow s h 0 (8 - s.n)
    have := h.1
    omega

theorem BS.hdTail (s : BS) (hs : s.ok) (v1 n1 v2 n2 : Int) (h1 : 0 ≤ n1 ∧ n1 ≤ 16) (h2 : 0 ≤ n2 ∧ n2 ≤ 16) : (((s.more v1 n1).more v2 n2).align).out.length ≤ s.out.length + 65 := by
  have ok6 := BS.more_ok hs v1 n1
  have ok7 := BS.more_ok ok6 v2 n2
  have g6 := BS.more_grow hs v1 n1 h1
  have g7 := BS.more_grow ok6 v2 n2 h2
  have g8 := BS.align_grow ok7
  omega

theorem hdBody_len (h : HdrD) : (hdBody h).length ≤ 80 := by
  have r1 : 0 ≤ szMore h.z ∧ szMore h.z ≤ 16 := by have := szMore_two h.z; omega
  have r2 : 0 ≤ rtMore h.rate ∧ rtMore h.rate ≤ 16 := by have := rtMore_two h.rate; omega
  have h1 := (BS.hd4_len BS.empty_ok rfl h).2
  have h0 : BS.empty.out.length = 0 := rfl
  have h2 := utf8L_len h.num
  have ok4 := BS.hd4_ok BS.empty_ok h
  have ok5 : (BS.mk ((BS.empty.hd4 h).out ++ utf8L h.num) (BS.empty.hd4 h).c 0).ok := by
    have k := ok4.2
    generalize BS.empty.hd4 h = x at *
    exact ⟨by simp, k⟩
  unfold hdBody
  refine Nat.le_trans (BS.hdTail _ ok5 _ _ _ _ r1 r2) ?_
  rw [List.length_append, h1, h0]
  clear h1 h0 ok4 ok5 r1 r2
  omega

theorem headBack (s : Sk) (B : Nat) (out0 : List UInt8) (mw r d tb e te mx rx bw : Nat) (W w2 w' : World) (o : Obj) (out : List UInt8) (q2 : D8 e te 0 W) (q4 : Inv2 s out0 mw r d tb [] W) (hmx : W.heap.size ≤ mx) (hrx : W.heap.size ≤ rx) (hbw : W.heap.size ≤ bw) (hbl : Below W.heap.size W w2)
    (hk : Keep B (bwOwn (sk3 s out0 mx rx e te d tb) bw) (w2.alloc o) w') (h3 : Inv3 s out0 mx rx e te d tb out w') : Inv2 s out0 mw r d tb out w' := by
  have hm := q4.mul.below (hbl.trans ((Below.refl W.heap.size w2).alloc hbl.size o))
  have ⟨l1, l2⟩ := q4.mul.lt
  have e1 := q4.mul.ne q2.blk (by decide) (by decide)
  have e2 := q4.mul.ne q2.tab (by decide) (by decide)
  have e3 := q4.mul.ne q4.dig.blk (by decide) (by decide)
  have e4 := q4.mul.ne q4.dig.tab (by decide) (by decide)
  have n1 := q4.n1
  have n2 := q4.n2
  refine ⟨h3.inv, h3.dig, hm.keep hk ?_ ?_, q4.n1, q4.n2, q4.n3, q4.n4⟩
  · rintro ((x | x | x | x | x | x | x) | x)
    · exact n1 x
    all_goals omega
  · rintro ((x | x | x | x | x | x | x) | x)
    · exact n2 x
    all_goals omega

attribute [local irreducible] BS.put BS.bit BS.hd4 utf8L BS.bool BS.more BS.align

set_option maxRecDepth 100000 in
set_option maxHeartbeats 4000000 in
theorem frameHeader (s : Sk) (B : Nat) (hs : s.Ok Tryz.prog 429 B) (hB0 : 0 < B) (out0 : List UInt8) (eb mw r d tb : Nat) (h1 : B ≤ mw) (h2 : B ≤ r) (h3 : B ≤ d) (h4 : B ≤ tb) (h : HdrD) (ho : h.ok) (w : World) (hN : NCh w) (hinv : (sk2 s out0 mw r d tb).inv [] w) (hB : B ≤ w.heap.size) (hcap : out0.length + 1000 ≤ s.cap) :
    Calls Tryz.prog 39 #[.pointer (some ⟨eb, 0, none⟩), .iface 198 (.pointer (some ⟨mw, 0, none⟩)), .agg h.cells] w fun e w' => e = .returned .nilIface ∧ (sk2 s out0 mw r d tb).inv (hdBytes h) w' ∧ Keep B (own2 s mw r d tb) w w' := by
  obtain ⟨fix, z, rate, ch, bps, num⟩ := h
  obtain ⟨oz, orate, och, obps, onum⟩ := ho
  simp only at oz orate och obps onum
  have hz2 := szMore_two z
  have hr2 := rtMore_two rate
  have hi2 : Inv2 s out0 mw r d tb [] w := hinv
  have ms8 := methSum8
  have hrs := rtSuf_range rate
  simp only [HdrD.cells]
  rcases hz2 with hz0 | hz0 <;> rcases hr2 with hr0 | hr0
  all_goals
    go_enter_defers Tryz.func39, Tryz.ntmps39
    go_wp2_with fail
    refine (newSum8 _).mono ?_
    rintro e w1 ⟨rfl, rfl⟩
    go_wp2_with fail
    generalize hW : (((w.alloc (.cells #[.bool fix, .int .u16 z, .int .u32 rate, .int .u8 ch, .int .u8 bps, .int .u64 num] 72)).alloc (.cells (tabC .u8 t8 256) 265)).alloc (.cells #[.int .u8 0, .pointer (some ⟨w.heap.size + 1, 0, none⟩)] 263)).alloc (.cells #[.iface 261 (.pointer (some ⟨w.heap.size + 1 + 1, 0, none⟩)), .iface 198 (.pointer (some ⟨mw, 0, none⟩))] 101) = W
    obtain ⟨q1, q2, q3, q4, q5, q6, q7, q8⟩ := headWorld s B hs hB0 out0 mw r d tb h1 h2 h3 h4 fix z rate ch bps num w hN hi2 hB W hW
    obtain ⟨qa, qb, qc, qd, qe⟩ := q8
    clear hW
    refine (multi3 (w.heap.size + 1 + 1 + 1) (w.heap.size + 1 + 1) mw r _ _ rfl rfl _ q3 q4.mul).mono ?_
    rintro e w2 ⟨mx, rx, rfl, hmu, hmx, hrx, hbl⟩
    go_wp2_with fail
    refine (newWriter _ _ _).mono ?_
    rintro e w3 ⟨rfl, rfl⟩
    have hmul2 := hmu
    obtain ⟨hS, hbw, hni, hhb, hK, hbwB⟩ := headSink s B hs out0 mw r d tb h1 h2 h3 h4 _ _ _ mx rx w W w2 hB q1 q2 q4 q5 q6 qe hmu hmx hrx hbl
    generalize hS3 : sk3 s out0 mx rx (w.heap.size + 1 + 1) (w.heap.size + 1) d tb = S3 at hS hbw hni
    have hcap3 : 1000 ≤ S3.cap := by rw [← hS3]; show 1000 ≤ s.cap - out0.length; omega
    have hl0 : BS.empty.out.length = 0 := rfl
    have hK2 := Keep.refl B (bwOwn S3 w2.heap.size) (w2.alloc (.cells #[.iface 198 (.pointer (some ⟨mx, 0, none⟩)), .int .u8 0, .int .u8 0] 172))
    have hN2 := hN.below hB0 hK.below
    clear hN q7 hi2 hinv q1 q3 q5
    obtain ⟨c0, c1, c2, c3, c4, c5⟩ := hdrCells hhb
    go_wp2_with (first
      | (go_at_call 55; refine (wbitsJ S3 B _ hS hbwB _ _ _ (by decide) (by omega) _ (by assumption) (by omega)).mono ?_; rintro e w' ⟨rfl, hb, hl, hk⟩; have hK2 := hK2.trans hk; have hhb := hk.bk hhb hni (by decide); obtain ⟨c0, c1, c2, c3, c4, c5⟩ := hdrCells hhb)
      | (go_at_call 65; refine (wboolJ S3 B _ hS hbwB _ _ _ (by assumption) (by omega)).mono ?_; rintro e w' ⟨rfl, hb, hl, hk⟩; have hK2 := hK2.trans hk; have hhb := hk.bk hhb hni (by decide); obtain ⟨c0, c1, c2, c3, c4, c5⟩ := hdrCells hhb)
      | (go_at_call 66; refine (encSize S3 B _ hS hbwB _ _ oz _ (by assumption) (by omega)).mono ?_; rw [hz0]; rintro e w' ⟨rfl, hb, hl, hk⟩; have hK2 := hK2.trans hk; have hhb := hk.bk hhb hni (by decide); obtain ⟨c0, c1, c2, c3, c4, c5⟩ := hdrCells hhb)
      | (go_at_call 67; refine (encRate S3 B _ hS hbwB _ _ orate _ (by assumption) (by omega)).mono ?_; rw [hr0]; rintro e w' ⟨rfl, hb, hl, hk⟩; have hK2 := hK2.trans hk; have hhb := hk.bk hhb hni (by decide); obtain ⟨c0, c1, c2, c3, c4, c5⟩ := hdrCells hhb)
      | (go_at_call 68; refine (encChans S3 B _ hS hbwB _ _ och _ (hN2.below hB0 hK2.below) (by assumption) (by omega)).mono ?_; rintro e w' ⟨rfl, hb, hl, hk⟩; have hK2 := hK2.trans hk; have hhb := hk.bk hhb hni (by decide); obtain ⟨c0, c1, c2, c3, c4, c5⟩ := hdrCells hhb)
      | (go_at_call 69; refine (encBps S3 B _ hS hbwB _ _ obps _ (by assumption) (by omega)).mono ?_; rintro e w' ⟨rfl, hb, hl, hk⟩; have hK2 := hK2.trans hk; have hhb := hk.bk hhb hni (by decide); obtain ⟨c0, c1, c2, c3, c4, c5⟩ := hdrCells hhb))
    have hh4 : BWr S3 w2.heap.size (BS.empty.hd4 ⟨fix, z, rate, ch, bps, num⟩) w' := by
      unfold BS.hd4
      exact hb
    refine (utf8Any S3 B _ hS hbwB (BS.empty.hd4 ⟨fix, z, rate, ch, bps, num⟩) (BS.hd4_len BS.empty_ok rfl _).1 num onum _ hh4 (by rw [(BS.hd4_len BS.empty_ok rfl _).2]; omega)).mono ?_
    rintro e w' ⟨rfl, hb, hk⟩
    have hK2 := hK2.trans hk; have hhb := hk.bk hhb hni (by decide); obtain ⟨c0, c1, c2, c3, c4, c5⟩ := hdrCells hhb
    have hl : (BS.mk ((BS.empty.hd4 ⟨fix, z, rate, ch, bps, num⟩).out ++ utf8L num) (BS.empty.hd4 ⟨fix, z, rate, ch, bps, num⟩).c 0).out.length ≤ 6 := by
      have := utf8L_len num
      have := (BS.hd4_len BS.empty_ok rfl ⟨fix, z, rate, ch, bps, num⟩).2
      simp only [List.length_append]
      omega
    generalize hmk : BS.mk ((BS.empty.hd4 ⟨fix, z, rate, ch, bps, num⟩).out ++ utf8L num) (BS.empty.hd4 ⟨fix, z, rate, ch, bps, num⟩).c 0 = x5 at hb hl
    go_wp2_with (first
      | (go_at_call 55; refine (wbitsJ S3 B _ hS hbwB _ _ _ (by decide) (by omega) _ (by assumption) (by omega)).mono ?_; rintro e w' ⟨rfl, hb, hl, hk⟩; have hK2 := hK2.trans hk; have hhb := hk.bk hhb hni (by decide); obtain ⟨c0, c1, c2, c3, c4, c5⟩ := hdrCells hhb))
    have hst : BWr S3 w2.heap.size ((x5.more (z - 1) (szMore z)).more (rtSuf rate) (rtMore rate)) w' := by
      rw [hz0, hr0]
      simp only [BS.more0, BS.more8, BS.more16]
      exact hb
    refine (align S3 B _ hS hbwB _ _ hst (by rw [hz0, hr0]; simp only [BS.more0, BS.more8, BS.more16]; omega)).mono ?_
    rintro e w3 ⟨⟨ka, rfl⟩, hb3, hk⟩
    have hK2 := hK2.trans hk
    have hi3 : Inv3 s out0 mx rx (w.heap.size + 1 + 1) (w.heap.size + 1) d tb (hdBody ⟨fix, z, rate, ch, bps, num⟩) w3 := by
      have := hb3.inv
      rw [← hS3, ← hmk] at this
      exact this
    have hK' := hK2
    rw [← hS3] at hK'
    have hi4 := headBack s B out0 mw r d tb _ _ mx rx _ W w2 w3 _ _ q2 q4 hmx hrx hbl.size hbl hK' hi3
    go_wp2_with fail
    refine (sum8 _ _ _ _ hi3.dg8).mono ?_
    rintro e w4 ⟨rfl, rfl⟩
    go_wp2_with fail
    have hbl5 := hdBody_len ⟨fix, z, rate, ch, bps, num⟩
    have hB3 : B ≤ w3.heap.size := Nat.le_trans hbwB (Nat.le_of_lt hb3.blk.lt)
    refine (write8 (sk2 s out0 mw r d tb) B (sk2_ok s B hs out0 mw r d tb h1 h2 h3 h4) (hdBody ⟨fix, z, rate, ch, bps, num⟩) _ (crc8_range 0 (by decide) _) w3 hi4 hB3 (by show _ ≤ s.cap - out0.length; omega)).mono ?_
    rintro e w5 ⟨rfl, hi5, hk5⟩
    have hnb : ¬ own2 s mw r d tb w2.heap.size := fun x => by
      rcases x with x | x
      · exact hb3.own (hS3 ▸ Or.inl x)
      · have := q4.mul.lt
        have := q4.dig.blk.lt
        have := q4.dig.tab.lt
        have := hbl.size
        omega
    have hbq := hk5.bk hb3.blk hnb (by decide)
    have hc2 : w5.cell? ⟨w2.heap.size, 2, none⟩ = some (.int .u8 0) := by
      rw [hbq.cell 2]
      simp [(BS.align_ok hst.ok).2]
    have hKe : Keep B (own2 s mw r d tb) w w5 := (hK.onNew hK' (by
      have := hbl.size
      rintro k hk ((x | x | x | x | x | x | x) | x)
      · exact Or.inl x
      all_goals first | omega | exact Or.inr (Or.inr (Or.inr (Or.inl x))) | exact Or.inr (Or.inr (Or.inr (Or.inr x))))).trans hk5
    go_wp2_with fail
    refine leaves_cons (f := 64) (args := #[.pointer (some ⟨w2.heap.size, 0, none⟩)]) (by simp) (by simp [go_sem]) ?_
    refine (bwCloseB _ .returning _ hc2).mono ?_
    rintro e u' w'' ⟨rfl, rfl, rfl⟩
    exact ⟨_, results_tmp rfl _ _ _, rfl, hi5, hKe⟩
end Go.Proofs.YtlabcknoooaefaaGreatDoor
