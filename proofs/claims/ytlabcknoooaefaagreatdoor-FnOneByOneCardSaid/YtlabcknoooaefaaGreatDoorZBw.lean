/-
  THE BIT WRITER: WriteBits.
-/
import Derived.Test.YtlabcknoooaefaaGreatDoorProg
import Derived.Test.YtlabcknoooaefaaGreatDoorZFr
import Derived.WalkLawsBesides
import Derived.WalkSpells
import Derived.Lib.Hide
import Derived.Deep.LoopGhost
namespace Go.Proofs.YtlabcknoooaefaaGreatDoor
open Go.RowKit
set_option linter.unusedVariables false

theorem rd_one (w : World) (c : Int) (hc : 0 ≤ c ∧ c < 256) {a : Addr} (ha : a = ⟨w.heap.size, 0, none⟩) : Rd (w.alloc (.cells #[.int .u8 c] 5)) a [UInt8.ofNat c.toNat] := by
  intro j b hj
  subst ha
  match j, hj with
  | 0, hj =>
    simp at hj
    subst hj
    have : ((UInt8.ofNat c.toNat).toNat : Int) = c := by simp; omega
    rw [this]
    simp [Addr.add]

set_option maxRecDepth 100000 in
set_option maxHeartbeats 400000 in
theorem wbits (s : Sk) (B bw : Nat) (hs : s.Ok Tryz.prog 429 B) (hB : B ≤ bw) (st : BS) (r : Int) (n : Nat) (hn : n ≤ 255) (hr : 0 ≤ r ∧ r < 18446744073709551616) (w : World) (h : BWr s bw st w) (hc : st.out.length + 32 ≤ s.cap) :
    Calls Tryz.prog 55 #[.pointer (some ⟨bw, 0, none⟩), .int .u64 r, .int .u8 n] w fun e w' => e = .returned .nilIface ∧ BWr s bw (st.put r n) w' ∧ Keep B (bwOwn s bw) w w' := by
  go_enter Tryz.func55, Tryz.ntmps55
  go_wp2
  go_loopw [2] (fun nn wr => ∃ (k : Nat) (st' : BS), k ≤ n ∧ nn = .int .u8 k ∧ BWr s bw st' wr ∧ st'.put r k = st.put r n ∧ st'.out.length * 8 + st'.n + k = st.out.length * 8 + st.n + n ∧ Keep B (bwOwn s bw) w wr) (fun nn _ => (intOf nn).toNat)
  case atStart => exact ⟨n, st, by omega, rfl, h, rfl, rfl, Keep.refl _ _ _⟩
  case round =>
    obtain ⟨k, st', hk, rfl, hbw, hput, hlen, hkeep⟩ := hrel
    have hok := hbw.ok
    unfold BS.ok at hok
    obtain ⟨hn8, hc0, hc256⟩ := hok
    have hp := Lib.hid hput
    have hl := Lib.hid hlen
    clear hput hlen
    rcases k with _ | j
    · go_wp2
      go_ret
      have e1 := hp.out
      have e2 : st' = st.put r n := e1
      exact ⟨rfl, e2 ▸ hbw, hkeep⟩
    · obtain ⟨out, c, m⟩ := st'
      simp only at hbw hc0 hc256 hn8 hp hl
      have c0' := hbw.blk.cell 0
      have c1 := hbw.blk.cell 1
      have c2 := hbw.blk.cell 2
      have f1 := hbw.blk.frozen 1
      have f2 := hbw.blk.frozen 2
      simp at c0' c1 c2
      by_cases h7 : m = 7
      · subst h7
        have c2' : wr.cell? ⟨bw, 2, none⟩ = some (.int .u8 7) := c2
        clear c2
        obtain ⟨fn, rv, hmeth, henter, hcall⟩ := hs.call
        have HC := Lib.hid hcall
        clear hcall
        go_wp2_with fail
        have hX := (((hbw.blk.put 1 (.int .u8 (nextC c (bits .and .u64 (r / 2 ^ min j 64) 1 % 256)))).put 2 (.int .u8 8)).put 1 (.int .u8 0)).put 2 (.int .u8 0)
        have hI := hs.far (hs.far (hs.far (hs.far hbw.inv hbw.blk (by decide) hbw.own 1 (.int .u8 (nextC c (bits .and .u64 (r / 2 ^ min j 64) 1 % 256)))) (hbw.blk.put 1 _) (by decide) hbw.own 2 (.int .u8 8)) ((hbw.blk.put 1 _).put 2 _) (by decide) hbw.own 1 (.int .u8 0)) (((hbw.blk.put 1 _).put 2 _).put 1 _) (by decide) hbw.own 2 (.int .u8 0)
        have hK := (((hkeep.setCell (p := ⟨bw, 1, none⟩) hB (Or.inr rfl) (.int .u8 (nextC c (bits .and .u64 (r / 2 ^ min j 64) 1 % 256)))).setCell (p := ⟨bw, 2, none⟩) hB (Or.inr rfl) (.int .u8 8)).setCell (p := ⟨bw, 1, none⟩) hB (Or.inr rfl) (.int .u8 0)).setCell (p := ⟨bw, 2, none⟩) hB (Or.inr rfl) (.int .u8 0)
        have hsz : B ≤ wr.heap.size := Nat.le_trans hB (Nat.le_of_lt hbw.blk.lt)
        have hcr := nextC_range c (bits .and .u64 (r / 2 ^ min j 64) 1 % 256)
        refine (HC.out out [UInt8.ofNat (nextC c (bits .and .u64 (r / 2 ^ min j 64) 1 % 256)).toNat] _ 1 1 _ (hs.alloc hI _) ?_ rfl (by omega) (by omega) (by omega) ?_ ?_ ?_ ?_).mono ?_
        · exact rd_one _ _ hcr (by simp)
        · intro ho
          have := hs.lt _ _ _ hbw.inv ho
          simp at this
        · exact Sk.Apart.newAt hI _ (by simp [World.setCell]) _
        · simp; omega
        · have := hl.out
          have e : st.out.length * 8 + st.n + n ≤ st.out.length * 8 + 7 + 255 := by have := h.ok.1; omega
          omega
        rintro e w' ⟨rfl, hinv, hk2⟩
        have hX' : Bk w' bw 172 #[.iface s.ty s.val, .int .u8 0, .int .u8 0] := hk2.bk (by simpa using hX.alloc _) hbw.own (by decide)
        have hK' : Keep B (bwOwn s bw) w w' := (hK.alloc (by simpa using hsz) _).trans (hk2.mono fun _ => Or.inl)
        clear hX hI hK HC hk2
        go_wp2
        go_roundw
        case rel =>
          refine ⟨j, (BS.mk out c 7).bit (bits .and .u64 (r / 2 ^ min j 64) 1 % 256), by omega, rfl, ?_, hp.out, ?_, hK'⟩
          · unfold BS.bit
            rw [if_pos rfl]
            exact ⟨hX', hinv, hbw.own, by simp [BS.ok]⟩
          · have := hl.out
            rw [BS.bit_len _ _ hn8]
            simp only
            omega
        case measure => simp [intOf]
      · go_wp2
        go_roundw
        case rel =>
          refine ⟨j, (BS.mk out c m).bit (bits .and .u64 (r / 2 ^ min j 64) 1 % 256), by omega, rfl, ?_, hp.out, ?_, ?_⟩
          · unfold BS.bit
            rw [if_neg h7]
            have hb1 := (hbw.blk.put 1 (.int .u8 (nextC c (bits .and .u64 (r / 2 ^ min j 64) 1 % 256)))).put 2 (.int .u8 ((m : Int) + 1))
            refine ⟨by simpa [nextC] using hb1, ?_, hbw.own, ?_⟩
            · exact hs.far (hs.far hbw.inv hbw.blk (by decide) hbw.own 1 _) (hbw.blk.put 1 _) (by decide) hbw.own 2 _
            · have := nextC_range c (bits .and .u64 (r / 2 ^ min j 64) 1 % 256)
              exact ⟨by simp; omega, this⟩
          · have := hl.out
            rw [BS.bit_len _ _ hn8]
            simp only
            omega
          · exact (hkeep.setCell hB (Or.inr rfl) _).setCell hB (Or.inr rfl) _
        case measure => simp [intOf]
end Go.Proofs.YtlabcknoooaefaaGreatDoor

/-
  THE BIT WRITER: its other methods.
-/
namespace Go.Proofs.YtlabcknoooaefaaGreatDoor
open Go.RowKit
set_option linter.unusedVariables false

theorem BS.put_grow (s : BS) (hs : s.ok) (r : Int) (k : Nat) : (s.put r k).out.length ≤ s.out.length + (k + 7) / 8 := by
  have h1 := BS.put_len s hs r k
  have h2 := hs.1
  omega

/-- WriteBits, its count as the caller spells it. -/
theorem wbitsI (s : Sk) (B bw : Nat) (hs : s.Ok Tryz.prog 429 B) (hB : B ≤ bw) (st : BS) (r N : Int) (n : Nat) (hN : N = n) (hn : n ≤ 255) (hr : 0 ≤ r ∧ r < 18446744073709551616) (w : World) (h : BWr s bw st w) (hc : st.out.length + 32 ≤ s.cap) :
    Calls Tryz.prog 55 #[.pointer (some ⟨bw, 0, none⟩), .int .u64 r, .int .u8 N] w fun e w' => e = .returned .nilIface ∧ BWr s bw (st.put r n) w' ∧ Keep B (bwOwn s bw) w w' := by
  subst hN
  exact wbits s B bw hs hB st r n hn hr w h hc

/-- WriteBits as callers take it: what is written, and by how much it has grown at the most. -/
theorem wbitsJ (s : Sk) (B bw : Nat) (hs : s.Ok Tryz.prog 429 B) (hB : B ≤ bw) (st : BS) (r N : Int) (hN : 0 ≤ N ∧ N ≤ 255) (hr : 0 ≤ r ∧ r < 18446744073709551616) (w : World) (h : BWr s bw st w) (hc : st.out.length + 32 ≤ s.cap) :
    Calls Tryz.prog 55 #[.pointer (some ⟨bw, 0, none⟩), .int .u64 r, .int .u8 N] w fun e w' => e = .returned .nilIface ∧ BWr s bw (st.put r N.toNat) w' ∧ (st.put r N.toNat).out.length ≤ st.out.length + 32 ∧ Keep B (bwOwn s bw) w w' := by
  refine (wbitsI s B bw hs hB st r N N.toNat (by omega) (by omega) hr w h hc).mono ?_
  rintro e w' ⟨rfl, h1, h2⟩
  have := BS.put_grow st h.ok r N.toNat
  exact ⟨rfl, h1, by omega, h2⟩

theorem wbyte (s : Sk) (B bw : Nat) (hs : s.Ok Tryz.prog 429 B) (hB : B ≤ bw) (st : BS) (r : Int) (hr : 0 ≤ r ∧ r < 256) (w : World) (h : BWr s bw st w) (hc : st.out.length + 32 ≤ s.cap) :
    Calls Tryz.prog 53 #[.pointer (some ⟨bw, 0, none⟩), .int .u8 r] w fun e w' => e = .returned .nilIface ∧ BWr s bw (st.put r 8) w' ∧ Keep B (bwOwn s bw) w w' := by
  go_enter Tryz.func53, Tryz.ntmps53
  go_wp2_with (go_at_call 55; refine (wbitsI s B bw hs hB st r _ 8 rfl (by omega) (by omega) _ h hc).mono ?_; rintro e w' ⟨rfl, h1, h2⟩)
  go_ret
  exact ⟨rfl, h1, h2⟩

/-- One bit. -/
def BS.bool (s : BS) (b : Bool) : BS := s.put (if b then 1 else 0) 1

theorem wbool (s : Sk) (B bw : Nat) (hs : s.Ok Tryz.prog 429 B) (hB : B ≤ bw) (st : BS) (b : Bool) (w : World) (h : BWr s bw st w) (hc : st.out.length + 32 ≤ s.cap) :
    Calls Tryz.prog 65 #[.pointer (some ⟨bw, 0, none⟩), .bool b] w fun e w' => e = .returned .nilIface ∧ BWr s bw (st.bool b) w' ∧ Keep B (bwOwn s bw) w w' := by
  cases b
  · go_enter Tryz.func65, Tryz.ntmps65
    go_wp2_with (go_at_call 55; refine (wbitsI s B bw hs hB st 0 _ 1 rfl (by omega) (by omega) _ h hc).mono ?_; rintro e w' ⟨rfl, h1, h2⟩)
    go_ret
    exact ⟨rfl, h1, h2⟩
  · go_enter Tryz.func65, Tryz.ntmps65
    go_wp2_with (go_at_call 55; refine (wbitsI s B bw hs hB st 1 _ 1 rfl (by omega) (by omega) _ h hc).mono ?_; rintro e w' ⟨rfl, h1, h2⟩)
    go_ret
    exact ⟨rfl, h1, h2⟩

/-- The last byte filled with noughts. -/
def BS.align (s : BS) : BS := if s.n = 0 then s else s.put 0 (8 - s.n)

theorem BS.align_ok {s : BS} (h : s.ok) : s.align.ok ∧ s.align.n = 0 := by
  unfold BS.align
  split
  · exact ⟨h, by assumption⟩
  · have h1 := BS.put_ok h 0 (8 - s.n)
    have h2 := BS.put_len s h 0 (8 - s.n)
    have h3 := h.1
    have h4 := h1.1
    exact ⟨h1, by omega⟩

theorem align (s : Sk) (B bw : Nat) (hs : s.Ok Tryz.prog 429 B) (hB : B ≤ bw) (st : BS) (w : World) (h : BWr s bw st w) (hc : st.out.length + 32 ≤ s.cap) :
    Calls Tryz.prog 32 #[.pointer (some ⟨bw, 0, none⟩)] w fun e w' => (∃ k : Int, e = .returned (.tuple #[.int .u8 k, .nilIface])) ∧ BWr s bw st.align w' ∧ Keep B (bwOwn s bw) w w' := by
  have hok := h.ok
  unfold BS.ok at hok
  obtain ⟨hn8, hc0, hc256⟩ := hok
  obtain ⟨out, c, m⟩ := st
  simp only at h hc hc0 hc256 hn8
  have c2 := h.blk.cell 2
  simp at c2
  by_cases hz : m = 0
  · subst hz
    have c2' : w.cell? ⟨bw, 2, none⟩ = some (.int .u8 0) := c2
    clear c2
    go_enter Tryz.func32, Tryz.ntmps32
    go_wp2
    go_ret2
    exact ⟨⟨_, rfl⟩, by simpa [BS.align] using h, Keep.refl _ _ _⟩
  · have hgt : (0 : Int) < (m : Int) := by omega
    go_enter Tryz.func32, Tryz.ntmps32
    go_wp2_with (go_at_call 55; refine (wbitsI s B bw hs hB ⟨out, c, m⟩ 0 _ (8 - m) (by omega) (by omega) (by omega) _ h hc).mono ?_; rintro e w' ⟨rfl, h1, h2⟩)
    go_ret2
    exact ⟨⟨_, rfl⟩, by simpa [BS.align, hz] using h1, h2⟩

theorem newWriter (ty : TypeId) (v : Value) (w : World) :
    Calls Tryz.prog 28 #[.iface ty v] w fun e w' => e = .returned (.pointer (some ⟨w.heap.size, 0, none⟩)) ∧ w.alloc (.cells #[.iface ty v, .int .u8 0, .int .u8 0] 172) = w' := by
  go_enter Tryz.func28, Tryz.ntmps28
  go_wp2
  go_ret
  exact ⟨rfl, rfl⟩

set_option maxRecDepth 100000 in
theorem bwrite (s : Sk) (B bw : Nat) (hs : s.Ok Tryz.prog 429 B) (hB : B ≤ bw) (st : BS) (h0 : st.n = 0) (bs : List UInt8) (a : Addr) (n c : Nat) (w : World) (h : BWr s bw st w) (hr : Rd w a bs) (hl : bs.length = n) (hn : 0 < n) (hnc : n ≤ c) (hc : c ≤ 4096) (ha : ¬ s.own a.block) (hx : s.Apart st.out a.block w) (hcap : st.out.length + n ≤ s.cap) :
    Calls Tryz.prog 29 #[.pointer (some ⟨bw, 0, none⟩), .slice (some a) n c] w fun e w' => e = .returned (.tuple #[.int .i64 (n : Int), .nilIface]) ∧ BWr s bw ⟨st.out ++ bs, st.c, 0⟩ w' ∧ Keep B (bwOwn s bw) w w' := by
  obtain ⟨out, cc, m⟩ := st
  simp only at h0
  subst h0
  have c0 := h.blk.cell 0
  have c2 := h.blk.cell 2
  simp at c0 c2
  have c2' : w.cell? ⟨bw, 2, none⟩ = some (.int .u8 0) := c2
  clear c2
  obtain ⟨fn, rv, hmeth, henter, hcall⟩ := hs.call
  have HC := Lib.hid hcall
  have hsz : B ≤ w.heap.size := Nat.le_trans hB (Nat.le_of_lt h.blk.lt)
  clear hcall
  go_enter Tryz.func29, Tryz.ntmps29
  go_wp2_with fail
  refine (HC.out out bs _ n c _ h.inv hr hl hn hnc hc ha hx hsz hcap).mono ?_
  rintro e w' ⟨rfl, hinv, hk⟩
  have hX := hk.bk h.blk h.own (by decide)
  go_wp2
  go_ret2
  exact ⟨rfl, ⟨hX, hinv, h.own, h.ok⟩, hk.mono fun _ => Or.inl⟩

/-- Close, deferred, behind an Align: nothing is left to be written. -/
theorem bwCloseD (s : Sk) (bw : Nat) (st : BS) (h0 : st.n = 0) (u : FrameMode) (w : World) (h : BWr s bw st w) :
    CallsD Tryz.prog 64 #[.pointer (some ⟨bw, 0, none⟩)] u w fun e u' w' => u' = u ∧ e = .returned .nilIface ∧ w = w' := by
  obtain ⟨out, cc, m⟩ := st
  simp only at h0
  subst h0
  have c2 := h.blk.cell 2
  simp at c2
  have c2' : w.cell? ⟨bw, 2, none⟩ = some (.int .u8 0) := c2
  clear c2
  go_enter_d Tryz.func64, Tryz.ntmps64
  go_wp2
  go_ret
  exact ⟨rfl, rfl⟩
end Go.Proofs.YtlabcknoooaefaaGreatDoor

/-
  STREAMINFO written: encodeBlockHeader, encodeStreamInfo.
-/
namespace Go.Proofs.YtlabcknoooaefaaGreatDoor
open Go.RowKit
set_option linter.unusedVariables false

theorem BS.bool_grow (s : BS) (hs : s.ok) (b : Bool) : (s.bool b).out.length ≤ s.out.length + 32 := by
  have := BS.put_grow s hs (if b then 1 else 0) 1
  unfold BS.bool
  omega

theorem wboolJ (s : Sk) (B bw : Nat) (hs : s.Ok Tryz.prog 429 B) (hB : B ≤ bw) (st : BS) (b : Bool) (w : World) (h : BWr s bw st w) (hc : st.out.length + 32 ≤ s.cap) :
    Calls Tryz.prog 65 #[.pointer (some ⟨bw, 0, none⟩), .bool b] w fun e w' => e = .returned .nilIface ∧ BWr s bw (st.bool b) w' ∧ (st.bool b).out.length ≤ st.out.length + 32 ∧ Keep B (bwOwn s bw) w w' :=
  (wbool s B bw hs hB st b w h hc).mono fun e w' ⟨h1, h2, h3⟩ => ⟨h1, h2, BS.bool_grow st h.ok b, h3⟩

/-- A metadata block's header, of STREAMINFO. -/
def BS.head (s : BS) (last : Bool) : BS := ((s.bool last).put 0 7).put 34 24

theorem blockHeader (s : Sk) (B bw hb : Nat) (hs : s.Ok Tryz.prog 429 B) (hB : B ≤ bw) (st : BS) (last : Bool) (w : World) (h : BWr s bw st w) (hi : Bk w hb 177 #[.int .u8 0, .int .i64 34, .bool last]) (hni : ¬ bwOwn s bw hb) (hc : st.out.length + 200 ≤ s.cap) :
    Calls Tryz.prog 54 #[.pointer (some ⟨bw, 0, none⟩), .pointer (some ⟨hb, 0, none⟩)] w fun e w' => e = .returned .nilIface ∧ BWr s bw (st.head last) w' ∧ (st.head last).out.length ≤ st.out.length + 96 ∧ Keep B (bwOwn s bw) w w' := by
  have ci := hi.cell
  have hK := Keep.refl B (bwOwn s bw) w
  go_enter Tryz.func54, Tryz.ntmps54
  go_wp2_with (first
    | (go_at_call 55; refine (wbitsJ s B bw hs hB _ _ _ (by decide) (by omega) _ (by assumption) (by omega)).mono ?_; rintro e w' ⟨rfl, hb, hl, hk⟩; have hK := hK.trans hk; have hi := hk.bk hi hni (by decide); have ci := hi.cell)
    | (go_at_call 65; refine (wboolJ s B bw hs hB _ _ _ (by assumption) (by omega)).mono ?_; rintro e w' ⟨rfl, hb, hl, hk⟩; have hK := hK.trans hk; have hi := hk.bk hi hni (by decide); have ci := hi.cell))
  go_ret
  refine ⟨rfl, by assumption, ?_, by assumption⟩
  unfold BS.head
  simp only [Int.reduceToNat] at *
  omega

/-- STREAMINFO's numbers. -/
structure InfoD where
  bmin : Int
  bmax : Int
  fmin : Int
  fmax : Int
  rate : Int
  nch : Int
  bps : Int
  nsam : Int
  sum : List UInt8

structure InfoD.ok (i : InfoD) : Prop where
  bmin : 0 ≤ i.bmin ∧ i.bmin < 65536
  bmax : 0 ≤ i.bmax ∧ i.bmax < 65536
  fmin : 0 ≤ i.fmin ∧ i.fmin < 4294967296
  fmax : 0 ≤ i.fmax ∧ i.fmax < 4294967296
  rate : 0 ≤ i.rate ∧ i.rate < 4294967296
  nch : 1 ≤ i.nch ∧ i.nch < 256
  bps : 1 ≤ i.bps ∧ i.bps < 256
  nsam : 0 ≤ i.nsam ∧ i.nsam < 18446744073709551616
  sum : i.sum.length = 16

def bytesV (l : List UInt8) : List Value := l.map fun b => .int .u8 (b.toNat : Int)

def InfoD.first (i : InfoD) : List Value :=
  [.int .u16 i.bmin, .int .u16 i.bmax, .int .u32 i.fmin, .int .u32 i.fmax, .int .u32 i.rate, .int .u8 i.nch, .int .u8 i.bps, .int .u64 i.nsam]

def InfoD.cells (i : InfoD) : Array Value := (i.first ++ bytesV i.sum).toArray

theorem infoCells {w : World} {ib : Nat} {i : InfoD} (h : Bk w ib 123 i.cells) :
    w.cell? ⟨ib, 0, none⟩ = some (.int .u16 i.bmin) ∧ w.cell? ⟨ib, 1, none⟩ = some (.int .u16 i.bmax) ∧ w.cell? ⟨ib, 2, none⟩ = some (.int .u32 i.fmin) ∧ w.cell? ⟨ib, 3, none⟩ = some (.int .u32 i.fmax) ∧
    w.cell? ⟨ib, 4, none⟩ = some (.int .u32 i.rate) ∧ w.cell? ⟨ib, 5, none⟩ = some (.int .u8 i.nch) ∧ w.cell? ⟨ib, 6, none⟩ = some (.int .u8 i.bps) ∧ w.cell? ⟨ib, 7, none⟩ = some (.int .u64 i.nsam) :=
  by refine ⟨?_, ?_, ?_, ?_, ?_, ?_, ?_, ?_⟩ <;> (rw [h.cell]; simp [InfoD.cells, InfoD.first])

theorem infoSum {w : World} {ib : Nat} {i : InfoD} (h : Bk w ib 123 i.cells) : Rd w ⟨ib, 8, none⟩ i.sum := by
  intro j b hj
  have e : (⟨ib, 8, none⟩ : Addr).add j = ⟨ib, 8 + j, none⟩ := by
    unfold Addr.add
    split
    · rename_i h; subst h; rfl
    · rfl
  rw [e, h.cell]
  have hl : i.first.length = 8 := rfl
  simp [InfoD.cells, bytesV, List.getElem?_append_right, hl, hj]

/-- STREAMINFO as it is written, but for the sum. -/
def BS.nums (s : BS) (last : Bool) (i : InfoD) : BS :=
  ((((((((s.head last).put i.bmin 16).put i.bmax 16).put i.fmin 24).put i.fmax 24).put i.rate 20).put (i.nch - 1) 3).put (i.bps - 1) 5).put i.nsam 36

def BS.info (s : BS) (last : Bool) (i : InfoD) : BS := ⟨(s.nums last i).out ++ i.sum, (s.nums last i).c, 0⟩

theorem BS.nums_len (s : BS) (hs : s.ok) (h0 : s.n = 0) (last : Bool) (i : InfoD) : (s.nums last i).ok ∧ (s.nums last i).n = 0 ∧ (s.nums last i).out.length = s.out.length + 22 := by
  unfold BS.nums BS.head BS.bool
  have o1 := BS.put_ok hs (if last then 1 else 0) 1
  have l1 := BS.put_len _ hs (if last then 1 else 0) 1
  have o2 := BS.put_ok o1 0 7
  have l2 := BS.put_len _ o1 0 7
  have o3 := BS.put_ok o2 34 24
  have l3 := BS.put_len _ o2 34 24
  have o4 := BS.put_ok o3 i.bmin 16
  have l4 := BS.put_len _ o3 i.bmin 16
  have o5 := BS.put_ok o4 i.bmax 16
  have l5 := BS.put_len _ o4 i.bmax 16
  have o6 := BS.put_ok o5 i.fmin 24
  have l6 := BS.put_len _ o5 i.fmin 24
  have o7 := BS.put_ok o6 i.fmax 24
  have l7 := BS.put_len _ o6 i.fmax 24
  have o8 := BS.put_ok o7 i.rate 20
  have l8 := BS.put_len _ o7 i.rate 20
  have o9 := BS.put_ok o8 (i.nch - 1) 3
  have l9 := BS.put_len _ o8 (i.nch - 1) 3
  have o10 := BS.put_ok o9 (i.bps - 1) 5
  have l10 := BS.put_len _ o9 (i.bps - 1) 5
  have o11 := BS.put_ok o10 i.nsam 36
  have l11 := BS.put_len _ o10 i.nsam 36
  have h8 := o11.1
  exact ⟨o11, by omega, by omega⟩

set_option maxRecDepth 100000 in
set_option maxHeartbeats 1000000 in
theorem streamInfo (s : Sk) (B bw ib : Nat) (hs : s.Ok Tryz.prog 429 B) (hB : B ≤ bw) (st : BS) (h0 : st.n = 0) (last : Bool) (i : InfoD) (hio : i.ok) (w : World) (h : BWr s bw st w) (hi : Bk w ib 123 i.cells) (hni : ¬ bwOwn s bw ib) (hc : st.out.length + 1000 ≤ s.cap) :
    Calls Tryz.prog 30 #[.pointer (some ⟨bw, 0, none⟩), .pointer (some ⟨ib, 0, none⟩), .bool last] w fun e w' => e = .returned .nilIface ∧ BWr s bw (st.info last i) w' ∧ Keep B (bwOwn s bw) w w' := by
  have hz : B ≤ w.heap.size := Nat.le_trans hB (Nat.le_of_lt h.blk.lt)
  have hnum := BS.nums_len st h.ok h0 last i
  have HN := Lib.hid hnum
  have H0 := Lib.hid h0
  obtain ⟨b1, b2, b3, b4, b5, b6, b7, b8, b9⟩ := hio
  have H9 := Lib.hid b9
  clear b9 hnum h0
  have hK := Keep.refl B (bwOwn s bw) w
  obtain ⟨c0, c1, c2, c3, c4, c5, c6, c7⟩ := infoCells hi
  have hnb : w.heap.size ≠ bw ∧ ¬ s.own w.heap.size := ⟨fun e => by have := h.blk.lt; omega, fun e => by have := hs.lt _ _ _ h.inv e; omega⟩
  go_enter Tryz.func30, Tryz.ntmps30
  go_wp2_with fail
  refine (blockHeader s B bw w.heap.size hs hB st last _ ⟨(Bk.alloc h.blk _), hs.alloc h.inv _, h.own, h.ok⟩ (Bk.new _ _ _) (fun e => e.elim hnb.2 hnb.1) (by omega)).mono ?_
  rintro e w' ⟨rfl, hb, hl, hk⟩
  have hK := (hK.alloc hz _).trans hk
  have hi := hk.bk (hi.alloc _) hni (by decide)
  obtain ⟨c0, c1, c2, c3, c4, c5, c6, c7⟩ := infoCells hi
  go_wp2_with (go_at_call 55; refine (wbitsJ s B bw hs hB _ _ _ (by decide) (by omega) _ (by assumption) (by omega)).mono ?_; rintro e w' ⟨rfl, hb, hl, hk⟩; have hK := hK.trans hk; have hi := hk.bk hi hni (by decide); obtain ⟨c0, c1, c2, c3, c4, c5, c6, c7⟩ := infoCells hi)
  have hb' : BWr s bw (st.nums last i) w' := by assumption
  have hni' : ¬ s.own ib := fun e => hni (Or.inl e)
  refine (bwrite s B bw hs hB (st.nums last i) HN.out.2.1 i.sum _ 16 16 _ hb' (infoSum hi) H9.out (by omega) (by omega) (by omega) hni' (Sk.Apart.block hb'.inv hi (by decide)) (by have := HN.out.2.2; omega)).mono ?_
  rintro e w2 ⟨rfl, hb2, hk2⟩
  have hK := hK.trans hk2
  go_wp2
  go_ret
  exact ⟨rfl, hb2, hK⟩
end Go.Proofs.YtlabcknoooaefaaGreatDoor

/-
  A REST WRITTEN: WriteUnary, EncodeZigZag, encodeRiceResidual.
-/
namespace Go.Proofs.YtlabcknoooaefaaGreatDoor
open Go.RowKit
set_option linter.unusedVariables false

def BS.eights (s : BS) : Nat → BS
  | 0 => s
  | k + 1 => (s.eights k).put 0 8

theorem BS.eights_ok {s : BS} (h : s.ok) (k : Nat) : (s.eights k).ok ∧ (s.eights k).out.length * 8 + (s.eights k).n = s.out.length * 8 + s.n + 8 * k := by
  induction k with
  | zero => exact ⟨h, rfl⟩
  | succ k ih =>
    have := BS.put_len _ ih.1 0 8
    exact ⟨BS.put_ok ih.1 _ _, by unfold BS.eights; omega⟩

/-- So many noughts and a one. -/
def BS.unary (s : BS) (x : Int) : BS := (s.eights ((x.toNat - 1) / 8)).put 1 (x.toNat - 8 * ((x.toNat - 1) / 8) + 1)

theorem BS.unary_grow {s : BS} (h : s.ok) (x : Int) (hx : x < 4294967296) : (s.unary x).ok ∧ (s.unary x).out.length ≤ s.out.length + 1073741000 := by
  have h1 := BS.eights_ok h ((x.toNat - 1) / 8)
  have h2 := BS.put_len _ h1.1 1 (x.toNat - 8 * ((x.toNat - 1) / 8) + 1)
  have h3 := h.1
  refine ⟨BS.put_ok h1.1 _ _, ?_⟩
  unfold BS.unary
  generalize ((s.eights ((x.toNat - 1) / 8)).put 1 (x.toNat - 8 * ((x.toNat - 1) / 8) + 1)) = y at *
  generalize (s.eights ((x.toNat - 1) / 8)) = z at *
  omega

attribute [local irreducible] BS.put BS.eights

set_option maxRecDepth 100000 in
set_option maxHeartbeats 400000 in
theorem wunary (s : Sk) (B bw : Nat) (hs : s.Ok Tryz.prog 429 B) (hB : B ≤ bw) (st : BS) (x : Int) (hx : 0 ≤ x ∧ x < 4294967296) (w : World) (h : BWr s bw st w) (hc : st.out.length + 1073741824 ≤ s.cap) :
    Calls Tryz.prog 103 #[.pointer (some ⟨bw, 0, none⟩), .int .u64 x] w fun e w' => e = .returned .nilIface ∧ BWr s bw (st.unary x) w' ∧ (st.unary x).out.length ≤ st.out.length + 1073741000 ∧ Keep B (bwOwn s bw) w w' := by
  have hg := (BS.unary_grow h.ok x hx.2).2
  have HG := Lib.hid hg
  clear hg
  go_enter Tryz.func103, Tryz.ntmps103
  go_wp2
  go_loopw [1] (fun xx wr => ∃ k : Nat, k ≤ (x.toNat - 1) / 8 ∧ xx = .int .u64 (x - 8 * k) ∧ BWr s bw (st.eights k) wr ∧ Keep B (bwOwn s bw) w wr) (fun xx _ => (intOf xx).toNat)
  case atStart => exact ⟨0, by omega, by simp, by unfold BS.eights; exact h, Keep.refl _ _ _⟩
  case round =>
    obtain ⟨k, hk, rfl, hbw, hkeep⟩ := hrel
    have hel := (BS.eights_ok h.ok k).2
    have hn := h.ok.1
    by_cases hlt : k < (x.toNat - 1) / 8
    · go_wp2_with (go_at_call 53; refine (wbyte s B bw hs hB _ 0 (by omega) _ hbw (by omega)).mono ?_; rintro e w' ⟨rfl, hb2, hk2⟩)
      go_roundw
      case rel => exact ⟨k + 1, by omega, by go_num, by unfold BS.eights; exact hb2, hkeep.trans hk2⟩
      case measure => simp [intOf]; omega
    · have hke : k = (x.toNat - 1) / 8 := by omega
      go_wp2_with fail
      refine (wbitsI s B bw hs hB _ _ _ (x.toNat - 8 * ((x.toNat - 1) / 8) + 1) (by omega) (by omega) (by omega) _ hbw (by omega)).mono ?_
      rintro e w' ⟨rfl, hb2, hk2⟩
      go_wp2
      go_ret
      exact ⟨rfl, by unfold BS.unary; rw [← hke]; rw [← hke] at hb2; exact hb2, HG.out, hkeep.trans hk2⟩

/-- A number folded. -/
def zz (x : Int) : Int := if x < 0 then -2 * x - 1 else x * 2

theorem zz_range (x : Int) (hx : -2147483648 ≤ x ∧ x < 2147483648) : 0 ≤ zz x ∧ zz x < 4294967296 := by
  unfold zz
  split <;> omega

set_option maxRecDepth 100000 in
theorem zigzag (x : Int) (hx : -2147483648 ≤ x ∧ x < 2147483648) (w : World) : Calls Tryz.prog 102 #[.int .i32 x] w fun e w' => e = .returned (.int .u32 (zz x)) ∧ w = w' := by
  by_cases hn : x < 0
  · have e : (wrap32 (-x) % 4294967296 * 2 % 4294967296 - 1) % 4294967296 = zz x := by
      unfold zz wrap32
      rw [if_pos hn]
      omega
    go_enter Tryz.func102, Tryz.ntmps102
    go_wp2
    go_ret
    exact ⟨congrArg (fun z => Ending.returned (.int .u32 z)) e, rfl⟩
  · have e : zz x = x * 2 := by
      unfold zz
      rw [if_neg hn]
    rw [e]
    clear e
    go_enter Tryz.func102, Tryz.ntmps102
    go_wp2
    go_ret
    exact ⟨rfl, rfl⟩

/-- A folded number's part that is written as noughts, and the part that is written in bits. -/
def hiV (k x : Int) : Int := IntKind.u64.wrap (bits BinOp.and IntKind.u32 (zz x) (4294967295 * 2 ^ k.toNat % 4294967296) / 2 ^ k.toNat)
def loV (k x : Int) : Int := IntKind.u64.wrap (bits BinOp.and IntKind.u32 (zz x) (4294967295 / 2 ^ (32 - k).toNat))

theorem bits32_range (o : BinOp) (a b : Int) : 0 ≤ bits o .u32 a b ∧ bits o .u32 a b < 4294967296 := by
  unfold bits
  split <;> simp only [IntKind.wrap_u32] <;> omega

theorem hiV_range (k x : Int) : 0 ≤ hiV k x ∧ hiV k x < 4294967296 := by
  unfold hiV
  have h := bits32_range .and (zz x) (4294967295 * 2 ^ k.toNat % 4294967296)
  generalize bits BinOp.and IntKind.u32 (zz x) (4294967295 * 2 ^ k.toNat % 4294967296) = b at *
  have hp : (0 : Int) < 2 ^ k.toNat := Int.pow_pos (by decide)
  have h1 : 0 ≤ b / 2 ^ k.toNat := Int.ediv_nonneg h.1 (Int.le_of_lt hp)
  have h2 : b / 2 ^ k.toNat ≤ b := Int.ediv_le_self _ h.1
  generalize b / 2 ^ k.toNat = q at *
  simp only [IntKind.wrap_u64]
  omega

theorem loV_range (k x : Int) : 0 ≤ loV k x ∧ loV k x < 18446744073709551616 := by
  unfold loV
  simp only [IntKind.wrap_u64]
  omega

/-- A rest, of the number k. -/
def BS.rest (s : BS) (k x : Int) : BS := (s.unary (hiV k x)).put (loV k x) k.toNat

set_option maxRecDepth 100000 in
set_option maxHeartbeats 400000 in
theorem riceRest (s : Sk) (B bw : Nat) (hs : s.Ok Tryz.prog 429 B) (hB : B ≤ bw) (st : BS) (k x : Int) (hk : 4 ≤ k ∧ k ≤ 14) (hx : -2147483648 ≤ x ∧ x < 2147483648) (w : World) (h : BWr s bw st w) (hc : st.out.length + 1073741824 ≤ s.cap) :
    Calls Tryz.prog 120 #[.pointer (some ⟨bw, 0, none⟩), .int .u64 k, .int .i32 x] w fun e w' => e = .returned .nilIface ∧ BWr s bw (st.rest k x) w' ∧ (st.rest k x).out.length ≤ st.out.length + 1073741824 ∧ Keep B (bwOwn s bw) w w' := by
  have hz := zz_range x hx
  have hh := hiV_range k x
  have hl := loV_range k x
  go_enter Tryz.func120, Tryz.ntmps120
  go_wp2_with (first | (go_at_call 102; refine (zigzag _ hx _).mono ?_; rintro e w' ⟨rfl, rfl⟩))
  refine (wunary s B bw hs hB st (hiV k x) hh _ h hc).mono ?_
  rintro e w1 ⟨rfl, hb1, hl1, hk1⟩
  go_wp2_with fail
  refine (wbitsI s B bw hs hB _ (loV k x) _ k.toNat (by omega) (by omega) hl _ hb1 (by omega)).mono ?_
  rintro e w2 ⟨rfl, hb2, hk2⟩
  have hg := BS.put_grow _ hb1.ok (loV k x) k.toNat
  go_wp2
  go_ret
  refine ⟨rfl, hb2, ?_, hk1.trans hk2⟩
  unfold BS.rest
  omega
end Go.Proofs.YtlabcknoooaefaaGreatDoor
