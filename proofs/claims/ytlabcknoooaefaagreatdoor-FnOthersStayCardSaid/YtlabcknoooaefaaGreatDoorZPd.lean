/-
  THE REFERENCE's number, coded; a frame's header.
-/
import Derived.Test.YtlabcknoooaefaaGreatDoorZPc
import Derived.Deep.DeepCutAuto
import Derived.Deep.CutBlock
import Derived.Deep.RegionLaw
import Derived.Test.YtlabcknoooaefaaGreatDoorZGm
namespace Go.Proofs.YtlabcknoooaefaaGreatDoor
open Go.RowKit
set_option linter.unusedVariables false

/-- A new row of bytes, of one byte at the least. -/
def NewRow (m : Nat) (w : World) (e : Ending) (w' : World) : Prop := ∃ g c n l, e = .returned (.slice (some ⟨g, 0, none⟩) n c) ∧ 1 ≤ n ∧ n ≤ m ∧ w'.ownsRow w.heap.size 5 1 (.slice (some ⟨g, 0, none⟩) n c) n (u8V l) ∧ Below w.heap.size w w'

theorem newRow_of {m : Nat} {w w' : World} {v : Value} {n : Nat} {l : List Int} (h : w'.ownsRow w.heap.size 5 1 v n (u8V l)) (h1 : 1 ≤ n) (hm : n ≤ m) (hb : Below w.heap.size w w') : NewRow m w (.returned v) w' := by
  obtain ⟨g, c, rfl, _⟩ := ownsRow_some h h1
  exact ⟨g, c, n, l, rfl, h1, hm, h, hb⟩

theorem rowLit (w : World) (e : TypeId) (xs : List Value) (B : Nat) (hB : B ≤ w.heap.size) (hx : xs.length ≤ maxLen) (N : Nat) (hN : N = w.heap.size) : (w.alloc (.cells xs.toArray e)).ownsRow B e 1 (.slice (some ⟨N, 0, none⟩) xs.length xs.length) xs.length xs := by
  subst hN
  exact ⟨by simp, .inr ⟨w.heap.size, xs.length, xs.toArray, rfl, hB, heap_alloc_new w _, Nat.le_refl _, hx, by simp, by simp⟩⟩

set_option maxRecDepth 100000 in
set_option maxHeartbeats 1000000 in
theorem codedP (x : Int) (hx : 0 ≤ x ∧ x < 2048) (w : World) : Calls Tryz.prog 84 #[.int .u64 x] w (NewRow 2 w) := by
  obtain ⟨i0, hi, hz0, hz1, hz2⟩ := info_parts (show (Tryz.prog.info? 5).map (fun i => (i.zero, i.size, i.bytes)) = some (some (.int .u8 0), 1, 1) by kernel_rfl)
  by_cases h : x < 128
  · go_enter Tryz.func84, Tryz.ntmps84
    go_wp2
    go_ret
    exact newRow_of (rowLit w 5 (u8V [x]) w.heap.size (Nat.le_refl _) (by simp [u8V, maxLen]) w.heap.size rfl) (Nat.le_refl 1) (by show 1 ≤ 2; omega) ((Below.refl _ w).alloc (Nat.le_refl _) _)
  · go_enter Tryz.func84, Tryz.ntmps84
    go_wp2_with fail
    refine wp_loop_once ?_
    go_wp2_with fail
    refine wp_loop_rounds 2 ?_
    rw [rounds_succ]
    go_wp2_with fail
    rw [rounds_succ]
    go_wp2_with (at_builtin; refine wpList_append_own _ rfl (.tmp 40) (.tmp 41) 23 rfl w.heap.size 5 i0 (.int .u8 0) 1 1 Tryz.underlying23 hi hz0 hz1 hz2 rfl (by decide) _ 1 [_] rfl (rowLit _ 5 [_] w.heap.size (by simp; omega) (by simp [maxLen]) _ (by simp)) ⟨w.heap.size + 1, 0, none⟩ 1 1 [_] rfl rfl (fun j u hj => by
      rcases j with _ | j
      · simp at hj
        subst hj
        exact ((Bk.newAt (w.alloc (.cells #[] 5)) 5 #[_] (w.heap.size + 1) (by simp)).alloc _).cell 0
      · simp at hj) (fun u hu => by simp at hu; subst hu; rfl) (by unfold maxLen; omega) (by omega) (by simp; omega) ?_; intro v1 w1 hown1 hg1 _)
    have hb : Below w.heap.size w w1 := ((((Below.refl _ w).alloc (Nat.le_refl _) _).alloc (by simp) _).alloc (by simp; omega) _).grown hg1 (by simp; omega) (fun k hk => by have hk' : some (w.heap.size + 1 + 1) = some k := hk; injection hk' with hk'; omega)
    go_ret
    exact newRow_of (l := [_, _]) hown1 (by omega) (by omega) hb

theorem readsNew (w : World) (v : Value) (N : Nat) (hN : N = w.heap.size) : Reads (w.alloc (.cells #[v] 5)) (w.heap.size + 1) 1 (some ⟨N, 0, none⟩) 1 [v] := by
  subst hN
  refine ⟨by simp, fun _ => ⟨_, rfl, by simp, fun j u hj => ?_⟩⟩
  rcases j with _ | j
  · simp at hj
    subst hj
    exact (Bk.new w 5 #[v]).cell 0
  · simp at hj

/-- A header's writing: the writer, the header's block. -/
structure HSt (B wb a hb : Nat) (cs : Array Value) (w0 w : World) : Prop where
  wr : ∃ a', (a = 0 ∨ 1 ≤ a') ∧ a' ≤ a ∧ PWr B wb a' w
  hd : Bk w hb 53 cs
  keep : Below B w0 w
  ne : hb ≠ wb
  hB : B ≤ w.heap.size

theorem HSt.on {B wb a a1 a2 hb : Nat} {cs : Array Value} {w0 w w' : World} (h : HSt B wb a hb cs w0 w) (p : PWr B wb a1 w') (h1 : 1 ≤ a1) (ha : a1 ≤ a2) (k : Keep B (fun k => k = wb) w w') : HSt B wb a2 hb cs w0 w' :=
  ⟨⟨a1, Or.inr h1, ha, p⟩, k.bk h.hd h.ne (by decide), h.keep.trans k.below, h.ne, Nat.le_trans h.hB k.below.size⟩

theorem PWr.drewN {B wb at_ : Nat} {w : World} (h : PWr B wb at_ w) (q : Nat) : PWr B wb at_ (w.drewN q) := by
  obtain ⟨v, l, a, b⟩ := h.ex
  exact ⟨⟨v, l, a, b⟩⟩

theorem Below.drewN {B : Nat} {a w : World} (h : Below B a w) (q : Nat) : Below B a (w.drewN q) := ⟨h.os, h.tape, h.output, h.size, h.block⟩

theorem HSt.drewN {B wb a hb : Nat} {cs : Array Value} {w0 w : World} (h : HSt B wb a hb cs w0 w) (q : Nat) : HSt B wb a hb cs w0 (w.drewN q) := by
  obtain ⟨a', h1, ha, p⟩ := h.wr
  exact ⟨⟨a', h1, ha, p.drewN q⟩, h.hd, Below.drewN h.keep q, h.ne, h.hB⟩

theorem PWr.below {B wb at_ : Nat} {w w' : World} (h : PWr B wb at_ w) (hb : Below w.heap.size w w') : PWr B wb at_ w' := by
  obtain ⟨v, l, a, b⟩ := h.ex
  exact ⟨⟨v, l, a.below hb a.lt, ownsRow_below b hb fun k hk => (b.lt k hk).2⟩⟩

theorem HSt.same {B wb a hb : Nat} {cs : Array Value} {w0 w w' : World} (h : HSt B wb a hb cs w0 w) (k : Below w.heap.size w w') : HSt B wb a hb cs w0 w' := by
  obtain ⟨a', h1, ha, p⟩ := h.wr
  exact ⟨⟨a', h1, ha, p.below k⟩, h.hd.below k h.hd.lt, h.keep.trans (k.mono h.hB), h.ne, Nat.le_trans h.hB k.size⟩

/-- .. beside a row of bytes that is read between two words. -/
structure HCt (B wb a hb : Nat) (cs : Array Value) (cg : Nat) (cl : List Int) (w0 w : World) : Prop where
  wr : ∃ a' r, (a = 0 ∨ 1 ≤ a') ∧ a' ≤ a ∧ PWx B wb a' r w ∧ r ≠ some cg
  hd : Bk w hb 53 cs
  keep : Below B w0 w
  ne : hb ≠ wb
  hB : B ≤ w.heap.size
  row : Row w cg 5 (u8V cl)
  nc : cg ≠ wb

theorem HCt.st {B wb a hb : Nat} {cs : Array Value} {cg : Nat} {cl : List Int} {w0 w : World} (h : HCt B wb a hb cs cg cl w0 w) : HSt B wb a hb cs w0 w := by
  obtain ⟨a', r, h1, ha, p, _⟩ := h.wr
  exact ⟨⟨a', h1, ha, p.wr⟩, h.hd, h.keep, h.ne, h.hB⟩

theorem PWx.lt {B wb a : Nat} {r : Option Nat} {w : World} (h : PWx B wb a r w) {k : Nat} (hk : r = some k) : k < w.heap.size := by
  obtain ⟨v, l, e, _, b⟩ := h.ex
  exact (b.lt k (e.trans hk)).2

theorem HSt.ct {B wb a hb : Nat} {cs : Array Value} {w0 w w' : World} (h : HSt B wb a hb cs w0 w) (k : Below w.heap.size w w') {cg : Nat} {cl : List Int} (hg : w.heap.size ≤ cg) (hr : Row w' cg 5 (u8V cl)) : HCt B wb a hb cs cg cl w0 w' := by
  obtain ⟨a', h1, ha, p⟩ := h.wr
  obtain ⟨r, px⟩ := p.x
  have h2 := h.same k
  have hw := p.blk
  obtain ⟨v, l, e, x1, x2⟩ := px.ex
  exact ⟨⟨a', r, h1, ha, ⟨v, l, e, x1.below k x1.lt, ownsRow_below x2 k fun k hk => (x2.lt k hk).2⟩, fun e => by have := px.lt e; omega⟩, h2.hd, h2.keep, h2.ne, h2.hB, hr, by omega⟩

theorem wordHC {B wb a hb : Nat} {cs : Array Value} {cg : Nat} {cl : List Int} {w0 w : World} (v N : Int) (hN : 1 ≤ N ∧ N ≤ 64) (ha : a ≤ 1000000) (h : HCt B wb a hb cs cg cl w0 w) (hB : B ≤ wb) :
    Calls Tryz.prog 50 #[.pointer (some ⟨wb, 0, none⟩), .int .i64 v, .int .i64 N] w fun e w' => e = .returned (.tuple #[]) ∧ HCt B wb (a + 64) hb cs cg cl w0 w' := by
  obtain ⟨n, rfl⟩ := Int.eq_ofNat_of_zero_le (show 0 ≤ N by omega)
  obtain ⟨a', r, h1, ha', p, hr⟩ := h.wr
  refine (wordX B wb a' n r v (by omega) w p hB).mono ?_
  rintro e w' ⟨rfl, k, f, r', p', hn⟩
  refine ⟨rfl, ⟨a' + n, r', by omega, by omega, p', ?_⟩, k.bk h.hd h.ne (by decide), h.keep.trans k.below, h.ne, Nat.le_trans h.hB k.below.size, ?_, h.nc⟩
  · rcases hn with e | ⟨q, e, hq⟩
    · rw [e]; exact hr
    · rw [e]
      have := h.row.lt
      intro e2
      injection e2 with e2
      omega
  · obtain ⟨cur, hb, hv⟩ := h.row
    exact ⟨cur, f cg _ hb h.nc hr, hv⟩

/-- A header as the reference has it. -/
def headV (varies : Bool) (size rate assign bits num : Int) : Array Value := #[.bool varies, .int .i64 size, .int .i64 rate, .int .i64 assign, .int .i64 bits, .int .u64 num]

theorem headCells {w : World} {hb : Nat} {varies : Bool} {size rate assign bits num : Int} (h : Bk w hb 53 (headV varies size rate assign bits num)) :
    w.cell? ⟨hb, 0, none⟩ = some (.bool varies) ∧ w.cell? ⟨hb, 1, none⟩ = some (.int .i64 size) ∧ w.cell? ⟨hb, 2, none⟩ = some (.int .i64 rate) ∧ w.cell? ⟨hb, 3, none⟩ = some (.int .i64 assign) ∧ w.cell? ⟨hb, 4, none⟩ = some (.int .i64 bits) ∧ w.cell? ⟨hb, 5, none⟩ = some (.int .u64 num) := by
  refine ⟨?_, ?_, ?_, ?_, ?_, ?_⟩ <;> (rw [h.cell]; rfl)

theorem HSt.mono {B wb a a2 hb : Nat} {cs : Array Value} {w0 w : World} (h : HSt B wb a hb cs w0 w) (h0 : a ≠ 0) (ha : a ≤ a2) : HSt B wb a2 hb cs w0 w := by
  obtain ⟨a', h1, h2, p⟩ := h.wr
  exact ⟨⟨a', Or.inr (by omega), by omega, p⟩, h.hd, h.keep, h.ne, h.hB⟩

/-- A word more in a header's writing. -/
theorem wordH {B wb a hb : Nat} {cs : Array Value} {w0 w : World} (v N : Int) (hN : 1 ≤ N ∧ N ≤ 64) (ha : a ≤ 1000000) (h : HSt B wb a hb cs w0 w) (hB : B ≤ wb) :
    Calls Tryz.prog 50 #[.pointer (some ⟨wb, 0, none⟩), .int .i64 v, .int .i64 N] w fun e w' => e = .returned (.tuple #[]) ∧ HSt B wb (a + 64) hb cs w0 w' := by
  obtain ⟨a', h1, ha', p⟩ := h.wr
  refine (wordJ B wb a' v N ⟨by omega, hN.2⟩ (by omega) w p hB).mono ?_
  rintro e w' ⟨rfl, p', k⟩
  exact ⟨rfl, h.on p' (by omega) (by omega) k⟩

set_option maxRecDepth 100000 in
set_option maxHeartbeats 4000000 in
theorem headP (varies : Bool) (size rate assign bits num : Int) (plain : Bool) (hs : 1 ≤ size ∧ size ≤ 256) (hr : 0 ≤ rate ∧ rate ≤ 1000000) (hn : 0 ≤ num ∧ num < 2048) (w : World) :
    Calls Tryz.prog 45 #[.agg (headV varies size rate assign bits num), .bool plain] w (NewRow 4096 w) := by
  obtain ⟨i0, hi, hz0, hz1, hz2⟩ := info_parts (show (Tryz.prog.info? 5).map (fun i => (i.zero, i.size, i.bytes)) = some (some (.int .u8 0), 1, 1) by kernel_rfl)
  have W0 : HSt w.heap.size (w.heap.size + 1) 0 w.heap.size (headV varies size rate assign bits num) w ((w.alloc (.cells (headV varies size rate assign bits num) 53)).alloc (.cells #[.slice none 0 0, .int .i64 0] 159)) :=
    ⟨⟨0, Or.inl rfl, Nat.le_refl _, ⟨_, [], Bk.newAt _ 159 _ _ (by simp), by simpa [u8V] using World.ownsRow_nil _ _ _ _⟩⟩, (Bk.new w 53 _).alloc _, ((Below.refl _ w).alloc (Nat.le_refl _) _).alloc (by simp) _, by omega, by simp; omega⟩
  have hle : w.heap.size ≤ w.heap.size + 1 := by omega
  obtain ⟨c0, c1, c2, c3, c4, c5⟩ := headCells W0.hd
  have W1 := Lib.hid W0
  clear W0
  unfold headV at *
  go_enter Tryz.func45, Tryz.ntmps45
  go_wp2_with fail
  refine (wordH _ _ (by decide) (by omega) W1.out hle).mono ?_
  rintro e w1 ⟨rfl, W2⟩
  clear c0 c1 c2 c3 c4 c5
  obtain ⟨c0, c1, c2, c3, c4, c5⟩ := headCells W2.hd
  go_upto_if 22 with fail
  go_cut [6] from 17 (fun v wc => (∃ x : Int, v = .int .i64 x) ∧ HSt w.heap.size (w.heap.size + 1) 64 w.heap.size #[.bool varies, .int .i64 size, .int .i64 rate, .int .i64 assign, .int .i64 bits, .int .u64 num] w wc)
  case first => as_aux_lemma =>
    cases varies
    all_goals
      go_wp2_with fail
      go_meet
      case rel => exact ⟨⟨_, rfl⟩, W2⟩
  case rest =>
  obtain ⟨⟨x, rfl⟩, W3⟩ := hcut
  clear W2 c0 c1 c2 c3 c4 c5
  obtain ⟨c0, c1, c2, c3, c4, c5⟩ := headCells W3.hd
  go_wp2_with fail
  refine (wordH _ _ (by decide) (by omega) W3 hle).mono ?_
  rintro e w2 ⟨rfl, W4⟩
  clear W3 c0 c1 c2 c3 c4 c5
  obtain ⟨c0, c1, c2, c3, c4, c5⟩ := headCells W4.hd
  go_wp2_with fail
  go_loopw [7, 8] (fun s k wr => (∃ x : Int, s = .int .i64 x) ∧ (∃ j : Nat, 1 ≤ j ∧ j ≤ 16 ∧ k = .int .i64 (j : Int)) ∧ HSt w.heap.size (w.heap.size + 1) 128 w.heap.size #[.bool varies, .int .i64 size, .int .i64 rate, .int .i64 assign, .int .i64 bits, .int .u64 num] w wr) (fun _ k _ => 16 - (intOf k).toNat)
  case atStart => exact ⟨⟨6, rfl⟩, ⟨1, by omega, by omega, rfl⟩, W4⟩
  case round =>
    obtain ⟨⟨y, rfl⟩, ⟨j, hj1, hj2, rfl⟩, W5⟩ := hrel
    clear W4 c0 c1 c2 c3 c4 c5
    obtain ⟨c0, c1, c2, c3, c4, c5⟩ := headCells W5.hd
    by_cases hlt : j < 16
    · as_aux_lemma =>
      cases plain
      · go_wp2_with fail
        go_region_with (go_at_call 82; refine (sizeOfP (j : Int) (by omega) _).mono ?_; rintro e w' ⟨y2, rfl, rfl⟩)
        all_goals go_wp2_with fail
        all_goals go_roundw
        all_goals first
          | case rel => exact ⟨⟨_, rfl⟩, ⟨j + 1, by omega, by omega, by simp⟩, W5.drewN 1⟩
          | (simp [intOf] <;> omega)
      · go_wp2_with fail
        go_quiet (fail)
        go_wp2_with fail
        go_roundw
        case rel => exact ⟨⟨_, rfl⟩, ⟨j + 1, by omega, by omega, by simp⟩, W5.drewN _⟩
        case measure => simp [intOf] <;> omega
    · go_upto_block 2 with fail
      go_cut [9] from 17 (fun v wc => (∃ z : Int, v = .int .i64 z) ∧ HSt w.heap.size (w.heap.size + 1) 128 w.heap.size #[.bool varies, .int .i64 size, .int .i64 rate, .int .i64 assign, .int .i64 bits, .int .u64 num] w wc)
      case first => as_aux_lemma =>
        by_cases hm : rate % 1000 = 0
        · have hm1 : (rate % 1000 == 0) = true := by simpa using hm
          clear hm
          go_wp2_with fail
          all_goals go_meet
          all_goals exact ⟨⟨_, rfl⟩, W5⟩
        · have hm1 : (rate % 1000 == 0) = false := by simpa using hm
          clear hm
          go_wp2_with fail
          all_goals go_meet
          all_goals exact ⟨⟨_, rfl⟩, W5⟩
      case rest =>
      obtain ⟨⟨z, rfl⟩, W6⟩ := hcut
      clear W5 c0 c1 c2 c3 c4 c5
      go_wp2_with fail
      refine (ratesP _).mono ?_
      rintro e w6 ⟨rfl, hw6⟩
      have W7 : HSt w.heap.size (w.heap.size + 1) 128 w.heap.size #[.bool varies, .int .i64 size, .int .i64 rate, .int .i64 assign, .int .i64 bits, .int .u64 num] w w6 := by
        rw [← hw6]
        exact W6.same ((Below.refl _ _).alloc (Nat.le_refl _) _)
      have R7 : Row w6 wc.heap.size 3 (intV ratesL) := by
        rw [← hw6]
        exact ⟨_, Bk.new wc 3 _, fun j v hj => by simpa using hj⟩
      clear W6 hw6
      obtain ⟨c0, c1, c2, c3, c4, c5⟩ := headCells W7.hd
      go_wp2_with fail
      go_loop [9, 64] (fun s k => (∃ x : Int, s = .int .i64 x) ∧ ∃ j : Nat, j ≤ 12 ∧ k = .int .i64 (j : Int)) (fun _ k => 12 - (intOf k).toNat)
      case atStart => exact ⟨⟨_, rfl⟩, 0, by omega, rfl⟩
      case round =>
        obtain ⟨⟨y3, rfl⟩, j3, hj3, rfl⟩ := hrel
        by_cases hlt3 : j3 < 12
        · as_aux_lemma =>
          have ck := R7.cell j3 _ (intV_get (by show j3 < 12; omega))
          generalize ratesL.getD j3 0 = y4 at ck
          by_cases hp : 0 < j3
          · cases plain
            · go_wp2_with fail
              all_goals go_round
              all_goals first
                | case rel => exact ⟨⟨_, rfl⟩, j3 + 1, by omega, by simp⟩
                | (simp [intOf] <;> omega)
            · go_wp2_with fail
              all_goals go_round
              all_goals first
                | case rel => exact ⟨⟨_, rfl⟩, j3 + 1, by omega, by simp⟩
                | (simp [intOf] <;> omega)
          · obtain rfl : j3 = 0 := by omega
            go_wp2_with fail
            all_goals go_round
            all_goals first
              | case rel => exact ⟨⟨_, rfl⟩, 1, by omega, by simp⟩
              | (simp [intOf] <;> omega)
        · go_wp2_with fail
          refine (wordH _ _ (by decide) (by omega) W7 hle).mono ?_
          rintro e w8 ⟨rfl, W8⟩
          go_wp2_with fail
          refine (wordH _ _ (by decide) (by omega) W8 hle).mono ?_
          rintro e w9 ⟨rfl, W9⟩
          clear c0 c1 c2 c3 c4 c5
          obtain ⟨c0, c1, c2, c3, c4, c5⟩ := headCells W9.hd
          go_wp2_with fail
          refine (wordH _ _ (by decide) (by omega) W9 hle).mono ?_
          rintro e w10 ⟨rfl, W10⟩
          clear c0 c1 c2 c3 c4 c5
          have W11 := W10.same ((Below.refl _ w10).alloc (Nat.le_refl _) (.cells #[.int .i64 0, .int .i64 8, .int .i64 12, .int .i64 0, .int .i64 16, .int .i64 20, .int .i64 24] 3))
          have R11 : Row (w10.alloc (.cells #[.int .i64 0, .int .i64 8, .int .i64 12, .int .i64 0, .int .i64 16, .int .i64 20, .int .i64 24] 3)) w10.heap.size 3 (intV [0, 8, 12, 0, 16, 20, 24]) := ⟨_, Bk.new w10 3 _, fun j v hj => by simpa [intV] using hj⟩
          obtain ⟨c0, c1, c2, c3, c4, c5⟩ := headCells W11.hd
          go_wp2_with fail
          go_loop [12, 95] (fun s k => (∃ x : Int, s = .int .i64 x) ∧ ∃ j : Nat, j ≤ 7 ∧ k = .int .i64 (j : Int)) (fun _ k => 7 - (intOf k).toNat)
          case atStart => exact ⟨⟨_, rfl⟩, 0, by omega, rfl⟩
          case round =>
            obtain ⟨⟨y5, rfl⟩, j5, hj5, rfl⟩ := hrel
            by_cases hlt5 : j5 < 7
            · as_aux_lemma =>
              have ck := R11.cell j5 _ (intV_get (by show j5 < 7; omega))
              generalize [0, 8, 12, 0, 16, 20, 24].getD j5 (0 : Int) = y6 at ck
              by_cases hp : 0 < y6
              · go_wp2_with fail
                all_goals go_round
                all_goals first
                  | case rel => exact ⟨⟨_, rfl⟩, j5 + 1, by omega, by simp⟩
                  | (simp [intOf] <;> omega)
              · have hp2 : decide (0 < y6) = false := by simpa using hp
                go_wp2_with fail
                all_goals go_round
                all_goals first
                  | case rel => exact ⟨⟨_, rfl⟩, j5 + 1, by omega, by simp⟩
                  | (simp [intOf] <;> omega)
            · go_wp2_with fail
              refine (wordH _ _ (by decide) (by omega) W11 hle).mono ?_
              rintro e w12 ⟨rfl, W12⟩
              go_wp2_with fail
              refine (wordH _ _ (by decide) (by omega) W12 hle).mono ?_
              rintro e w13 ⟨rfl, W13⟩
              clear c0 c1 c2 c3 c4 c5
              obtain ⟨c0, c1, c2, c3, c4, c5⟩ := headCells W13.hd
              go_wp2_with fail
              refine (codedP num hn _).mono ?_
              rintro e w14 ⟨cg, cc, cn, cl, rfl, hcn1, hcn2, hcown, hcb⟩
              obtain ⟨cg', cc', hcv, hcge, hclt, hcc, hcm, hcrow⟩ := ownsRow_some hcown (by omega)
              obtain ⟨rfl, rfl⟩ : cg = cg' ∧ cc = cc' := by
                injection hcv with a b c
                injection a with a
                injection a with a
                exact ⟨a, c⟩
              have W14 := W13.ct hcb hcge hcrow
              have hcl : cl.length = cn := by have := hcown.1; rw [u8V_len] at this; omega
              have HCL := Lib.hid hcl
              unfold maxLen at hcm
              clear hcv hcl hcown hcrow c0 c1 c2 c3 c4 c5
              go_wp2_with fail
              go_loopw [119] (fun k wr => ∃ j : Nat, j ≤ cn ∧ k = .int .i64 (j : Int) ∧ HCt w.heap.size (w.heap.size + 1) (448 + 64 * j) w.heap.size #[.bool varies, .int .i64 size, .int .i64 rate, .int .i64 assign, .int .i64 bits, .int .u64 num] cg cl w wr) (fun k _ => cn - (intOf k).toNat)
              case atStart => exact ⟨0, by omega, rfl, W14⟩
              case round =>
                obtain ⟨j7, hj7, rfl, W15⟩ := hrel
                by_cases hlt7 : j7 < cn
                · as_aux_lemma =>
                  have ck := W15.row.cell j7 _ (u8V_get (by have := HCL.out; omega))
                  generalize cl.getD j7 0 = y7 at ck
                  go_wp2_with fail
                  refine (wordHC _ _ (by decide) (by omega) W15 hle).mono ?_
                  rintro e w16 ⟨rfl, W16⟩
                  go_wp2_with fail
                  go_roundw
                  case rel => exact ⟨j7 + 1, by omega, by simp, W16⟩
                  case measure => simp [intOf] <;> omega
                · have W17 := W15.st.mono (by omega) (show 448 + 64 * j7 ≤ 640 by omega)
                  clear W15 W14
                  obtain ⟨c0, c1, c2, c3, c4, c5⟩ := headCells W17.hd
                  go_upto_block 9 with fail
                  go_cut [] from 17 (fun wc => HSt w.heap.size (w.heap.size + 1) 704 w.heap.size #[.bool varies, .int .i64 size, .int .i64 rate, .int .i64 assign, .int .i64 bits, .int .u64 num] w wc)
                  case first =>
                    go_wp2_with (go_at_call 50; refine (wordH _ _ (by decide) (by omega) W17 hle).mono ?_; rintro e w18 ⟨rfl, W18⟩)
                    all_goals go_meet
                    all_goals first
                      | exact W18
                      | exact W17.mono (by omega) (by omega)
                  case rest =>
                  have W19 := hcut
                  clear hcut W17 c0 c1 c2 c3 c4 c5
                  obtain ⟨c0, c1, c2, c3, c4, c5⟩ := headCells W19.hd
                  go_upto_block 10 with fail
                  go_cut [] from 17 (fun wc => HSt w.heap.size (w.heap.size + 1) 768 w.heap.size #[.bool varies, .int .i64 size, .int .i64 rate, .int .i64 assign, .int .i64 bits, .int .u64 num] w wc)
                  case first =>
                    go_wp2_with (go_at_call 50; refine (wordH _ _ (by decide) (by omega) W19 hle).mono ?_; rintro e w18 ⟨rfl, W20⟩)
                    all_goals go_meet
                    all_goals first
                      | exact W20
                      | exact W19.mono (by omega) (by omega)
                  case rest =>
                  have W21 := hcut
                  clear hcut W19 c0 c1 c2 c3 c4 c5
                  obtain ⟨a', ha1, ha2, p⟩ := W21.wr
                  obtain ⟨v, l, hbv, hov⟩ := p.ex
                  obtain ⟨g, c, rfl, hg, hglt, hnc, hcm2, hrow⟩ := ownsRow_some hov (by omega)
                  have v0 := hbv.cell 0
                  simp at v0
                  have hll : l.length = (a' + 7) / 8 := by have := hov.1; rw [u8V_len] at this; omega
                  have HLL := Lib.hid hll
                  have HOV := Lib.hid hov
                  have HK := Lib.hid W21.keep
                  have hBc := W21.hB
                  clear hll hov
                  generalize hn8 : (a' + 7) / 8 = n8 at *
                  have HN8 := Lib.hid hn8
                  have hn81 : 1 ≤ n8 ∧ n8 ≤ 97 := by omega
                  clear hn8
                  go_wp2_with fail
                  have hcrc : ∀ q, Calls Tryz.prog 85 #[.slice (some ⟨g, 0, none⟩) n8 c] (wc.drewN q) (SomeI (wc.drewN q)) := fun q => crc8s g n8 c l HLL.out ⟨hnc, hcm2⟩ (wc.drewN q) hrow
                  have HCRC := Lib.hid hcrc
                  have vlt := hbv.lt
                  have v1 : ∀ (k : Nat) (o : Obj), ((wc.drewN k).alloc o).cell? ⟨w.heap.size + 1, 0, none⟩ = some (.slice (some ⟨g, 0, none⟩) n8 c) := fun k o => (World.cell?_alloc_lt (wc.drewN k) o ⟨w.heap.size + 1, 0, none⟩ vlt).trans v0
                  clear hcrc
                  go_region_law (first
                    | (refine step_append_any _ rfl (.tmp 167) (.tmp 174) 23 rfl w.heap.size 5 i0 (.int .u8 0) 1 1 Tryz.underlying23 hi hz0 hz1 hz2 rfl (by decide) (.slice (some ⟨g, 0, none⟩) n8 c) n8 (u8V l) rfl (World.ownsRow.alloc (w := wc.drewN _) HOV.out _) (wc.heap.size + 1) (some ⟨wc.heap.size, 0, none⟩) 1 1 [_] rfl (readsNew (wc.drewN _) _ _ rfl) (fun u hu => by simp at hu; subst hu; rfl) (by unfold maxLen; omega) (by omega) (by simp; omega) ?_; intro v9 w9 hown9 hg9 hat9)
                    | (go_simp; go_at_call 85; refine (HCRC.out 1).mono ?_; rintro e w' ⟨y, rfl, q, rfl⟩))
                  all_goals
                    have hb9 : Below w.heap.size w w9 := ((Below.drewN HK.out _).alloc hBc _).grown hg9 (by simp; omega) (fun k hk => by
                      have hk' : some g = some k := hk
                      injection hk' with hk'
                      omega)
                    rw [u8V_snoc] at hown9
                    go_wp2_with fail
                    go_ret
                    exact newRow_of hown9 (by omega) (by omega) hb9
end Go.Proofs.YtlabcknoooaefaaGreatDoor
