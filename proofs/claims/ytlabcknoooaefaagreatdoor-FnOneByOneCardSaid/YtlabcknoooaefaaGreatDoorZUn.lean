/-
  PIECES OF A FUNCTION's CODE, walked each by itself: a block or a region found by its number; what follows put behind a letter.
-/
import Derived.Test.YtlabcknoooaefaaGreatDoorZPj
import Derived.StillTailTactics
import Derived.Deep.RegionLaw
import Derived.IntWalk
namespace Go.Proofs.YtlabcknoooaefaaGreatDoor
open Go.RowKit
set_option linter.unusedVariables false

/-- The block of this number. -/
def findBlock (n : Nat) : Code → Option Code
  | .block m c => match m.beq n with
    | true => some (.block m c)
    | false => findBlock n c
  | .seq a b => match findBlock n a with
    | some c => some c
    | none => findBlock n b
  | .cond _ a b => match findBlock n a with
    | some c => some c
    | none => findBlock n b
  | .loop c => findBlock n c
  | .scope c => findBlock n c
  | _ => none

/-- The region of this number. -/
def findRegion (n : Nat) : Code → Option Code
  | .region m o b => match m.beq n with
    | true => some (.region m o b)
    | false => none
  | .block _ c => findRegion n c
  | .seq a b => match findRegion n a with
    | some c => some c
    | none => findRegion n b
  | .cond _ a b => match findRegion n a with
    | some c => some c
    | none => findRegion n b
  | .loop c => findRegion n c
  | .scope c => findRegion n c
  | _ => none

def NoQ : Exit → Act → World → Prop := fun _ _ _ => False

theorem wp_letter {P : Program} {s : Code} {a : Act} {w : World} {R : Act → World → Prop}
    (first : ∀ (J K' : Act → World → Prop), (∀ a' w', R a' w' → J a' w') → (∀ a' w', Met J a' w' → K' a' w') → s.wp P (Exit.then K' NoQ) a w) : s.wp P (Exit.then R NoQ) a w :=
  first R R (fun _ _ q => q) (fun _ _ q => q)

theorem wp_use {P : Program} {s : Code} {a : Act} {w : World} {R K : Act → World → Prop} {Q : Exit → Act → World → Prop}
    (h : s.wp P (Exit.then R NoQ) a w) (k : ∀ a' w', R a' w' → K a' w') : s.wp P (Exit.then K Q) a w := by
  refine wp_mono h ?_
  intro e a' w' hq
  cases e with
  | normal => exact k _ _ hq
  | exit id => exact hq.elim
  | goto l => exact hq.elim
  | ret => exact hq.elim
  | panic ch => exact hq.elim
  | outgrown => exact hq.elim
end Go.Proofs.YtlabcknoooaefaaGreatDoor

/-
  THE STREAM OF NUMBERS: what a frame's end carries.
-/
namespace Go.Proofs.YtlabcknoooaefaaGreatDoor
open Go.RowKit
set_option linter.unusedVariables false

theorem info53 : (Tryz.prog.info? 53).map (fun i => (i.zero, i.size, i.bytes)) = some (some (.agg #[.bool false, .int .i64 0, .int .i64 0, .int .i64 0, .int .i64 0, .int .u64 0]), 6, 48) := by kernel_rfl
theorem info54 : (Tryz.prog.info? 54).map (fun i => (i.zero, i.size, i.bytes)) = some (some (.slice none 0 0), 1, 24) := by kernel_rfl
theorem info37 : (Tryz.prog.info? 37).map (fun i => (i.zero, i.size, i.bytes)) = some (some (.agg #[.bool false, .int .i64 0, .int .i64 0, .int .i64 0, .int .i64 0, .int .u64 0, .slice none 0 0]), 7, 72) := by kernel_rfl
theorem info42 : (Tryz.prog.info? 42).map (fun i => (i.zero, i.size, i.bytes)) = some (some (.agg #[.int .i64 0, .int .i64 0, .int .i64 0, .slice none 0 0, .slice none 0 0, .int .i64 0, .int .i64 0, .int .i64 0, .slice none 0 0]), 9, 120) := by kernel_rfl

theorem readsBlk (w : World) (cs : Array Value) (t : TypeId) (N k : Nat) (hN : N = w.heap.size) (hk : cs.size = k) : Reads (w.alloc (.cells cs t)) (w.heap.size + 1) k (some ⟨N, 0, none⟩) 1 cs.toList := by
  subst hN
  refine ⟨by simp [hk], fun _ => ⟨_, rfl, by simp, fun j u hj => ?_⟩⟩
  have hb := Bk.new w t cs
  have e : (⟨w.heap.size, 0, none⟩ : Addr).add j = ⟨w.heap.size, j, none⟩ := by simp [Addr.add]; omega
  rw [e, hb.cell]
  simpa using hj

theorem ownsForm {w : World} {base size n : Nat} {e : TypeId} {v : Value} {xs : List Value} (h : w.ownsRow base e size v n xs) : ∃ A c, v = .slice A n c := by
  rcases h.2 with ⟨h1, h2⟩ | ⟨g, cap, cur, h1, _⟩
  · subst h2
    exact ⟨none, 0, h1⟩
  · exact ⟨_, _, h1⟩

theorem wframeN (varies : Bool) (size : Nat) (rate assign bits num : Int) (hs : 1 ≤ size ∧ size ≤ 256) (hr : 0 ≤ rate ∧ rate ≤ 1000000) (hn : 0 ≤ num ∧ num < 2048) (ha : 0 ≤ assign ∧ assign < 8) (hb : 8 ≤ bits ∧ bits ≤ 24) (cb ccap : Nat) (cs : List ChG) (n : Nat) (hcn : cs.length = n) (hcs : 1 ≤ n ∧ n ≤ 8) (hcc : n ≤ ccap ∧ ccap ≤ maxLen) (A : Option Addr) (lc : Nat) (plain : Bool) (w : World) (hat : ChsAt cb cs size w) :
    Calls Tryz.prog 24 #[.agg #[.bool varies, .int .i64 size, .int .i64 rate, .int .i64 assign, .int .i64 bits, .int .u64 num], .slice (some ⟨cb, 0, none⟩) n ccap, .int .i64 bits, .slice A 0 lc, .bool plain] w (NewBytes 1000000 w) := by
  subst hcn
  exact wframeP varies size rate assign bits num plain hs hr hn ha hb cb ccap cs hcs hcc A lc w hat

/-- A frame of the generator at its end: three rows that grow, all else. -/
structure FinSt (B ib hbk : Nat) (rate asg bits : Int) (hc : Array Value) (nch : Nat) (frs : List FrG) (v19 : Value) (n19 : Nat) (x19 : List Value) (v20 : Value) (n20 : Nat) (x20 : List Value) (v21 : Value) (n21 : Nat) (x21 : List Value) (w0 w : World) : Prop where
  frm : ∀ (q : Nat) (f : FrG), frs[q]? = some f → f.at nch w
  ib : Bk w ib 47 #[.int .i64 0, .int .i64 0, .int .i64 0, .int .i64 0, .int .i64 rate, .int .i64 (asg + 1), .int .i64 bits, .int .u64 0, .slice none 0 0]
  rb : Bk w B 47 #[.int .i64 0, .int .i64 0, .int .i64 0, .int .i64 0, .int .i64 0, .int .i64 0, .int .i64 0, .int .u64 0, .slice none 0 0]
  hd : Bk w hbk 53 hc
  below : Below B w0 w
  hB : B ≤ w.heap.size
  r19 : w.ownsRow B 53 6 v19 n19 x19
  r20 : w.ownsRow B 54 1 v20 n20 x20
  r21 : w.ownsRow B 5 1 v21 n21 x21

section
variable {B ib hbk : Nat} {rate asg bits : Int} {hc : Array Value} {nch : Nat} {frs : List FrG} {v19 : Value} {n19 : Nat} {x19 : List Value} {v20 : Value} {n20 : Nat} {x20 : List Value} {v21 : Value} {n21 : Nat} {x21 : List Value} {w0 w w1 : World}

theorem FinSt.same (h : FinSt B ib hbk rate asg bits hc nch frs v19 n19 x19 v20 n20 x20 v21 n21 x21 w0 w) (k : Below w.heap.size w w1) : FinSt B ib hbk rate asg bits hc nch frs v19 n19 x19 v20 n20 x20 v21 n21 x21 w0 w1 :=
  ⟨fun q f hf => (h.frm q f hf).below k, h.ib.below k h.ib.lt, h.rb.below k h.rb.lt, h.hd.below k h.hd.lt, h.below.trans (k.mono h.hB), Nat.le_trans h.hB k.size, ownsRow_below h.r19 k (fun q hq => (h.r19.lt q hq).2), ownsRow_below h.r20 k (fun q hq => (h.r20.lt q hq).2), ownsRow_below h.r21 k (fun q hq => (h.r21.lt q hq).2)⟩

theorem FrG.at.grown {f : FrG} {e : TypeId} {base size n : Nat} {v : Value} {xs : List Value} (h : f.at nch w) (own : w.ownsRow base e size v n xs) (hg : w.grownBy w1 v.ownBlock) (h1 : e ≠ 40) (h2 : e ≠ 3) : f.at nch w1 :=
  ⟨⟨grownRow own hg h.chs.row h1, fun q c hq => ⟨⟨grownRow own hg (h.chs.chs q c hq).1.row h2, (h.chs.chs q c hq).1.cap⟩, (h.chs.chs q c hq).2⟩⟩, h.nch, h.cap, h.size⟩

theorem FinSt.g19 (h : FinSt B ib hbk rate asg bits hc nch frs v19 n19 x19 v20 n20 x20 v21 n21 x21 w0 w) (hne : v19.ownBlock ≠ some hbk) (o : Obj) (hg : (w.alloc o).grownBy w1 v19.ownBlock) {v : Value} {n : Nat} {xs : List Value} (own : w1.ownsRow B 53 6 v n xs) : FinSt B ib hbk rate asg bits hc nch frs v n xs v20 n20 x20 v21 n21 x21 w0 w1 := by
  have h' := h.same ((Below.refl _ w).alloc (Nat.le_refl _) o)
  exact ⟨fun q f hf => (h'.frm q f hf).grown h'.r19 hg (by decide) (by decide), grownBk h'.r19 hg h'.ib (by decide), grownBk h'.r19 hg h'.rb (by decide), (hg.block _ h'.hd.lt (fun x => hne x.symm)).trans h'.hd, h'.below.grown hg h'.hB (fun k hk => (h'.r19.lt k hk).1), Nat.le_trans h'.hB hg.size, own, grownOwn h'.r19 hg h'.r20 (by decide), grownOwn h'.r19 hg h'.r21 (by decide)⟩

theorem FinSt.g20 (h : FinSt B ib hbk rate asg bits hc nch frs v19 n19 x19 v20 n20 x20 v21 n21 x21 w0 w) (o : Obj) (hg : (w.alloc o).grownBy w1 v20.ownBlock) {v : Value} {n : Nat} {xs : List Value} (own : w1.ownsRow B 54 1 v n xs) : FinSt B ib hbk rate asg bits hc nch frs v19 n19 x19 v n xs v21 n21 x21 w0 w1 := by
  have h' := h.same ((Below.refl _ w).alloc (Nat.le_refl _) o)
  exact ⟨fun q f hf => (h'.frm q f hf).grown h'.r20 hg (by decide) (by decide), grownBk h'.r20 hg h'.ib (by decide), grownBk h'.r20 hg h'.rb (by decide), grownBk h'.r20 hg h'.hd (by decide), h'.below.grown hg h'.hB (fun k hk => (h'.r20.lt k hk).1), Nat.le_trans h'.hB hg.size, grownOwn h'.r20 hg h'.r19 (by decide), own, grownOwn h'.r20 hg h'.r21 (by decide)⟩

theorem FinSt.g21 (h : FinSt B ib hbk rate asg bits hc nch frs v19 n19 x19 v20 n20 x20 v21 n21 x21 w0 w) (hg : w.grownBy w1 v21.ownBlock) {v : Value} {n : Nat} {xs : List Value} (own : w1.ownsRow B 5 1 v n xs) : FinSt B ib hbk rate asg bits hc nch frs v19 n19 x19 v20 n20 x20 v n xs w0 w1 := by
  have h' := h
  exact ⟨fun q f hf => (h'.frm q f hf).grown h'.r21 hg (by decide) (by decide), grownBk h'.r21 hg h'.ib (by decide), grownBk h'.r21 hg h'.rb (by decide), grownBk h'.r21 hg h'.hd (by decide), h'.below.grown hg h'.hB (fun k hk => (h'.r21.lt k hk).1), Nat.le_trans h'.hB hg.size, grownOwn h'.r21 hg h'.r19 (by decide), grownOwn h'.r21 hg h'.r20 (by decide), own⟩

theorem FinSt.cells {a0 a1 a2 a3 a4 a5 : Value} (h : FinSt B ib hbk rate asg bits #[a0, a1, a2, a3, a4, a5] nch frs v19 n19 x19 v20 n20 x20 v21 n21 x21 w0 w) :
    w.cell? ⟨hbk, 0, none⟩ = some a0 ∧ w.cell? ⟨hbk, 1, none⟩ = some a1 ∧ w.cell? ⟨hbk, 2, none⟩ = some a2 ∧ w.cell? ⟨hbk, 3, none⟩ = some a3 ∧ w.cell? ⟨hbk, 4, none⟩ = some a4 ∧ w.cell? ⟨hbk, 5, none⟩ = some a5 ∧ w.cell? ⟨ib, 6, none⟩ = some (.int .i64 bits) := by
  refine ⟨?_, ?_, ?_, ?_, ?_, ?_, ?_⟩
  all_goals first | (rw [h.hd.cell]; rfl) | (rw [h.ib.cell]; rfl)
end

/-- A frame's samples are all there: the frame itself. -/
theorem finStart {B ib : Nat} {varies : Bool} {rate asg bits : Int} {nch : Nat} {v19 v20 v21 : Value} {j nb : Nat} {frs : List FrG} {bl : List Int} {w0 wr : World} (L : LSt B ib varies rate asg bits nch v19 v20 v21 j nb frs bl w0 wr)
    {wl hb : Nat} {hc : Array Value} {cb ccap size : Nat} {cs : List ChG} (C : CSt wl hb hc (.slice (some ⟨cb, 0, none⟩) nch ccap) nch size cs wr) (rt num : Int) (hrow : Row wr cb 40 (cs.map ChG.val)) (hcap : nch ≤ ccap ∧ ccap ≤ maxLen) (hsz : 1 ≤ size ∧ size ≤ 256) :
    FinSt B ib hb rate asg bits hc nch (frs ++ [⟨size, rt, num, cb, ccap, cs⟩]) v19 j (frs.flatMap (FrG.head varies asg bits)) v20 j (frs.map FrG.chv) v21 nb (u8V bl) w0 wr := by
  refine ⟨fun q f hf => ?_, L.ib, L.rb, C.hd, L.below, L.hB, L.heads, L.all, L.out⟩
  by_cases hq : q < frs.length
  · rw [List.getElem?_append_left hq] at hf
    exact L.frm q f hf
  · rw [List.getElem?_append_right (by omega)] at hf
    have hq0 : q - frs.length = 0 := by
      rcases hk : q - frs.length with _ | k
      · rfl
      · rw [hk] at hf
        simp at hf
    rw [hq0] at hf
    simp at hf
    subst hf
    exact ⟨⟨hrow, C.chs⟩, C.len, by show cs.length ≤ ccap ∧ ccap ≤ maxLen; rw [C.len]; exact hcap, hsz⟩

theorem finEnd {B ib hbk : Nat} {varies : Bool} {rate asg bits : Int} {hc : Array Value} {nch : Nat} {frs : List FrG} {f : FrG} {v19 v20 v21 : Value} {j nb n2 : Nat} {bl l2 : List Int} {w0 w : World} {x21 : List Value} (hj : frs.length = j) (hnb : nb ≤ 1000000 * j) (hn2 : n2 ≤ 1000000) (hx : x21 = u8V bl ++ u8V l2)
    (h : FinSt B ib hbk rate asg bits hc nch (frs ++ [f]) v19 (j + 1) (frs.flatMap (FrG.head varies asg bits) ++ f.head varies asg bits) v20 (j + 1) (frs.map FrG.chv ++ [f.chv]) v21 (nb + n2) x21 w0 w) :
    LSt B ib varies rate asg bits nch v19 v20 v21 (j + 1) (nb + n2) (frs ++ [f]) (bl ++ l2) w0 w := by
  subst hx
  exact ⟨by simp [hj], by simpa using h.r19, by simpa using h.r20, by simpa [u8V] using h.r21, by omega, h.frm, h.ib, h.rb, h.below, h.hB⟩
end Go.Proofs.YtlabcknoooaefaaGreatDoor

/-
  THE STREAM OF NUMBERS: what its end carries.
-/
namespace Go.Proofs.YtlabcknoooaefaaGreatDoor
open Go.RowKit
set_option linter.unusedVariables false

/-- The code from this region on, to the end of its sequence. -/
def findTail (n : Nat) : Code → Option Code
  | .seq a b => match a with
    | .region m o f => match m.beq n with
      | true => some (.seq a b)
      | false => findTail n b
    | _ => match findTail n a with
      | some c => some c
      | none => findTail n b
  | .block _ c => findTail n c
  | .cond _ a b => match findTail n a with
    | some c => some c
    | none => findTail n b
  | .loop c => findTail n c
  | .scope c => findTail n c
  | _ => none

/-- Behind the last frame: the two rows, the two boxes, all else. -/
structure EndSt (B ib0 : Nat) (ic rc : Array Value) (varies : Bool) (asg bits : Int) (nch m : Nat) (v19 v20 : Value) (frs : List FrG) (w0 w : World) : Prop where
  frm : ∀ (q : Nat) (f : FrG), frs[q]? = some f → f.at nch w
  ib : Bk w ib0 47 ic
  rb : Bk w B 47 rc
  ne : B < ib0
  below : Below B w0 w
  hB : B ≤ w.heap.size
  r19 : w.ownsRow B 53 6 v19 m (frs.flatMap (FrG.head varies asg bits))
  r20 : w.ownsRow B 54 1 v20 m (frs.map FrG.chv)

section
variable {B ib : Nat} {ic rc : Array Value} {varies : Bool} {asg bits : Int} {nch m : Nat} {v19 v20 : Value} {frs : List FrG} {w0 w w1 : World}

theorem EndSt.same (h : EndSt B ib ic rc varies asg bits nch m v19 v20 frs w0 w) (k : Below w.heap.size w w1) : EndSt B ib ic rc varies asg bits nch m v19 v20 frs w0 w1 :=
  ⟨fun q f hf => (h.frm q f hf).below k, h.ib.below k h.ib.lt, h.rb.below k h.rb.lt, h.ne, h.below.trans (k.mono h.hB), Nat.le_trans h.hB k.size, ownsRow_below h.r19 k (fun q hq => (h.r19.lt q hq).2), ownsRow_below h.r20 k (fun q hq => (h.r20.lt q hq).2)⟩

theorem EndSt.putI (h : EndSt B ib ic rc varies asg bits nch m v19 v20 frs w0 w) (i : Nat) (u : Value) : EndSt B ib (ic.setIfInBounds i u) rc varies asg bits nch m v19 v20 frs w0 (w.setCell ⟨ib, i, none⟩ u) :=
  ⟨fun q f hf => (h.frm q f hf).far h.ib (by decide) (by decide) i u, h.ib.put i u, h.rb.far (p := ⟨ib, i, none⟩) (Nat.ne_of_lt h.ne) u, h.ne, h.below.setCell (Nat.le_of_lt h.ne) u, by simpa [World.setCell] using h.hB, ownsRow_setCell_other h.r19 (ownsRow_ne h.r19 h.ib (by decide)) u, ownsRow_setCell_other h.r20 (ownsRow_ne h.r20 h.ib (by decide)) u⟩

theorem EndSt.putR (h : EndSt B ib ic rc varies asg bits nch m v19 v20 frs w0 w) (i : Nat) (u : Value) : EndSt B ib ic (rc.setIfInBounds i u) varies asg bits nch m v19 v20 frs w0 (w.setCell ⟨B, i, none⟩ u) :=
  ⟨fun q f hf => (h.frm q f hf).far h.rb (by decide) (by decide) i u, h.ib.far (p := ⟨B, i, none⟩) (Nat.ne_of_gt h.ne) u, h.rb.put i u, h.ne, h.below.setCell (Nat.le_refl _) u, by simpa [World.setCell] using h.hB, ownsRow_setCell_other h.r19 (ownsRow_ne h.r19 h.rb (by decide)) u, ownsRow_setCell_other h.r20 (ownsRow_ne h.r20 h.rb (by decide)) u⟩

theorem EndSt.g5 (h : EndSt B ib ic rc varies asg bits nch m v19 v20 frs w0 w) {size n : Nat} {v : Value} {xs : List Value} (own : w.ownsRow B 5 size v n xs) (hg : w.grownBy w1 v.ownBlock) : EndSt B ib ic rc varies asg bits nch m v19 v20 frs w0 w1 :=
  ⟨fun q f hf => (h.frm q f hf).grown own hg (by decide) (by decide), grownBk own hg h.ib (by decide), grownBk own hg h.rb (by decide), h.ne, h.below.grown hg h.hB (fun k hk => (own.lt k hk).1), Nat.le_trans h.hB hg.size, grownOwn own hg h.r19 (by decide), grownOwn own hg h.r20 (by decide)⟩
end

theorem LSt.toEnd {B ib : Nat} {varies : Bool} {rate asg bits : Int} {nch : Nat} {v19 v20 v21 : Value} {j nb : Nat} {frs : List FrG} {bl : List Int} {w0 wr : World} (L : LSt B ib varies rate asg bits nch v19 v20 v21 j nb frs bl w0 wr) (hne : B < ib) :
    EndSt B ib #[.int .i64 0, .int .i64 0, .int .i64 0, .int .i64 0, .int .i64 rate, .int .i64 (asg + 1), .int .i64 bits, .int .u64 0, .slice none 0 0] #[.int .i64 0, .int .i64 0, .int .i64 0, .int .i64 0, .int .i64 0, .int .i64 0, .int .i64 0, .int .u64 0, .slice none 0 0] varies asg bits nch j v19 v20 frs w0 wr :=
  ⟨L.frm, L.ib, L.rb, hne, L.below, L.hB, L.heads, L.all⟩

theorem winfoN (rate ch bits nsam : Int) (hn : 0 ≤ nsam ∧ nsam ≤ 2000) (hc : 1 ≤ ch ∧ ch ≤ 8) (hb : 8 ≤ bits ∧ bits ≤ 24) (last : Bool) (w : World) :
    Calls Tryz.prog 25 #[.agg #[.int .i64 16, .int .i64 4096, .int .i64 0, .int .i64 0, .int .i64 rate, .int .i64 ch, .int .i64 bits, .int .u64 nsam, .slice none 0 0], .bool last] w (NewBytesF 4096 w) :=
  winfoP rate ch bits nsam hn hc hb last w

theorem ownsFull {w : World} {base n g : Nat} {e : TypeId} {xs : List Value} (h : w.ownsRow base e 1 (.slice (some ⟨g, 0, none⟩) n n) n xs) : Bk w g e xs.toArray := by
  rcases h.2 with ⟨h1, h2⟩ | ⟨g2, cap, cur, h1, h2, h3, h4, h5, h6, h7⟩
  · cases h1
  · injection h1 with e1 e2 e3
    injection e1 with e1
    injection e1 with e1
    subst e1 e3
    have hx : xs = cur.toList := by
      rw [← h7, List.take_of_length_le (by simp; omega)]
    unfold Bk
    rw [h3, hx]
end Go.Proofs.YtlabcknoooaefaaGreatDoor
