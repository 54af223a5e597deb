/-
  THE STREAM OF NUMBERS: streamOf.
-/
import Derived.Test.YtlabcknoooaefaaGreatDoorZPe
import Derived.Test.YtlabcknoooaefaaGreatDoorZPf
import Derived.Deep.RegionHeld3
import Derived.Test.YtlabcknoooaefaaGreatDoorZPh
import Derived.Test.YtlabcknoooaefaaGreatDoorZUt
import Derived.Test.YtlabcknoooaefaaGreatDoorZIa
namespace Go.Proofs.YtlabcknoooaefaaGreatDoor
open Go.RowKit
set_option linter.unusedVariables false

/-- A frame as the generator has it. -/
structure FrG where
  size : Nat
  rt : Int
  num : Int
  cb : Nat
  ccap : Nat
  chs : List ChG

def FrG.head (varies : Bool) (assign bits : Int) (f : FrG) : List Value := [.bool varies, .int .i64 f.size, .int .i64 f.rt, .int .i64 assign, .int .i64 bits, .int .u64 f.num]
def FrG.chv (f : FrG) : Value := .slice (some ⟨f.cb, 0, none⟩) f.chs.length f.ccap

structure FrG.at (f : FrG) (nch : Nat) (w : World) : Prop where
  chs : ChsAt f.cb f.chs f.size w
  nch : f.chs.length = nch
  cap : f.chs.length ≤ f.ccap ∧ f.ccap ≤ maxLen
  size : 1 ≤ f.size ∧ f.size ≤ 256

theorem FrG.at.below {f : FrG} {nch : Nat} {w w' : World} (h : f.at nch w) (k : Below w.heap.size w w') : f.at nch w' := ⟨h.chs.below k, h.nch, h.cap, h.size⟩

/-- What turns no block of samples. -/
theorem ChsAt.other {cb : Nat} {cs : List ChG} {n : Nat} {w w' : World} (h : ChsAt cb cs n w) (k : ∀ (g : Nat) (o : Obj), w.heap[g]? = some o → (∀ c fz, o ≠ .cells c 53 fz) → (∀ c fz, o ≠ .cells c 54 fz) → (∀ c fz, o ≠ .cells c 5 fz) → w'.heap[g]? = some o) : ChsAt cb cs n w' := by
  refine ⟨?_, fun j c hj => ⟨⟨?_, (h.chs j c hj).1.cap⟩, (h.chs j c hj).2⟩⟩
  · obtain ⟨cur, hb, hv⟩ := h.row
    exact ⟨cur, k cb _ hb (by intro c fz e; injection e with _ e; exact absurd e (by decide)) (by intro c fz e; injection e with _ e; exact absurd e (by decide)) (by intro c fz e; injection e with _ e; exact absurd e (by decide)), hv⟩
  · obtain ⟨cur, hb, hv⟩ := (h.chs j c hj).1.row
    exact ⟨cur, k _ _ hb (by intro c fz e; injection e with _ e; exact absurd e (by decide)) (by intro c fz e; injection e with _ e; exact absurd e (by decide)) (by intro c fz e; injection e with _ e; exact absurd e (by decide)), hv⟩

/-- What the generator hands out. -/
structure StOut (w : World) (varies : Bool) (rate ch bits nsam : Int) (nch : Nat) (m : Nat) (frs : List FrG) (vh va : Value) (w' : World) : Prop where
  info : InfoR rate ch bits nsam
  irate : isRate rate
  ibits : isBits bits
  chn : ch = nch
  len : frs.length = m ∧ m ≤ 3
  heads : w'.ownsRow w.heap.size 53 6 vh m (frs.flatMap (FrG.head varies (ch - 1) bits))
  all : w'.ownsRow w.heap.size 54 1 va m (frs.map FrG.chv)
  frm : ∀ (j : Nat) (f : FrG), frs[j]? = some f → f.at nch w'
  below : Below w.heap.size w w'

def StPost (w : World) (n : Nat) (e : Ending) (w' : World) : Prop := ∃ varies rate ch bits nsam nch frs vh va vb, e = .returned (.tuple #[.agg (sinfoV rate ch bits nsam), vh, va, vb]) ∧ StOut w varies rate ch bits nsam nch (min n 3) frs vh va w'

/-- Between two frames of the generator. -/
structure LSt (B ib : Nat) (varies : Bool) (rate asg bits : Int) (nch : Nat) (v19 v20 v21 : Value) (j nb : Nat) (frs : List FrG) (bl : List Int) (w0 wr : World) : Prop where
  len : frs.length = j
  heads : wr.ownsRow B 53 6 v19 j (frs.flatMap (FrG.head varies asg bits))
  all : wr.ownsRow B 54 1 v20 j (frs.map FrG.chv)
  out : wr.ownsRow B 5 1 v21 nb (u8V bl)
  nb : nb ≤ 1000000 * j
  frm : ∀ (q : Nat) (f : FrG), frs[q]? = some f → f.at nch wr
  ib : Bk wr ib 47 #[.int .i64 0, .int .i64 0, .int .i64 0, .int .i64 0, .int .i64 rate, .int .i64 (asg + 1), .int .i64 bits, .int .u64 0, .slice none 0 0]
  rb : Bk wr B 47 #[.int .i64 0, .int .i64 0, .int .i64 0, .int .i64 0, .int .i64 0, .int .i64 0, .int .i64 0, .int .u64 0, .slice none 0 0]
  below : Below B w0 wr
  hB : B ≤ wr.heap.size

theorem LSt.same {B ib : Nat} {varies : Bool} {rate asg bits : Int} {nch : Nat} {v19 v20 v21 : Value} {j nb : Nat} {frs : List FrG} {bl : List Int} {w0 wr w' : World} (h : LSt B ib varies rate asg bits nch v19 v20 v21 j nb frs bl w0 wr) (k : Below wr.heap.size wr w') : LSt B ib varies rate asg bits nch v19 v20 v21 j nb frs bl w0 w' :=
  ⟨h.len, ownsRow_below h.heads k (fun q hq => (h.heads.lt q hq).2), ownsRow_below h.all k (fun q hq => (h.all.lt q hq).2), ownsRow_below h.out k (fun q hq => (h.out.lt q hq).2), h.nb, fun q f hf => (h.frm q f hf).below k, h.ib.below k h.ib.lt, h.rb.below k h.rb.lt, h.below.trans (k.mono h.hB), Nat.le_trans h.hB k.size⟩

theorem LSt.cells {B ib : Nat} {varies : Bool} {rate asg bits : Int} {nch : Nat} {v19 v20 v21 : Value} {j nb : Nat} {frs : List FrG} {bl : List Int} {w0 wr : World} (h : LSt B ib varies rate asg bits nch v19 v20 v21 j nb frs bl w0 wr) : wr.cell? ⟨ib, 4, none⟩ = some (.int .i64 rate) ∧ wr.cell? ⟨ib, 5, none⟩ = some (.int .i64 (asg + 1)) ∧ wr.cell? ⟨ib, 6, none⟩ = some (.int .i64 bits) := by
  refine ⟨?_, ?_, ?_⟩ <;> (rw [h.ib.cell]; rfl)

theorem rowFar {w : World} {b g : Nat} {t t' : TypeId} {l : List Value} {cs : Array Value} (h : Row w b t l) (hb : Bk w g t' cs) (hne : t ≠ t') (i : Nat) (u : Value) : Row (w.setCell ⟨g, i, none⟩ u) b t l := by
  obtain ⟨cur, hc, hv⟩ := h
  exact ⟨cur, hc.far (p := ⟨g, i, none⟩) (Bk.ne hc hb hne) u, hv⟩

theorem FrG.at.far {f : FrG} {nch : Nat} {w : World} (h : f.at nch w) {g : Nat} {t : TypeId} {cs : Array Value} (hb : Bk w g t cs) (h1 : t ≠ 40) (h2 : t ≠ 3) (i : Nat) (u : Value) : f.at nch (w.setCell ⟨g, i, none⟩ u) :=
  ⟨⟨rowFar h.chs.row hb (fun e => h1 e.symm) i u, fun q c hq => ⟨⟨rowFar (h.chs.chs q c hq).1.row hb (fun e => h2 e.symm) i u, (h.chs.chs q c hq).1.cap⟩, (h.chs.chs q c hq).2⟩⟩, h.nch, h.cap, h.size⟩

theorem LSt.setHead {B ib : Nat} {varies : Bool} {rate asg bits : Int} {nch : Nat} {v19 v20 v21 : Value} {j nb : Nat} {frs : List FrG} {bl : List Int} {w0 wr : World} (h : LSt B ib varies rate asg bits nch v19 v20 v21 j nb frs bl w0 wr) {hb : Nat} {cs : Array Value} (k : Bk wr hb 53 cs) (hne : v19.ownBlock ≠ some hb) (hge : B ≤ hb) (i : Nat) (u : Value) : LSt B ib varies rate asg bits nch v19 v20 v21 j nb frs bl w0 (wr.setCell ⟨hb, i, none⟩ u) :=
  ⟨h.len, ownsRow_setCell_other h.heads hne u, ownsRow_setCell_other h.all (ownsRow_ne h.all k (by decide)) u, ownsRow_setCell_other h.out (ownsRow_ne h.out k (by decide)) u, h.nb, fun q f hf => (h.frm q f hf).far k (by decide) (by decide) i u, h.ib.far (p := ⟨hb, i, none⟩) (Bk.ne h.ib k (by decide)) u, h.rb.far (p := ⟨hb, i, none⟩) (Bk.ne h.rb k (by decide)) u, h.below.setCell hge u, by simpa [World.setCell] using h.hB⟩

theorem rowLit00 (w : World) (e : TypeId) (B : Nat) (hB : B ≤ w.heap.size) (N : Nat) (hN : N = w.heap.size) : (w.alloc (.cells #[] e)).ownsRow B e 1 (.slice (some ⟨N, 0, none⟩) 0 0) 0 [] := by
  subst hN
  exact World.ownsRow_made w #[] 0 hB (by decide) rfl

theorem readsNew1 (w : World) (v : Value) (t : TypeId) (N : Nat) (hN : N = w.heap.size) : Reads (w.alloc (.cells #[v] t)) (w.heap.size + 1) 1 (some ⟨N, 0, none⟩) 1 [v] := by
  subst hN
  refine ⟨by simp, fun _ => ⟨_, rfl, by simp, fun j u hj => ?_⟩⟩
  rcases j with _ | j
  · simp at hj
    subst hj
    exact (Bk.new w t #[v]).cell 0
  · simp at hj

theorem sliceLow (A : Option Addr) (n c k : Nat) (hk : k ≤ n) (hc : n ≤ c) (hm : c ≤ 9223372036854775807) (W : World) : (Instr.sliceAt 23 (.slice A n c) (some (.int .i64 (k : Int))) none none).run Tryz.prog W = .ok (.slice (if c = k then A else A.map (·.add (k * 1))) (n - k) (c - k)) W := by
  have h1 : (k : Int) ≤ (c : Int) := by omega
  have h2 : (k : Int) ≤ (n : Int) := by omega
  by_cases h : c = k
  · go_simp
  · go_simp

/-- The channels of a frame under way. -/
structure CSt (B hb : Nat) (hc : Array Value) (v27 : Value) (c size : Nat) (cs : List ChG) (wr : World) : Prop where
  hd : Bk wr hb 53 hc
  len : cs.length = c
  row : wr.ownsRow B 40 1 v27 c (cs.map ChG.val)
  chs : ∀ (q : Nat) (x : ChG), cs[q]? = some x → x.at wr ∧ x.xs.length = size
  hB : B ≤ wr.heap.size

theorem CSt.same {B hb : Nat} {hc : Array Value} {v27 : Value} {c size : Nat} {cs : List ChG} {wr w' : World} (h : CSt B hb hc v27 c size cs wr) (k : Below wr.heap.size wr w') : CSt B hb hc v27 c size cs w' :=
  ⟨h.hd.below k h.hd.lt, h.len, ownsRow_below h.row k (fun q hq => (h.row.lt q hq).2), fun q x hx => ⟨(h.chs q x hx).1.below k, (h.chs q x hx).2⟩, Nat.le_trans h.hB k.size⟩

theorem grownBk {w w' : World} {g n : Nat} {t e : TypeId} {base size : Nat} {v : Value} {xs : List Value} {cs : Array Value} (own : w.ownsRow base e size v n xs) (hg : w.grownBy w' v.ownBlock) (hb : Bk w g t cs) (hne : e ≠ t) : Bk w' g t cs :=
  (hg.block g hb.lt (fun x => ownsRow_ne own hb hne x.symm)).trans hb

theorem grownRow {w w' : World} {g n : Nat} {t e : TypeId} {base size : Nat} {v : Value} {xs l : List Value} (own : w.ownsRow base e size v n xs) (hg : w.grownBy w' v.ownBlock) (hr : Row w g t l) (hne : e ≠ t) : Row w' g t l := by
  obtain ⟨cur, hb, hv⟩ := hr
  exact ⟨cur, grownBk own hg hb hne, hv⟩

theorem grownOwn {w w' : World} {n n2 : Nat} {t e : TypeId} {base size base2 size2 : Nat} {v v2 : Value} {xs l : List Value} (own : w.ownsRow base e size v n xs) (hg : w.grownBy w' v.ownBlock) (hr : w.ownsRow base2 t size2 v2 n2 l) (hne : e ≠ t) : w'.ownsRow base2 t size2 v2 n2 l :=
  ownsRow_stay hr fun k o ho hk => by
    obtain ⟨cur, hc⟩ := ownsRow_block hr hk
    have := grownBk own hg hc hne
    unfold Bk at this hc
    rw [hc] at ho
    rw [← ho]
    exact this

theorem LSt.grown40 {B ib : Nat} {varies : Bool} {rate asg bits : Int} {nch : Nat} {v19 v20 v21 : Value} {j nb : Nat} {frs : List FrG} {bl : List Int} {w0 wr w' : World} (h : LSt B ib varies rate asg bits nch v19 v20 v21 j nb frs bl w0 wr) {wl n : Nat} {v : Value} {xs : List Value} (own : wr.ownsRow wl 40 1 v n xs) (hg : wr.grownBy w' v.ownBlock) (hz : ∀ (q : Nat) (f : FrG), frs[q]? = some f → f.cb < wl) (hB : B ≤ wl) : LSt B ib varies rate asg bits nch v19 v20 v21 j nb frs bl w0 w' :=
  ⟨h.len, grownOwn own hg h.heads (by decide), grownOwn own hg h.all (by decide), grownOwn own hg h.out (by decide), h.nb, fun q f hf => by
    have hf0 := h.frm q f hf
    refine ⟨⟨?_, fun p c hc => ⟨⟨grownRow own hg (hf0.chs.chs p c hc).1.row (by decide), (hf0.chs.chs p c hc).1.cap⟩, (hf0.chs.chs p c hc).2⟩⟩, hf0.nch, hf0.cap, hf0.size⟩
    obtain ⟨cur, hb, hv⟩ := hf0.chs.row
    refine ⟨cur, (hg.block _ hb.lt (fun x => ?_)).trans hb, hv⟩
    have := (own.lt _ x.symm).1
    have := hz q f hf
    omega, grownBk own hg h.ib (by decide), grownBk own hg h.rb (by decide), h.below.grown hg h.hB (fun k hk => Nat.le_trans hB (own.lt k hk).1), Nat.le_trans h.hB hg.size⟩

theorem CSt.grown40 {B hb : Nat} {hc : Array Value} {v27 : Value} {c size : Nat} {cs : List ChG} {wr w' : World} (h : CSt B hb hc v27 c size cs wr) {n : Nat} {xs : List Value} {v : Value} {base sz : Nat} (own : wr.ownsRow base 40 sz v n xs) (hg : wr.grownBy w' v.ownBlock) : Bk w' hb 53 hc ∧ ∀ (q : Nat) (x : ChG), cs[q]? = some x → x.at w' ∧ x.xs.length = size :=
  ⟨grownBk own hg h.hd (by decide), fun q x hx => ⟨⟨grownRow own hg (h.chs q x hx).1.row (by decide), (h.chs q x hx).1.cap⟩, (h.chs q x hx).2⟩⟩

theorem roundCh {B ib : Nat} {varies : Bool} {rate asg bits : Int} {nch : Nat} {v19 v20 v21 : Value} {j nb : Nat} {frs : List FrG} {bl : List Int} {w0 wr : World} (L : LSt B ib varies rate asg bits nch v19 v20 v21 j nb frs bl w0 wr)
    {wl hb : Nat} {hc : Array Value} {v27 : Value} {c size : Nat} {cs : List ChG} (C : CSt wl hb hc v27 c size cs wr) (hwB : B ≤ wl) (hz : ∀ (q : Nat) (f : FrG), frs[q]? = some f → f.cb < wl) {wq w9 : World} {v9 : Value} {gq cq : Nat} {lq : List Int}
    (hq : Below (wr.drewN 1).heap.size (wr.drewN 1) wq) (hr : Row wq gq 3 (intV lq)) (hl : lq.length = size) (hcap : size ≤ cq ∧ cq ≤ maxLen) (o : Obj) (own9 : w9.ownsRow wl 40 1 v9 (c + 1) (cs.map ChG.val ++ [.slice (some ⟨gq, 0, none⟩) size cq])) (hg : (wq.alloc o).grownBy w9 v27.ownBlock) :
    ∃ cs', LSt B ib varies rate asg bits nch v19 v20 v21 j nb frs bl w0 w9 ∧ CSt wl hb hc v9 (c + 1) size cs' w9 := by
  have hq1 : Below wr.heap.size wr wq := (Below.drewN' (Below.refl _ wr) 1).trans hq
  have hq2 := hq1.alloc hq1.size o
  have L8 := L.same hq2
  have C8 := C.same hq2
  have L9 := L8.grown40 C8.row hg hz hwB
  obtain ⟨b9, c9⟩ := C8.grown40 C8.row hg
  have hlen := C.len
  refine ⟨cs ++ [⟨gq, cq, lq⟩], L9, b9, by simp [hlen], ?_, ?_, Nat.le_trans C8.hB hg.size⟩
  · have e : (cs ++ [(⟨gq, cq, lq⟩ : ChG)]).map ChG.val = cs.map ChG.val ++ [.slice (some ⟨gq, 0, none⟩) size cq] := by simp [ChG.val, hl]
    rw [e]
    exact own9
  · intro q x hx
    by_cases hqc : q < cs.length
    · rw [List.getElem?_append_left hqc] at hx
      exact c9 q x hx
    · rw [List.getElem?_append_right (by omega)] at hx
      have hq0 : q - cs.length = 0 := by
        rcases hk : q - cs.length with _ | k
        · rfl
        · rw [hk] at hx
          simp at hx
      rw [hq0] at hx
      simp at hx
      subst hx
      exact ⟨⟨grownRow C8.row hg (hr.alloc o) (by decide), by show lq.length ≤ cq ∧ cq ≤ maxLen; rw [hl]; exact hcap⟩, hl⟩

end Go.Proofs.YtlabcknoooaefaaGreatDoor
