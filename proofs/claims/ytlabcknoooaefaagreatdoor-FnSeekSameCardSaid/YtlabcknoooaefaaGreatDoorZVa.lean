/-
  WHAT THE LAWS GIVE THE ENCODER: a subframe under way.
-/
import Derived.Test.YtlabcknoooaefaaGreatDoorZUn
import Derived.Test.YtlabcknoooaefaaGreatDoorZIj
namespace Go.Proofs.YtlabcknoooaefaaGreatDoor
open Go.RowKit
set_option linter.unusedVariables false

/-- A subframe under way: its box, its samples so far, its parts' numbers so far. -/
structure SubSt (B sbx : Nat) (kind order part : Int) (v3 : Value) (n : Nat) (smp : List Int) (v8 : Value) (k : Nat) (prm : List Int) (w0 w : World) : Prop where
  box : Bk w sbx 42 #[.int .i64 kind, .int .i64 order, .int .i64 0, v3, .slice none 0 0, .int .i64 0, .int .i64 0, .int .i64 part, v8]
  r3 : w.ownsRow B 21 1 v3 n (i32V smp)
  r8 : w.ownsRow B 3 1 v8 k (intV prm)
  below : Below B w0 w
  hB : B ≤ w.heap.size
  sb : B ≤ sbx

section
variable {B sbx : Nat} {kind order part : Int} {v3 : Value} {n : Nat} {smp : List Int} {v8 : Value} {k : Nat} {prm : List Int} {w0 w w1 : World}

theorem SubSt.same (h : SubSt B sbx kind order part v3 n smp v8 k prm w0 w) (b : Below w.heap.size w w1) : SubSt B sbx kind order part v3 n smp v8 k prm w0 w1 :=
  ⟨h.box.below b h.box.lt, ownsRow_below h.r3 b (fun q hq => (h.r3.lt q hq).2), ownsRow_below h.r8 b (fun q hq => (h.r8.lt q hq).2), h.below.trans (b.mono h.hB), Nat.le_trans h.hB b.size, h.sb⟩

theorem SubSt.cells (h : SubSt B sbx kind order part v3 n smp v8 k prm w0 w) :
    w.cell? ⟨sbx, 0, none⟩ = some (.int .i64 kind) ∧ w.cell? ⟨sbx, 1, none⟩ = some (.int .i64 order) ∧ w.cell? ⟨sbx, 3, none⟩ = some v3 ∧ w.cell? ⟨sbx, 7, none⟩ = some (.int .i64 part) ∧ w.cell? ⟨sbx, 8, none⟩ = some v8 ∧ ∀ i, w.frozen? ⟨sbx, i, none⟩ = false := by
  refine ⟨?_, ?_, ?_, ?_, ?_, fun i => h.box.frozen i⟩ <;> (rw [h.box.cell]; rfl)

theorem SubSt.all (h : SubSt B sbx kind order part v3 n smp v8 k prm w0 w) :
    w.cell? ⟨sbx, 0, none⟩ = some (.int .i64 kind) ∧ w.cell? ⟨sbx, 1, none⟩ = some (.int .i64 order) ∧ w.cell? ⟨sbx, 2, none⟩ = some (.int .i64 0) ∧ w.cell? ⟨sbx, 3, none⟩ = some v3 ∧ w.cell? ⟨sbx, 4, none⟩ = some (.slice none 0 0) ∧ w.cell? ⟨sbx, 5, none⟩ = some (.int .i64 0) ∧ w.cell? ⟨sbx, 6, none⟩ = some (.int .i64 0) ∧ w.cell? ⟨sbx, 7, none⟩ = some (.int .i64 part) ∧ w.cell? ⟨sbx, 8, none⟩ = some v8 := by
  refine ⟨?_, ?_, ?_, ?_, ?_, ?_, ?_, ?_, ?_⟩ <;> (rw [h.box.cell]; rfl)

theorem SubSt.put (h : SubSt B sbx kind order part v3 n smp v8 k prm w0 w) (i : Nat) (u : Value) {kind' order' part' : Int} {v3' v8' : Value}
    (he : (#[.int .i64 kind, .int .i64 order, .int .i64 0, v3, .slice none 0 0, .int .i64 0, .int .i64 0, .int .i64 part, v8] : Array Value).setIfInBounds i u = #[.int .i64 kind', .int .i64 order', .int .i64 0, v3', .slice none 0 0, .int .i64 0, .int .i64 0, .int .i64 part', v8'])
    {n' k' : Nat} {smp' prm' : List Int} (o3 : w.ownsRow B 21 1 v3' n' (i32V smp')) (o8 : w.ownsRow B 3 1 v8' k' (intV prm')) :
    SubSt B sbx kind' order' part' v3' n' smp' v8' k' prm' w0 (w.setCell ⟨sbx, i, none⟩ u) :=
  ⟨he ▸ h.box.put i u, ownsRow_setCell_other o3 (a := ⟨sbx, i, none⟩) (ownsRow_ne o3 h.box (by decide)) u, ownsRow_setCell_other o8 (a := ⟨sbx, i, none⟩) (ownsRow_ne o8 h.box (by decide)) u, h.below.setCell h.sb u, by simpa [World.setCell] using h.hB, h.sb⟩

theorem SubSt.put0 (h : SubSt B sbx kind order part v3 n smp v8 k prm w0 w) (x : Int) : SubSt B sbx x order part v3 n smp v8 k prm w0 (w.setCell ⟨sbx, 0, none⟩ (.int .i64 x)) := h.put 0 _ rfl h.r3 h.r8
theorem SubSt.put1 (h : SubSt B sbx kind order part v3 n smp v8 k prm w0 w) (x : Int) : SubSt B sbx kind x part v3 n smp v8 k prm w0 (w.setCell ⟨sbx, 1, none⟩ (.int .i64 x)) := h.put 1 _ rfl h.r3 h.r8
theorem SubSt.put7 (h : SubSt B sbx kind order part v3 n smp v8 k prm w0 w) (x : Int) : SubSt B sbx kind order x v3 n smp v8 k prm w0 (w.setCell ⟨sbx, 7, none⟩ (.int .i64 x)) := h.put 7 _ rfl h.r3 h.r8
theorem SubSt.put8 (h : SubSt B sbx kind order part v3 n smp v8 k prm w0 w) : SubSt B sbx kind order part v3 n smp (.slice none 0 0) 0 [] w0 (w.setCell ⟨sbx, 8, none⟩ (.slice none 0 0)) := h.put 8 _ rfl h.r3 (World.ownsRow_nil _ _ _ _)

theorem SubSt.grow3 (h : SubSt B sbx kind order part v3 n smp v8 k prm w0 w) (o : Obj) (hg : (w.alloc o).grownBy w1 v3.ownBlock) {v : Value} {m : Nat} {l : List Int} (own : w1.ownsRow B 21 1 v m (i32V l)) : SubSt B sbx kind order part v m l v8 k prm w0 (w1.setCell ⟨sbx, 3, none⟩ v) := by
  have h' := h.same ((Below.refl _ w).alloc (Nat.le_refl _) o)
  have bx := grownBk h'.r3 hg h'.box (by decide)
  have r8 := grownOwn h'.r3 hg h'.r8 (by decide)
  have bl := h'.below.grown hg h'.hB (fun k hk => (h'.r3.lt k hk).1)
  exact ⟨bx.put 3 v, ownsRow_setCell_other own (a := ⟨sbx, 3, none⟩) (ownsRow_ne own bx (by decide)) v, ownsRow_setCell_other r8 (a := ⟨sbx, 3, none⟩) (ownsRow_ne r8 bx (by decide)) v, bl.setCell h.sb v, by have := hg.size; have := h'.hB; simp [World.setCell]; omega, h.sb⟩

theorem SubSt.grow3c (h : SubSt B sbx kind order part v3 n smp v8 k prm w0 w) (o : Obj) (hg : (w.alloc o).grownBy w1 v3.ownBlock) : w1.cell? ⟨sbx, 3, none⟩ = some v3 ∧ w1.frozen? ⟨sbx, 3, none⟩ = false := by
  have h' := h.same ((Below.refl _ w).alloc (Nat.le_refl _) o)
  have bx := grownBk h'.r3 hg h'.box (by decide)
  exact ⟨by rw [bx.cell]; rfl, bx.frozen 3⟩

theorem SubSt.grow3o (h : SubSt B sbx kind order part v3 n smp v8 k prm w0 w) (o : Obj) (hg : (w.alloc o).grownBy w1 v3.ownBlock) (p : Addr) (hp : p.block < B) : w1.cell? p = w0.cell? p := by
  have h' := h.same ((Below.refl _ w).alloc (Nat.le_refl _) o)
  exact (h'.below.grown hg h'.hB (fun k hk => (h'.r3.lt k hk).1)).cell hp

theorem SubSt.grow8c (h : SubSt B sbx kind order part v3 n smp v8 k prm w0 w) (o : Obj) (hg : ((w.alloc o).drew).grownBy w1 v8.ownBlock) : w1.cell? ⟨sbx, 8, none⟩ = some v8 ∧ w1.frozen? ⟨sbx, 8, none⟩ = false := by
  have h' := h.same ((Below.refl _ w).alloc (Nat.le_refl _) o).drew
  have bx := grownBk h'.r8 hg h'.box (by decide)
  exact ⟨by rw [bx.cell]; rfl, bx.frozen 8⟩

theorem SubSt.grow8 (h : SubSt B sbx kind order part v3 n smp v8 k prm w0 w) (o : Obj) (hg : ((w.alloc o).drew).grownBy w1 v8.ownBlock) {v : Value} {m : Nat} {l : List Int} (own : w1.ownsRow B 3 1 v m (intV l)) : SubSt B sbx kind order part v3 n smp v m l w0 (w1.setCell ⟨sbx, 8, none⟩ v) := by
  have h' := h.same ((Below.refl _ w).alloc (Nat.le_refl _) o).drew
  have bx := grownBk h'.r8 hg h'.box (by decide)
  have r3 := grownOwn h'.r8 hg h'.r3 (by decide)
  have bl := h'.below.grown hg h'.hB (fun k hk => (h'.r8.lt k hk).1)
  exact ⟨bx.put 8 v, ownsRow_setCell_other r3 (a := ⟨sbx, 8, none⟩) (ownsRow_ne r3 bx (by decide)) v, ownsRow_setCell_other own (a := ⟨sbx, 8, none⟩) (ownsRow_ne own bx (by decide)) v, bl.setCell h.sb v, by have := hg.size; have := h'.hB; simp [World.setCell]; omega, h.sb⟩
end

/-- Samples as the encoder takes them. -/
def smpOf (xs : List Int) : List Int := xs.map wrap32
theorem smpOf_len (xs : List Int) : (smpOf xs).length = xs.length := by simp [smpOf]
theorem smpOf_rng (xs : List Int) (j : Nat) : -2147483648 ≤ (smpOf xs).getD j 0 ∧ (smpOf xs).getD j 0 < 2147483648 := by
  unfold smpOf
  by_cases h : j < xs.length
  · rw [List.getD_eq_getElem?_getD, List.getElem?_map, List.getElem?_eq_getElem h]
    simp only [Option.map_some, Option.getD_some]; unfold wrap32
    omega
  · rw [List.getD_eq_getElem?_getD, List.getElem?_eq_none (by simpa using h)]
    simp
theorem smpOf_snoc (xs : List Int) (j : Nat) (h : j < xs.length) : smpOf (xs.take (j + 1)) = smpOf (xs.take j) ++ [wrap32 (xs.getD j 0)] := by
  unfold smpOf
  rw [List.take_add_one, List.getElem?_eq_getElem h, List.map_append]
  congr 1
  simp [h]
theorem smpOf_same (xs : List Int) (h : ∀ q, q < xs.length → xs.getD q 0 = xs.getD 0 0) : ∀ v ∈ smpOf xs, v = (smpOf xs).getD 0 0 := by
  intro v hv
  unfold smpOf at hv ⊢
  obtain ⟨x, hx, rfl⟩ := List.mem_map.1 hv
  obtain ⟨q, hq, rfl⟩ := List.mem_iff_getElem.1 hx
  have h1 := h q hq
  rw [List.getD_eq_getElem?_getD, List.getElem?_eq_getElem hq] at h1
  simp only [Option.getD_some] at h1
  have h0 : 0 < xs.length := by omega
  rw [List.getD_eq_getElem?_getD, List.getElem?_map]
  rw [List.getD_eq_getElem?_getD, List.getElem?_eq_getElem h0] at h1
  rw [List.getElem?_eq_getElem h0]
  simp only [Option.getD_some, Option.map_some] at h1 ⊢
  rw [h1]
theorem i32V_snoc (l : List Int) (x : Int) : i32V l ++ [.int .i32 x] = i32V (l ++ [x]) := by simp [i32V]
end Go.Proofs.YtlabcknoooaefaaGreatDoor

/-
  WHAT THE LAWS GIVE THE ENCODER: a frame under way.
-/
namespace Go.Proofs.YtlabcknoooaefaaGreatDoor
open Go.RowKit
set_option linter.unusedVariables false

def u16V (l : List Int) : List Value := l.map (.int .u16 ·)
theorem u16V_len (l : List Int) : (u16V l).length = l.length := by simp [u16V]
theorem u16V_get {l : List Int} {j : Nat} (hj : j < l.length) : (u16V l)[j]? = some (.int .u16 (l.getD j 0)) := by
  simp [u16V, hj]

/-- A frame under way: its box, its subframes so far. -/
structure GFr (Bf xb : Nat) (h0 h1 h2 h3 h4 h5 : Value) (v6 : Value) (subs : List SubI) (c size : Nat) (wf w : World) : Prop where
  box : Bk w xb 37 #[h0, h1, h2, h3, h4, h5, v6]
  row : w.ownsRow Bf 42 9 v6 c (subs.flatMap SubI.cells)
  len : subs.length = c
  ats : ∀ s ∈ subs, s.at w
  ok : ∀ s ∈ subs, s.d.ok ∧ s.d.samples.length = size
  below : Below Bf wf w
  hB : Bf ≤ w.heap.size
  xb : Bf ≤ xb

section
variable {Bf xb : Nat} {h0 h1 h2 h3 h4 h5 : Value} {v6 : Value} {subs : List SubI} {c size : Nat} {wf w w1 : World}

theorem GFr.same (h : GFr Bf xb h0 h1 h2 h3 h4 h5 v6 subs c size wf w) (k : Below w.heap.size w w1) : GFr Bf xb h0 h1 h2 h3 h4 h5 v6 subs c size wf w1 :=
  ⟨h.box.below k h.box.lt, ownsRow_below h.row k (fun q hq => (h.row.lt q hq).2), h.len, fun s hs => (h.ats s hs).below k (h.ats s hs).smp.lt (h.ats s hs).prm.lt, h.ok, h.below.trans (k.mono h.hB), Nat.le_trans h.hB k.size, h.xb⟩

theorem GFr.cells (h : GFr Bf xb h0 h1 h2 h3 h4 h5 v6 subs c size wf w) : w.cell? ⟨xb, 6, none⟩ = some v6 ∧ w.frozen? ⟨xb, 6, none⟩ = false := ⟨by rw [h.box.cell]; rfl, h.box.frozen 6⟩

theorem GFr.step {sbx : Nat} {kind : Int} {o p : Nat} {mb scap pb pcap n np : Nat} {smp prm : List Int} {w0 : World}
    (h : GFr Bf xb h0 h1 h2 h3 h4 h5 v6 subs c size wf w0)
    (S : SubSt w0.heap.size sbx kind (o : Int) (p : Int) (.slice (some ⟨mb, 0, none⟩) n scap) n smp (.slice (some ⟨pb, 0, none⟩) np pcap) np prm w0 w)
    (hok : (⟨kind, o, p, prm, smp⟩ : SubD).ok) (hn : smp.length = n) (hnp : prm.length = np) (hsz : n = size) (o0 : Obj)
    (hg : (w.alloc o0).grownBy w1 v6.ownBlock) {v' : Value}
    (own : w1.ownsRow Bf 42 9 v' (c + 1) (subs.flatMap SubI.cells ++ [.int .i64 kind, .int .i64 (o : Int), .int .i64 0, .slice (some ⟨mb, 0, none⟩) n scap, .slice none 0 0, .int .i64 0, .int .i64 0, .int .i64 (p : Int), .slice (some ⟨pb, 0, none⟩) np pcap])) :
    ∃ subs', GFr Bf xb h0 h1 h2 h3 h4 h5 v' subs' (c + 1) size wf (w1.setCell ⟨xb, 6, none⟩ v') := by
  have H := (h.same S.below).same ((Below.refl _ w).alloc (Nat.le_refl _) o0)
  have S' := S.same ((Below.refl _ w).alloc (Nat.le_refl _) o0)
  have hn1 : 0 < n := by rw [← hn]; exact hok.len.1
  have hnp1 : 0 < np := by
    rw [← hnp, hok.np]
    exact Nat.two_pow_pos _
  obtain ⟨g1, c1, e1, hm1, hm2, hm3, hm4, hm5⟩ := ownsRow_some S'.r3 hn1
  obtain ⟨g2, c2, e2, hp1, hp2, hp3, hp4, hp5⟩ := ownsRow_some S'.r8 hnp1
  injection e1 with e1 _ e1c
  injection e1 with e1
  injection e1 with e1
  injection e2 with e2 _ e2c
  injection e2 with e2
  injection e2 with e2
  subst e1 e2 e1c e2c
  have bx := grownBk H.row hg H.box (by decide)
  have rw1 : ∀ (b : Nat) (t : TypeId) (l : List Value), t ≠ 42 → t ≠ 37 → Row (w.alloc o0) b t l → Row (w1.setCell ⟨xb, 6, none⟩ v') b t l := fun b t l ht ht2 hr => rowFar (grownRow H.row hg hr (fun e => ht e.symm)) bx ht2 6 v'
  refine ⟨subs ++ [⟨⟨kind, o, p, prm, smp⟩, mb, scap, pb, pcap⟩], ?_⟩
  refine ⟨by have := bx.put 6 v'; simpa using this, ?_, by simp [H.len], ?_, ?_, ?_, ?_, H.xb⟩
  · have e : (subs ++ [(⟨⟨kind, o, p, prm, smp⟩, mb, scap, pb, pcap⟩ : SubI)]).flatMap SubI.cells = subs.flatMap SubI.cells ++ [.int .i64 kind, .int .i64 (o : Int), .int .i64 0, .slice (some ⟨mb, 0, none⟩) n scap, .slice none 0 0, .int .i64 0, .int .i64 0, .int .i64 (p : Int), .slice (some ⟨pb, 0, none⟩) np pcap] := by
      simp [SubI.cells, hn, hnp]
    rw [e]
    exact ownsRow_setCell_other own (a := ⟨xb, 6, none⟩) (ownsRow_ne own bx (by decide)) _
  · intro s hs
    rcases List.mem_append.1 hs with h' | h'
    · have hs' := H.ats s h'
      exact ⟨rw1 _ _ _ (by decide) (by decide) hs'.smp, rw1 _ _ _ (by decide) (by decide) hs'.prm, hs'.scap, hs'.pcap⟩
    · rw [List.mem_singleton.1 h']
      exact ⟨rw1 _ _ _ (by decide) (by decide) hm5, rw1 _ _ _ (by decide) (by decide) hp5, by show smp.length ≤ scap ∧ scap ≤ maxLen; rw [hn]; exact ⟨hm3, hm4⟩, by show prm.length ≤ pcap ∧ pcap ≤ maxLen; rw [hnp]; exact ⟨hp3, hp4⟩⟩
  · intro s hs
    rcases List.mem_append.1 hs with h' | h'
    · exact H.ok s h'
    · rw [List.mem_singleton.1 h']
      exact ⟨hok, by show smp.length = size; rw [hn]; exact hsz⟩
  · exact (H.below.grown hg H.hB (fun k hk => (H.row.lt k hk).1)).setCell H.xb _
  · have := hg.size
    have := H.hB
    simp [World.setCell]
    omega

theorem GFr.grownc (h : GFr Bf xb h0 h1 h2 h3 h4 h5 v6 subs c size wf w) (o : Obj) (hg : (w.alloc o).grownBy w1 v6.ownBlock) : w1.cell? ⟨xb, 6, none⟩ = some v6 ∧ w1.frozen? ⟨xb, 6, none⟩ = false := by
  have h' := h.same ((Below.refl _ w).alloc (Nat.le_refl _) o)
  have bx := grownBk h'.row hg h'.box (by decide)
  exact ⟨by rw [bx.cell]; rfl, bx.frozen 6⟩
end

/-- A subframe at its beginning. -/
theorem subStart (w : World) (kind : Int) : SubSt w.heap.size (w.heap.size + 1) kind 0 0 (.slice none 0 0) 0 [] (.slice (some ⟨w.heap.size, 0, none⟩) 1 1) 1 [4] w ((w.alloc (.cells #[.int .i64 4] 3)).alloc (.cells #[.int .i64 kind, .int .i64 0, .int .i64 0, .slice none 0 0, .slice none 0 0, .int .i64 0, .int .i64 0, .int .i64 0, .slice (some ⟨w.heap.size, 0, none⟩) 1 1] 42)) :=
  ⟨Bk.newAt _ 42 _ _ (by simp), by simpa [i32V] using World.ownsRow_nil _ _ _ _, (World.ownsRow_lit w #[.int .i64 4] 1 (Nat.le_refl _) (by decide) rfl).alloc _, ((Below.refl _ w).alloc (Nat.le_refl _) _).alloc (by simp) _, by simp; omega, by omega⟩
end Go.Proofs.YtlabcknoooaefaaGreatDoor
