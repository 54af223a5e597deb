/-
  THE THIN PACKAGE: a subframe, as it takes it.
-/
import Derived.Test.YtlabcknoooaefaaGreatDoorZIa
import Derived.Test.YtlabcknoooaefaaGreatDoorZFa
import Derived.Deep.RegionLaw
import Derived.Deep.DeepCutAuto
namespace Go.Proofs.YtlabcknoooaefaaGreatDoor
open Go.RowKit
set_option linter.unusedVariables false

/-- A subframe as the thin package takes it: its numbers, where its samples and its parts' numbers lie. -/
structure SubI where
  d : SubD
  mb : Nat
  scap : Nat
  pb : Nat
  pcap : Nat

def SubI.cells (s : SubI) : List Value := [.int .i64 s.d.kind, .int .i64 s.d.order, .int .i64 0, .slice (some ⟨s.mb, 0, none⟩) s.d.samples.length s.scap, .slice none 0 0, .int .i64 0, .int .i64 0, .int .i64 s.d.part, .slice (some ⟨s.pb, 0, none⟩) s.d.params.length s.pcap]

structure SubI.at (s : SubI) (w : World) : Prop where
  smp : Row w s.mb 21 (i32V s.d.samples)
  prm : Row w s.pb 3 (intV s.d.params)
  scap : s.d.samples.length ≤ s.scap ∧ s.scap ≤ maxLen
  pcap : s.d.params.length ≤ s.pcap ∧ s.pcap ≤ maxLen

theorem SubI.at.below {s : SubI} {w w' : World} {B : Nat} (h : s.at w) (hb : Below B w w') (h1 : s.mb < B) (h2 : s.pb < B) : s.at w' := ⟨h.smp.below hb h1, h.prm.below hb h2, h.scap, h.pcap⟩

theorem rowLit0 (w : World) (e : TypeId) (B : Nat) (hB : B ≤ w.heap.size) (N : Nat) (hN : N = w.heap.size) : (w.alloc (.cells #[] e)).ownsRow B e 1 (.slice (some ⟨N, 0, none⟩) 0 0) 0 [] := by
  subst hN
  exact World.ownsRow_made w #[] 0 hB (by decide) rfl

theorem i32V_len (l : List Int) : (i32V l).length = l.length := by simp [i32V]
theorem i32V_one (l : List Int) : ∀ v ∈ i32V l, v.oneCell' = true := by
  intro v hv
  obtain ⟨b, _, rfl⟩ := List.mem_map.1 hv
  rfl

/-- Behind a subframe's first row: its block, its samples, what it is made of. -/
structure S1 (kind order part : Int) (mb n scap pb pn pcap : Nat) (samples : List Int) (sk so pc : Int) (cf rp : Value) (g1 c1 sbk : Nat) (w0 wc : World) : Prop where
  sub : Bk wc sbk 130 #[.int .u8 sk, .int .i64 so, .int .u64 0, .int .u8 0, .int .u64 pc, .int .i32 0, cf, rp, .slice (some ⟨g1, 0, none⟩) n c1, .int .i64 n]
  smp : Row wc g1 21 (i32V samples)
  box : Bk wc w0.heap.size 42 #[.int .i64 kind, .int .i64 order, .int .i64 0, .slice (some ⟨mb, 0, none⟩) n scap, .slice none 0 0, .int .i64 0, .int .i64 0, .int .i64 part, .slice (some ⟨pb, 0, none⟩) pn pcap]
  below : Below w0.heap.size w0 wc
  sb : w0.heap.size < sbk
  mb : w0.heap.size ≤ g1
  c1 : n ≤ c1 ∧ c1 ≤ maxLen

section
variable {kind order part : Int} {mb n scap pb pn pcap : Nat} {samples : List Int} {sk so pc : Int} {cf rp : Value} {g1 c1 sbk : Nat} {w0 wc w' : World}
theorem S1.same (h : S1 kind order part mb n scap pb pn pcap samples sk so pc cf rp g1 c1 sbk w0 wc) (k : Below wc.heap.size wc w') : S1 kind order part mb n scap pb pn pcap samples sk so pc cf rp g1 c1 sbk w0 w' :=
  ⟨h.sub.below k h.sub.lt, h.smp.below k h.smp.lt, h.box.below k h.box.lt, h.below.trans (k.mono h.below.size), h.sb, h.mb, h.c1⟩

theorem S1.put (h : S1 kind order part mb n scap pb pn pcap samples sk so pc cf rp g1 c1 sbk w0 wc) (i : Nat) (u : Value) {sk' so' pc' : Int} {cf' rp' : Value}
    (he : (#[.int .u8 sk, .int .i64 so, .int .u64 0, .int .u8 0, .int .u64 pc, .int .i32 0, cf, rp, .slice (some ⟨g1, 0, none⟩) n c1, .int .i64 n] : Array Value).setIfInBounds i u = #[.int .u8 sk', .int .i64 so', .int .u64 0, .int .u8 0, .int .u64 pc', .int .i32 0, cf', rp', .slice (some ⟨g1, 0, none⟩) n c1, .int .i64 n]) :
    S1 kind order part mb n scap pb pn pcap samples sk' so' pc' cf' rp' g1 c1 sbk w0 (wc.setCell ⟨sbk, i, none⟩ u) := by
  refine ⟨he ▸ h.sub.put i u, h.smp.far (h.smp.ne h.sub (by decide)) u, h.box.far (fun e => by have := h.sb; exact absurd e (by show w0.heap.size ≠ sbk; omega)) u, h.below.setCell (Nat.le_of_lt h.sb) u, h.sb, h.mb, h.c1⟩

theorem S1.cells (h : S1 kind order part mb n scap pb pn pcap samples sk so pc cf rp g1 c1 sbk w0 wc) :
    wc.cell? ⟨w0.heap.size, 0, none⟩ = some (.int .i64 kind) ∧ wc.cell? ⟨w0.heap.size, 1, none⟩ = some (.int .i64 order) ∧ wc.cell? ⟨w0.heap.size, 2, none⟩ = some (.int .i64 0) ∧ wc.cell? ⟨w0.heap.size, 4, none⟩ = some (.slice none 0 0) ∧ wc.cell? ⟨w0.heap.size, 5, none⟩ = some (.int .i64 0) ∧ wc.cell? ⟨w0.heap.size, 6, none⟩ = some (.int .i64 0) ∧ wc.cell? ⟨w0.heap.size, 7, none⟩ = some (.int .i64 part) ∧ wc.cell? ⟨w0.heap.size, 8, none⟩ = some (.slice (some ⟨pb, 0, none⟩) pn pcap) := by
  refine ⟨?_, ?_, ?_, ?_, ?_, ?_, ?_, ?_⟩ <;> (rw [h.box.cell]; rfl)

theorem S1.subs (h : S1 kind order part mb n scap pb pn pcap samples sk so pc cf rp g1 c1 sbk w0 wc) :
    wc.cell? ⟨sbk, 0, none⟩ = some (.int .u8 sk) ∧ wc.cell? ⟨sbk, 1, none⟩ = some (.int .i64 so) ∧ wc.cell? ⟨sbk, 2, none⟩ = some (.int .u64 0) ∧ wc.cell? ⟨sbk, 3, none⟩ = some (.int .u8 0) ∧ wc.cell? ⟨sbk, 4, none⟩ = some (.int .u64 pc) ∧ wc.cell? ⟨sbk, 5, none⟩ = some (.int .i32 0) ∧ wc.cell? ⟨sbk, 6, none⟩ = some cf ∧ wc.cell? ⟨sbk, 7, none⟩ = some rp := by
  refine ⟨?_, ?_, ?_, ?_, ?_, ?_, ?_, ?_⟩ <;> (rw [h.sub.cell]; rfl)

theorem readsTwo (w : World) (x y : Value) (t : TypeId) (N : Nat) (hN : N = w.heap.size) : Reads (w.alloc (.cells #[x, y] t)) (w.heap.size + 1) 2 (some ⟨N, 0, none⟩) 1 [x, y] := by
  subst hN
  refine ⟨by simp, fun _ => ⟨_, rfl, by simp, fun j u hj => ?_⟩⟩
  have hb := Bk.new w t #[x, y]
  rcases j with _ | _ | j
  · simp at hj
    subst hj
    exact hb.cell 0
  · simp at hj
    subst hj
    exact hb.cell 1
  · simp at hj

theorem S1.step {rb : Nat} {v : Value} {n2 : Nat} {xs : List Value} {w1 : World} (h : S1 kind order part mb n scap pb pn pcap samples sk so pc cf rp g1 c1 sbk w0 wc) (rbk : Bk wc rb 134 #[.int .i64 part, v]) (own : wc.ownsRow w0.heap.size 136 2 v n2 xs) (o : Obj) (hg : ((wc.alloc o).drew).grownBy w1 v.ownBlock) (hrb : w0.heap.size ≤ rb) (u : Value) :
    S1 kind order part mb n scap pb pn pcap samples sk so pc cf rp g1 c1 sbk w0 (w1.setCell ⟨rb, 1, none⟩ u) ∧ Bk (w1.setCell ⟨rb, 1, none⟩ u) rb 134 #[.int .i64 part, u] ∧ ∀ (q : Nat) (ps : List Value), Row wc q 3 ps → Row (w1.setCell ⟨rb, 1, none⟩ u) q 3 ps := by
  have hz : w0.heap.size ≤ wc.heap.size := h.below.size
  have bk1 : ∀ (q : Nat) (t : TypeId) (cs : Array Value), Bk wc q t cs → t ≠ 136 → Bk w1 q t cs := fun q t cs hb ht =>
    (hg.block q (by simp; exact Nat.lt_succ_of_lt hb.lt) (fun e => ownsRow_ne own hb (fun e => ht e.symm) e.symm)).trans (hb.alloc o)
  have bk2 : ∀ (q : Nat) (t : TypeId) (cs : Array Value), Bk wc q t cs → t ≠ 136 → t ≠ 134 → Bk (w1.setCell ⟨rb, 1, none⟩ u) q t cs := fun q t cs hb ht ht2 =>
    (bk1 q t cs hb ht).far (p := ⟨rb, 1, none⟩) (Bk.ne hb rbk ht2) u
  have row2 : ∀ (q : Nat) (t : TypeId) (ps : List Value), t ≠ 136 → t ≠ 134 → Row wc q t ps → Row (w1.setCell ⟨rb, 1, none⟩ u) q t ps := fun q t ps h1 h2 hr => by
    obtain ⟨cur, hb, hv⟩ := hr
    exact ⟨cur, bk2 q t cur hb h1 h2, hv⟩
  refine ⟨⟨bk2 _ _ _ h.sub (by decide) (by decide), row2 _ _ _ (by decide) (by decide) h.smp, bk2 _ _ _ h.box (by decide) (by decide), ?_, h.sb, h.mb, h.c1⟩, ?_, fun q ps hr => row2 q 3 ps (by decide) (by decide) hr⟩
  · exact ((h.below.alloc hz o).drew.grown hg (by simp; omega) (fun k hk => (own.lt k hk).1)).setCell (by show w0.heap.size ≤ rb; exact hrb) u
  · have := (bk1 _ _ _ rbk (by decide)).put 1 u
    simpa using this

theorem S1.prm (h : S1 kind order part mb n scap pb pn pcap samples sk so pc cf rp g1 c1 sbk w0 wc) {ps : List Int} (hr : Row w0 pb 3 (intV ps)) : Row wc pb 3 (intV ps) := hr.below h.below hr.lt

theorem S1.free (h : S1 kind order part mb n scap pb pn pcap samples sk so pc cf rp g1 c1 sbk w0 wc) (i : Nat) : wc.frozen? ⟨sbk, i, none⟩ = false := h.sub.frozen i
end

end Go.Proofs.YtlabcknoooaefaaGreatDoor

/-
  THE FRAMES as the thin package takes them; the law's test for short ones.
-/
namespace Go.Proofs.YtlabcknoooaefaaGreatDoor
open Go.RowKit
set_option linter.unusedVariables false

/-- A frame as the thin package takes it. -/
structure FrI where
  varies : Bool
  size : Nat
  rate : Int
  assign : Int
  bits : Int
  sb : Nat
  scap : Nat
  subs : List SubI

def FrI.cells (f : FrI) : List Value := [.bool f.varies, .int .i64 f.size, .int .i64 f.rate, .int .i64 f.assign, .int .i64 f.bits, .int .u64 0, .slice (some ⟨f.sb, 0, none⟩) f.subs.length f.scap]

structure FrI.at (f : FrI) (w : World) : Prop where
  row : Row w f.sb 42 (f.subs.flatMap SubI.cells)
  cap : f.subs.length ≤ f.scap ∧ f.scap ≤ maxLen
  subs : ∀ s ∈ f.subs, s.at w

structure FrsAt (A : Option Addr) (frs : List FrI) (w : World) : Prop where
  rd : 0 < frs.length → ∃ fb, A = some ⟨fb, 0, none⟩ ∧ Row w fb 37 (frs.flatMap FrI.cells)
  fr : ∀ f ∈ frs, f.at w

theorem flat_get {α : Type} (F : α → List Value) (n : Nat) (hF : ∀ a, (F a).length = n) (l : List α) (j i : Nat) (hi : i < n) (a : α) (ha : l[j]? = some a) : (l.flatMap F)[j * n + i]? = (F a)[i]? := by
  induction l generalizing j with
  | nil => simp at ha
  | cons x l ih =>
    rw [List.flatMap_cons]
    rcases j with _ | j
    · simp at ha
      subst ha
      rw [List.getElem?_append_left (by rw [hF]; omega)]
      simp
    · rw [List.getElem?_append_right (by rw [hF, Nat.succ_mul]; omega), hF]
      have e : (j + 1) * n + i - n = j * n + i := by rw [Nat.succ_mul]; omega
      rw [e]
      exact ih j (by simpa using ha)

theorem flat_len {α : Type} (F : α → List Value) (n : Nat) (hF : ∀ a, (F a).length = n) (l : List α) : (l.flatMap F).length = l.length * n := by
  induction l with
  | nil => simp
  | cons x l ih => rw [List.flatMap_cons, List.length_append, hF, ih, List.length_cons, Nat.succ_mul]; omega

theorem FrI.cells_len (f : FrI) : f.cells.length = 7 := rfl
theorem SubI.cells_len (s : SubI) : s.cells.length = 9 := rfl

theorem FrI.at.below {f : FrI} {w w' : World} (h : f.at w) (hb : Below w.heap.size w w') : f.at w' :=
  ⟨h.row.below hb h.row.lt, h.cap, fun s hs => (h.subs s hs).below hb (h.subs s hs).smp.lt (h.subs s hs).prm.lt⟩

theorem FrsAt.below {A : Option Addr} {frs : List FrI} {w w' : World} (h : FrsAt A frs w) (hb : Below w.heap.size w w') : FrsAt A frs w' :=
  ⟨fun hn => by
    obtain ⟨fb, e, hr⟩ := h.rd hn
    exact ⟨fb, e, hr.below hb hr.lt⟩, fun f hf => (h.fr f hf).below hb⟩

/-- The cells of a frame in its row. -/
theorem FrsAt.cells {fb : Nat} {frs : List FrI} {w : World} (h : Row w fb 37 (frs.flatMap FrI.cells)) {j : Nat} {f : FrI} (hj : frs[j]? = some f) (i : Nat) (v : Value) (hi : f.cells[i]? = some v) : w.cell? ⟨fb, j * 7 + i, none⟩ = some v := by
  have hi7 : i < 7 := by
    have := (List.getElem?_eq_some_iff.1 hi).1
    rw [FrI.cells_len] at this
    exact this
  exact h.cell _ _ ((flat_get FrI.cells 7 FrI.cells_len frs j i hi7 f hj).trans hi)

theorem SubsAt.cells {b : Nat} {l : List SubI} {w : World} (h : Row w b 42 (l.flatMap SubI.cells)) {j : Nat} {s : SubI} (hj : l[j]? = some s) (i : Nat) (v : Value) (hi : s.cells[i]? = some v) : w.cell? ⟨b, j * 9 + i, none⟩ = some v := by
  have hi9 : i < 9 := by
    have := (List.getElem?_eq_some_iff.1 hi).1
    rw [SubI.cells_len] at this
    exact this
  exact h.cell _ _ ((flat_get SubI.cells 9 SubI.cells_len l j i hi9 s hj).trans hi)

set_option maxRecDepth 100000 in
set_option maxHeartbeats 1000000 in
theorem wideP (A : Option Addr) (frs : List FrI) (cap : Nat) (hl : frs.length ≤ 1000) (hc : frs.length ≤ cap ∧ cap ≤ maxLen) (w : World) (h : FrsAt A frs w) :
    Calls Tryz.prog 10 #[.slice A frs.length cap] w fun e w' => ∃ b : Bool, e = .returned (.bool b) ∧ (b = true → ∀ f ∈ frs, 16 ≤ f.size) ∧ Below w.heap.size w w' := by
  unfold maxLen at hc
  go_enter Tryz.func10, Tryz.ntmps10
  go_wp2_with fail
  go_loopg [7] frs.length (fun k i wr => ∃ j : Nat, k + j = frs.length ∧ i = .int .i64 (j : Int) ∧ (∀ q, q < j → ∀ f, frs[q]? = some f → 16 ≤ f.size) ∧ Below w.heap.size w wr ∧ FrsAt A frs wr)
  case atStart => exact ⟨0, by omega, rfl, fun q hq => by omega, Below.refl _ _, h⟩
  case round =>
    obtain ⟨j, hgk, rfl, hq, hb, hr⟩ := hrel
    have HGK := Lib.hid hgk
    have hj : j ≤ frs.length := by omega
    clear hgk
    by_cases hlt : j < frs.length
    · obtain ⟨fb, rfl, hrow⟩ := hr.rd (by omega)
      obtain ⟨f, hf⟩ : ∃ f, frs[j]? = some f := ⟨frs[j], by simp [hlt]⟩
      have x0 := FrsAt.cells hrow hf 0 _ rfl
      have x1 := FrsAt.cells hrow hf 1 _ rfl
      have x2 := FrsAt.cells hrow hf 2 _ rfl
      have x3 := FrsAt.cells hrow hf 3 _ rfl
      have x4 := FrsAt.cells hrow hf 4 _ rfl
      have x5 := FrsAt.cells hrow hf 5 _ rfl
      have x6 := FrsAt.cells hrow hf 6 _ rfl
      simp only [Nat.add_zero] at x0
      have hb1 := (Below.refl _ wr).alloc (Nat.le_refl _) (.cells #[.bool f.varies, .int .i64 f.size, .int .i64 f.rate, .int .i64 f.assign, .int .i64 f.bits, .int .u64 0, .slice (some ⟨f.sb, 0, none⟩) f.subs.length f.scap] 37)
      have hb2 := hb.trans (hb1.mono hb.size)
      by_cases h16 : f.size < 16
      · go_wp2_with fail
        go_ret
        exact ⟨false, rfl, fun e => by simp at e, hb2⟩
      · go_wp2_with fail
        go_roundg (frs.length - (j + 1))
        case measure => have := HGK.out; omega
        case rel =>
          refine ⟨j + 1, by omega, by simp, fun q hq2 g hg => ?_, hb2, hr.below hb1⟩
          by_cases hqj : q = j
          · subst hqj
            rw [hf] at hg
            injection hg with hg
            subst hg
            omega
          · exact hq q (by omega) g hg
    · go_wp2_with fail
      go_ret
      refine ⟨_, rfl, fun _ g hg => ?_, hb⟩
      obtain ⟨q, hq1, hq2⟩ := List.mem_iff_getElem.1 hg
      exact hq q (by omega) g (by simp [hq1, hq2])
end Go.Proofs.YtlabcknoooaefaaGreatDoor
