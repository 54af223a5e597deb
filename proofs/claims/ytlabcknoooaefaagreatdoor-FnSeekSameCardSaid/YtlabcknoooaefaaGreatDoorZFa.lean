/-
  A FRAME IN MEMORY, and its samples handed to the sum: Frame.Hash.
-/
import Derived.Test.YtlabcknoooaefaaGreatDoorZMe
import Derived.Test.YtlabcknoooaefaaGreatDoorZRe
import Derived.Deep.RegionWith
namespace Go.Proofs.YtlabcknoooaefaaGreatDoor
open Go.RowKit
set_option linter.unusedVariables false

/-- A subframe's numbers, and where it lies. -/
structure SubL where
  d : SubD
  sb : Nat
  rb : Nat
  mb : Nat
  pb : Nat
  prec : Int
  cf : Value
  scap : Nat
  pcap : Nat

def SubL.at (s : SubL) (w : World) : Prop := SubAt s.d s.sb s.rb s.mb s.pb s.prec s.cf s.scap s.pcap w

/-- A frame as it lies in memory. -/
structure FrAt (h : HdrD) (S : List SubL) (fb lb lcap : Nat) (tl : List Value) (w : World) : Prop where
  blk : Bk w fb 80 (h.cells.toList ++ [Value.slice (some ⟨lb, 0, none⟩) S.length lcap] ++ tl).toArray
  row : Row w lb 81 (S.map fun s => Value.pointer (some ⟨s.sb, 0, none⟩))
  subs : ∀ (j : Nat) (s : SubL), S[j]? = some s → s.at w
  cap : S.length ≤ lcap ∧ lcap ≤ maxLen

theorem Row.grown {w w' : World} {md b : Nat} {t : TypeId} {l : List Value} (h : Row w b t l) (hg : w.grownBy w' (some md)) (hne : b ≠ md) : Row w' b t l := by
  obtain ⟨cur, hb, hv⟩ := h
  exact ⟨cur, hb.grown hg (by simpa using hne), hv⟩

theorem Row.ne {w : World} {b g : Nat} {t t' : TypeId} {l : List Value} {cs : Array Value} (h : Row w b t l) (h' : Bk w g t' cs) (hne : t ≠ t') : b ≠ g := by
  obtain ⟨cur, hb, hv⟩ := h
  exact Bk.ne hb h' hne

theorem SubAt.grown {d : SubD} {sb rb mb pb : Nat} {prec : Int} {cf : Value} {scap pcap : Nat} {w w' : World} {md : Nat} {cs : Array Value} (h : SubAt d sb rb mb pb prec cf scap pcap w) (hmd : Bk w md 170 cs) (hg : w.grownBy w' (some md)) : SubAt d sb rb mb pb prec cf scap pcap w' :=
  ⟨h.sub.grown hg (by simpa using Bk.ne h.sub hmd (by decide)), h.rice.grown hg (by simpa using Bk.ne h.rice hmd (by decide)), h.smp.grown hg (h.smp.ne hmd (by decide)), h.prt.grown hg (h.prt.ne hmd (by decide)), h.scap, h.pcap⟩

theorem FrAt.grown {h : HdrD} {S : List SubL} {fb lb lcap : Nat} {tl : List Value} {w w' : World} {md : Nat} {cs : Array Value} (f : FrAt h S fb lb lcap tl w) (hmd : Bk w md 170 cs) (hg : w.grownBy w' (some md)) : FrAt h S fb lb lcap tl w' :=
  ⟨f.blk.grown hg (by simpa using Bk.ne f.blk hmd (by decide)), f.row.grown hg (f.row.ne hmd (by decide)), fun j s hj => (f.subs j s hj).grown hmd hg, f.cap⟩

theorem FrAt.below {h : HdrD} {S : List SubL} {fb lb lcap : Nat} {tl : List Value} {w w' : World} (f : FrAt h S fb lb lcap tl w) (hb : Below w.heap.size w w') : FrAt h S fb lb lcap tl w' :=
  ⟨f.blk.below hb f.blk.lt, f.row.below hb f.row.lt, fun j s hj => SubAt.below (f.subs j s hj) hb, f.cap⟩

theorem Only.grown {md : Nat} {w w' : World} (h : Only md w w') : w.grownBy w' (some md) := ⟨h.os, h.tape, h.output, Nat.le_of_eq h.size.symm, fun k hk hne => h.blk k (by simpa using hne)⟩

theorem grown_refl (w : World) (r : Option Nat) : w.grownBy w r := ⟨rfl, rfl, rfl, Nat.le_refl _, fun _ _ _ => rfl⟩

theorem grown_only {md : Nat} {w a b : World} (h : w.grownBy a (some md)) (k : Only md a b) : w.grownBy b (some md) :=
  ⟨k.os.trans h.os, k.tape.trans h.tape, k.output.trans h.output, k.size ▸ h.size, fun i hi hne => (k.blk i (by simpa using hne)).trans (h.block i hi hne)⟩

theorem grown_new {md : Nat} {w a : World} (h : w.grownBy a (some md)) (i : Nat) (v : Value) : w.grownBy (a.setCell ⟨w.heap.size, i, none⟩ v) (some md) :=
  ⟨h.os, h.tape, h.output, by simpa [World.setCell] using h.size, fun k hk hne => (Below.heap_setCell a ⟨w.heap.size, i, none⟩ v k (by show k ≠ w.heap.size; omega)).trans (h.block k hk hne)⟩

theorem Only.bk {md g : Nat} {w w' : World} {t : TypeId} {cs : Array Value} (h : Only md w w') (hb : Bk w g t cs) (hne : g ≠ md) : Bk w' g t cs := (h.blk g hne).trans hb

theorem rd1 {w : World} {g : Nat} {t : TypeId} {x : Int} {cs : Array Value} (h : Bk w g t cs) (hc : cs[0]? = some (.int .u8 x)) (hx : 0 ≤ x ∧ x < 256) : Rd w ⟨g, 0, none⟩ [UInt8.ofNat x.toNat] := by
  intro j b hj
  match j, hj with
  | 0, hj =>
    simp at hj
    subst hj
    have e : ((UInt8.ofNat x.toNat).toNat : Int) = x := by simp; omega
    rw [e]
    show w.cell? ⟨g, 0, none⟩ = _
    rw [h.cell, hc]

theorem meth106 (a : Addr) (w : World) : (method 429 106 (.pointer (some a)) "Write").run Tryz.prog w = .ok (172, .pointer (some a)) w := by kernel_rfl
theorem nil106 (a : Addr) (w : World) : (nilAhead 429 106 (.pointer (some a)) "Write").run Tryz.prog w = .ok (some false) w := by kernel_rfl

set_option maxRecDepth 100000 in
set_option maxHeartbeats 4000000 in
theorem hash8 (md : Nat) (h : HdrD) (hb : h.bps = 8) (S : List SubL) (fb lb lcap : Nat) (tl : List Value) (n : Nat) (hn : ∀ (j : Nat) (s : SubL), S[j]? = some s → s.d.ok ∧ s.d.samples.length = n) (hS : 0 < S.length ∧ S.length ≤ 8) (w : World) (hf : FrAt h S fb lb lcap tl w) (m : MdS) (hm : m.ok) (hmf : m.fit) (hmd : Bk w md 170 m.cells) :
    Calls Tryz.prog 38 #[.pointer (some ⟨fb, 0, none⟩), .iface 106 (.pointer (some ⟨md, 0, none⟩))] w fun e w' => e = .returned (.tuple #[]) ∧ w.grownBy w' (some md) ∧ ∃ m' : MdS, m'.ok ∧ m'.fit ∧ Bk w' md 170 m'.cells := by
  have m1 := meth106
  have n1 := nil106
  have hmf0 : ∀ (fn : Fn) (first cap : Array Value) (w : World), (Instr.makeFunc fn first cap).run Tryz.prog w = .ok (.func fn first cap) w := fun _ _ _ _ => rfl
  have c4 : w.cell? ⟨fb, 4, none⟩ = some (.int .u8 8) := by rw [hf.blk.cell, ← hb]; rfl
  have hal : Below w.heap.size w (w.alloc (.cells #[.int .u8 0, .int .u8 0, .int .u8 0] 202)) := (Below.refl _ w).alloc (Nat.le_refl _) _
  have hf1 := hf.below hal
  have hmd1 := hmd.below hal hmd.lt
  have c6 : (w.alloc (.cells #[.int .u8 0, .int .u8 0, .int .u8 0] 202)).cell? ⟨fb, 6, none⟩ = some (.slice (some ⟨lb, 0, none⟩) S.length lcap) := by rw [hf1.blk.cell]; rfl
  obtain ⟨s0, hs0⟩ : ∃ s, S[0]? = some s := ⟨S[0], by simp [hS.1]⟩
  have l0 : (w.alloc (.cells #[.int .u8 0, .int .u8 0, .int .u8 0] 202)).cell? ⟨lb, 0, none⟩ = some (.pointer (some ⟨s0.sb, 0, none⟩)) := hf1.row.cell 0 _ (by simp [hs0])
  have k8 : (w.alloc (.cells #[.int .u8 0, .int .u8 0, .int .u8 0] 202)).cell? ⟨s0.sb, 8, none⟩ = some (.slice (some ⟨s0.mb, 0, none⟩) n s0.scap) := by
    have := (hf1.subs 0 s0 hs0).sub.cell 8
    rw [this, ← (hn 0 s0 hs0).2]
    rfl
  have hmn := (hn 0 s0 hs0).1.len
  rw [(hn 0 s0 hs0).2] at hmn
  have hcap := hf.cap
  have hS0 : ((S.length : Int) == 0) = false := by simp; intro e; rw [e] at hS; simp at hS
  go_enter Tryz.func38, Tryz.ntmps38
  go_wp2
  go_loopw [7] (fun iv wr => ∃ i : Nat, i ≤ n ∧ iv = .int .i64 (i : Int) ∧ w.grownBy wr (some md) ∧ w.heap.size < wr.heap.size ∧ (∃ m' : MdS, m'.ok ∧ m'.fit ∧ Bk wr md 170 m'.cells) ∧ ∃ x0 x1 x2 : Int, Bk wr w.heap.size 202 #[.int .u8 x0, .int .u8 x1, .int .u8 x2]) (fun iv _ => 256 - (intOf iv).toNat)
  case atStart => exact ⟨0, by omega, rfl, ⟨hal.os, hal.tape, hal.output, hal.size, fun k hk _ => hal.block k hk⟩, by simp, ⟨m, hm, hmf, hmd1⟩, 0, 0, 0, Bk.new w 202 _⟩
  case round =>
    obtain ⟨i, hi, rfl, hg, hsz, ⟨m', hm', hmf', hmd'⟩, x0, x1, x2, hbuf⟩ := hrel
    have hfr := hf.grown hmd hg
    have c6 : wr.cell? ⟨fb, 6, none⟩ = some (.slice (some ⟨lb, 0, none⟩) S.length lcap) := by rw [hfr.blk.cell]; rfl
    by_cases hlt : i < n
    · go_wp2_with fail
      go_loopw [42] (fun kv w2 => ∃ k : Nat, k ≤ S.length ∧ kv = .int .i64 (k : Int) ∧ w.grownBy w2 (some md) ∧ w.heap.size < w2.heap.size ∧ (∃ m' : MdS, m'.ok ∧ m'.fit ∧ Bk w2 md 170 m'.cells) ∧ ∃ x0 x1 x2 : Int, Bk w2 w.heap.size 202 #[.int .u8 x0, .int .u8 x1, .int .u8 x2]) (fun kv _ => 256 - (intOf kv).toNat)
      case atStart => exact ⟨0, by omega, rfl, hg, hsz, ⟨m', hm', hmf', hmd'⟩, x0, x1, x2, hbuf⟩
      case round =>
        obtain ⟨k, hk, rfl, hg2, hsz2, ⟨m2, hm2, hmf2, hmd2⟩, y0, y1, y2, hbuf2⟩ := hrel
        have hfr2 := hf.grown hmd hg2
        by_cases hkl : k < S.length
        · obtain ⟨s, hs⟩ : ∃ s, S[k]? = some s := ⟨S[k], by simp [hkl]⟩
          have hsl := (hn k s hs).2
          have lk : wr.cell? ⟨lb, k, none⟩ = some (.pointer (some ⟨s.sb, 0, none⟩)) := hfr2.row.cell k _ (by simp [hs])
          have k8 : wr.cell? ⟨s.sb, 8, none⟩ = some (.slice (some ⟨s.mb, 0, none⟩) n s.scap) := by
            rw [(hfr2.subs k s hs).sub.cell 8, ← hsl]
            rfl
          have ks : wr.cell? ⟨s.mb, i, none⟩ = some (.int .i32 (s.d.samples.getD i 0)) := (hfr2.subs k s hs).smp.cell i _ (i32V_get (by omega))
          have hrs := (hn k s hs).1.rng i
          generalize s.d.samples.getD i 0 = x at *
          have hbf := hbuf2.frozen 0
          have hbc := hbuf2.cell 0
          simp at hbc
          go_wp2_with fail
          have hne : w.heap.size ≠ md := by have := hmd.lt; omega
          have hbW := hbuf2.put 0 (.int .u8 (x % 256))
          have hmdW := Bk.far hmd2 (p := ⟨w.heap.size, 0, none⟩) (fun e => hne e.symm) (.int .u8 (x % 256))
          have hgW := grown_new hg2 0 (.int .u8 (x % 256))
          have hsW : w.heap.size < (wr.setCell ⟨w.heap.size, 0, none⟩ (.int .u8 (x % 256))).heap.size := by simpa [World.setCell] using hsz2
          simp at hbW
          generalize wr.setCell ⟨w.heap.size, 0, none⟩ (.int .u8 (x % 256)) = W at *
          have hrd := rd1 (w := W.drew) hbW rfl (by omega)
          go_region_with (go_at_call 172; refine (mdWriteS md m2 hm2 [UInt8.ofNat (x % 256).toNat] _ 1 3 W.drew hmdW.drew hrd rfl (by omega) (by omega) hne (by omega)).mono ?_; rintro e w3 ⟨rfl, hto⟩)
          obtain ⟨hO, m3, hm3, hmd3, hnx3, hmf3⟩ := hto.fit hmf2
          go_wp2_with fail
          go_roundw
          case rel => exact ⟨k + 1, by omega, by simp, grown_only hgW ((Only.drewN W 1).trans hO), by rw [hO.size]; exact hsW, ⟨m3, hm3, hmf3, hmd3⟩, _, _, _, hO.bk hbW hne⟩
          case measure => simp [intOf] <;> omega
        · go_wp2_with fail
          go_roundw
          case rel => exact ⟨i + 1, by omega, by simp, hg2, hsz2, ⟨m2, hm2, hmf2, hmd2⟩, _, _, _, hbuf2⟩
          case measure => simp [intOf] <;> omega
    · go_wp2
      go_end0
      exact ⟨rfl, hg, m', hm', hmf', hmd'⟩
end Go.Proofs.YtlabcknoooaefaaGreatDoor

/-
  A FRAME's samples handed to the sum, of two bytes and of three.
-/
namespace Go.Proofs.YtlabcknoooaefaaGreatDoor
open Go.RowKit
set_option linter.unusedVariables false

theorem byteBack (x : Int) (hx : 0 ≤ x ∧ x < 256) : ((UInt8.ofNat x.toNat).toNat : Int) = x := by simp; omega

theorem rd2 {w : World} {g : Nat} {t : TypeId} {x y : Int} {cs : Array Value} (h : Bk w g t cs) (hc : cs[0]? = some (.int .u8 x)) (hc1 : cs[1]? = some (.int .u8 y)) (hx : 0 ≤ x ∧ x < 256) (hy : 0 ≤ y ∧ y < 256) : Rd w ⟨g, 0, none⟩ [UInt8.ofNat x.toNat, UInt8.ofNat y.toNat] := by
  intro j b hj
  match j, hj with
  | 0, hj =>
    simp at hj
    subst hj
    rw [byteBack x hx]
    show w.cell? ⟨g, 0, none⟩ = _
    rw [h.cell, hc]
  | 1, hj =>
    simp at hj
    subst hj
    rw [byteBack y hy]
    show w.cell? ⟨g, 1, none⟩ = _
    rw [h.cell, hc1]

theorem rd3 {w : World} {g : Nat} {t : TypeId} {x y z : Int} {cs : Array Value} (h : Bk w g t cs) (hc : cs[0]? = some (.int .u8 x)) (hc1 : cs[1]? = some (.int .u8 y)) (hc2 : cs[2]? = some (.int .u8 z)) (hx : 0 ≤ x ∧ x < 256) (hy : 0 ≤ y ∧ y < 256) (hz : 0 ≤ z ∧ z < 256) : Rd w ⟨g, 0, none⟩ [UInt8.ofNat x.toNat, UInt8.ofNat y.toNat, UInt8.ofNat z.toNat] := by
  intro j b hj
  match j, hj with
  | 0, hj =>
    simp at hj
    subst hj
    rw [byteBack x hx]
    show w.cell? ⟨g, 0, none⟩ = _
    rw [h.cell, hc]
  | 1, hj =>
    simp at hj
    subst hj
    rw [byteBack y hy]
    show w.cell? ⟨g, 1, none⟩ = _
    rw [h.cell, hc1]
  | 2, hj =>
    simp at hj
    subst hj
    rw [byteBack z hz]
    show w.cell? ⟨g, 2, none⟩ = _
    rw [h.cell, hc2]

set_option maxRecDepth 100000 in
set_option maxHeartbeats 4000000 in
theorem hash12 (md : Nat) (h : HdrD) (hb : h.bps = 12) (S : List SubL) (fb lb lcap : Nat) (tl : List Value) (n : Nat) (hn : ∀ (j : Nat) (s : SubL), S[j]? = some s → s.d.ok ∧ s.d.samples.length = n) (hS : 0 < S.length ∧ S.length ≤ 8) (w : World) (hf : FrAt h S fb lb lcap tl w) (m : MdS) (hm : m.ok) (hmf : m.fit) (hmd : Bk w md 170 m.cells) :
    Calls Tryz.prog 38 #[.pointer (some ⟨fb, 0, none⟩), .iface 106 (.pointer (some ⟨md, 0, none⟩))] w fun e w' => e = .returned (.tuple #[]) ∧ w.grownBy w' (some md) ∧ ∃ m' : MdS, m'.ok ∧ m'.fit ∧ Bk w' md 170 m'.cells := by
  have m1 := meth106
  have n1 := nil106
  have hmf0 : ∀ (fn : Fn) (first cap : Array Value) (w : World), (Instr.makeFunc fn first cap).run Tryz.prog w = .ok (.func fn first cap) w := fun _ _ _ _ => rfl
  have c4 : w.cell? ⟨fb, 4, none⟩ = some (.int .u8 12) := by rw [hf.blk.cell, ← hb]; rfl
  have hal : Below w.heap.size w (w.alloc (.cells #[.int .u8 0, .int .u8 0, .int .u8 0] 202)) := (Below.refl _ w).alloc (Nat.le_refl _) _
  have hf1 := hf.below hal
  have hmd1 := hmd.below hal hmd.lt
  have c6 : (w.alloc (.cells #[.int .u8 0, .int .u8 0, .int .u8 0] 202)).cell? ⟨fb, 6, none⟩ = some (.slice (some ⟨lb, 0, none⟩) S.length lcap) := by rw [hf1.blk.cell]; rfl
  obtain ⟨s0, hs0⟩ : ∃ s, S[0]? = some s := ⟨S[0], by simp [hS.1]⟩
  have l0 : (w.alloc (.cells #[.int .u8 0, .int .u8 0, .int .u8 0] 202)).cell? ⟨lb, 0, none⟩ = some (.pointer (some ⟨s0.sb, 0, none⟩)) := hf1.row.cell 0 _ (by simp [hs0])
  have k8 : (w.alloc (.cells #[.int .u8 0, .int .u8 0, .int .u8 0] 202)).cell? ⟨s0.sb, 8, none⟩ = some (.slice (some ⟨s0.mb, 0, none⟩) n s0.scap) := by
    have := (hf1.subs 0 s0 hs0).sub.cell 8
    rw [this, ← (hn 0 s0 hs0).2]
    rfl
  have hmn := (hn 0 s0 hs0).1.len
  rw [(hn 0 s0 hs0).2] at hmn
  have hcap := hf.cap
  have hS0 : ((S.length : Int) == 0) = false := by simp; intro e; rw [e] at hS; simp at hS
  go_enter Tryz.func38, Tryz.ntmps38
  go_wp2
  go_loopw [7] (fun iv wr => ∃ i : Nat, i ≤ n ∧ iv = .int .i64 (i : Int) ∧ w.grownBy wr (some md) ∧ w.heap.size < wr.heap.size ∧ (∃ m' : MdS, m'.ok ∧ m'.fit ∧ Bk wr md 170 m'.cells) ∧ ∃ x0 x1 x2 : Int, Bk wr w.heap.size 202 #[.int .u8 x0, .int .u8 x1, .int .u8 x2]) (fun iv _ => 256 - (intOf iv).toNat)
  case atStart => exact ⟨0, by omega, rfl, ⟨hal.os, hal.tape, hal.output, hal.size, fun k hk _ => hal.block k hk⟩, by simp, ⟨m, hm, hmf, hmd1⟩, 0, 0, 0, Bk.new w 202 _⟩
  case round =>
    obtain ⟨i, hi, rfl, hg, hsz, ⟨m', hm', hmf', hmd'⟩, x0, x1, x2, hbuf⟩ := hrel
    have hfr := hf.grown hmd hg
    have c6 : wr.cell? ⟨fb, 6, none⟩ = some (.slice (some ⟨lb, 0, none⟩) S.length lcap) := by rw [hfr.blk.cell]; rfl
    by_cases hlt : i < n
    · go_wp2_with fail
      go_loopw [42] (fun kv w2 => ∃ k : Nat, k ≤ S.length ∧ kv = .int .i64 (k : Int) ∧ w.grownBy w2 (some md) ∧ w.heap.size < w2.heap.size ∧ (∃ m' : MdS, m'.ok ∧ m'.fit ∧ Bk w2 md 170 m'.cells) ∧ ∃ x0 x1 x2 : Int, Bk w2 w.heap.size 202 #[.int .u8 x0, .int .u8 x1, .int .u8 x2]) (fun kv _ => 256 - (intOf kv).toNat)
      case atStart => exact ⟨0, by omega, rfl, hg, hsz, ⟨m', hm', hmf', hmd'⟩, x0, x1, x2, hbuf⟩
      case round =>
        obtain ⟨k, hk, rfl, hg2, hsz2, ⟨m2, hm2, hmf2, hmd2⟩, y0, y1, y2, hbuf2⟩ := hrel
        have hfr2 := hf.grown hmd hg2
        by_cases hkl : k < S.length
        · obtain ⟨s, hs⟩ : ∃ s, S[k]? = some s := ⟨S[k], by simp [hkl]⟩
          have hsl := (hn k s hs).2
          have lk : wr.cell? ⟨lb, k, none⟩ = some (.pointer (some ⟨s.sb, 0, none⟩)) := hfr2.row.cell k _ (by simp [hs])
          have k8 : wr.cell? ⟨s.sb, 8, none⟩ = some (.slice (some ⟨s.mb, 0, none⟩) n s.scap) := by
            rw [(hfr2.subs k s hs).sub.cell 8, ← hsl]
            rfl
          have ks : wr.cell? ⟨s.mb, i, none⟩ = some (.int .i32 (s.d.samples.getD i 0)) := (hfr2.subs k s hs).smp.cell i _ (i32V_get (by omega))
          have hrs := (hn k s hs).1.rng i
          generalize s.d.samples.getD i 0 = x at *
          have hbf := hbuf2.frozen 0
          have hbc := hbuf2.cell 0
          have hbf1 := hbuf2.frozen 1
          have hbc1 := hbuf2.cell 1
          have hbf2 := hbuf2.frozen 2
          have hbc2 := hbuf2.cell 2
          simp at hbc1 hbc2
          simp at hbc
          go_wp2_with fail
          have hne : w.heap.size ≠ md := by have := hmd.lt; omega
          have hbW := ((hbuf2.put 0 (.int .u8 (x % 256))).put 1 (.int .u8 (x / 256 % 256)))
          have hmdW := (Bk.far (Bk.far hmd2 (p := ⟨w.heap.size, 0, none⟩) (fun e => hne e.symm) (.int .u8 (x % 256))) (p := ⟨w.heap.size, 1, none⟩) (fun e => hne e.symm) (.int .u8 (x / 256 % 256)))
          have hgW := (grown_new (grown_new hg2 0 (.int .u8 (x % 256))) 1 (.int .u8 (x / 256 % 256)))
          have hsW : w.heap.size < ((wr.setCell ⟨w.heap.size, 0, none⟩ (.int .u8 (x % 256))).setCell ⟨w.heap.size, 1, none⟩ (.int .u8 (x / 256 % 256))).heap.size := by simpa [World.setCell] using hsz2
          simp at hbW
          generalize ((wr.setCell ⟨w.heap.size, 0, none⟩ (.int .u8 (x % 256))).setCell ⟨w.heap.size, 1, none⟩ (.int .u8 (x / 256 % 256))) = W at *
          have hrd := rd2 (w := W.drew) hbW rfl rfl (by omega) (by omega)
          go_region_with (go_at_call 172; refine (mdWriteS md m2 hm2 [UInt8.ofNat (x % 256).toNat, UInt8.ofNat (x / 256 % 256).toNat] _ 2 3 W.drew hmdW.drew hrd rfl (by omega) (by omega) hne (by omega)).mono ?_; rintro e w3 ⟨rfl, hto⟩)
          obtain ⟨hO, m3, hm3, hmd3, hnx3, hmf3⟩ := hto.fit hmf2
          go_wp2_with fail
          go_roundw
          case rel => exact ⟨k + 1, by omega, by simp, grown_only hgW ((Only.drewN W 1).trans hO), by rw [hO.size]; exact hsW, ⟨m3, hm3, hmf3, hmd3⟩, _, _, _, hO.bk hbW hne⟩
          case measure => simp [intOf] <;> omega
        · go_wp2_with fail
          go_roundw
          case rel => exact ⟨i + 1, by omega, by simp, hg2, hsz2, ⟨m2, hm2, hmf2, hmd2⟩, _, _, _, hbuf2⟩
          case measure => simp [intOf] <;> omega
    · go_wp2
      go_end0
      exact ⟨rfl, hg, m', hm', hmf', hmd'⟩

set_option maxRecDepth 100000 in
set_option maxHeartbeats 4000000 in
theorem hash16 (md : Nat) (h : HdrD) (hb : h.bps = 16) (S : List SubL) (fb lb lcap : Nat) (tl : List Value) (n : Nat) (hn : ∀ (j : Nat) (s : SubL), S[j]? = some s → s.d.ok ∧ s.d.samples.length = n) (hS : 0 < S.length ∧ S.length ≤ 8) (w : World) (hf : FrAt h S fb lb lcap tl w) (m : MdS) (hm : m.ok) (hmf : m.fit) (hmd : Bk w md 170 m.cells) :
    Calls Tryz.prog 38 #[.pointer (some ⟨fb, 0, none⟩), .iface 106 (.pointer (some ⟨md, 0, none⟩))] w fun e w' => e = .returned (.tuple #[]) ∧ w.grownBy w' (some md) ∧ ∃ m' : MdS, m'.ok ∧ m'.fit ∧ Bk w' md 170 m'.cells := by
  have m1 := meth106
  have n1 := nil106
  have hmf0 : ∀ (fn : Fn) (first cap : Array Value) (w : World), (Instr.makeFunc fn first cap).run Tryz.prog w = .ok (.func fn first cap) w := fun _ _ _ _ => rfl
  have c4 : w.cell? ⟨fb, 4, none⟩ = some (.int .u8 16) := by rw [hf.blk.cell, ← hb]; rfl
  have hal : Below w.heap.size w (w.alloc (.cells #[.int .u8 0, .int .u8 0, .int .u8 0] 202)) := (Below.refl _ w).alloc (Nat.le_refl _) _
  have hf1 := hf.below hal
  have hmd1 := hmd.below hal hmd.lt
  have c6 : (w.alloc (.cells #[.int .u8 0, .int .u8 0, .int .u8 0] 202)).cell? ⟨fb, 6, none⟩ = some (.slice (some ⟨lb, 0, none⟩) S.length lcap) := by rw [hf1.blk.cell]; rfl
  obtain ⟨s0, hs0⟩ : ∃ s, S[0]? = some s := ⟨S[0], by simp [hS.1]⟩
  have l0 : (w.alloc (.cells #[.int .u8 0, .int .u8 0, .int .u8 0] 202)).cell? ⟨lb, 0, none⟩ = some (.pointer (some ⟨s0.sb, 0, none⟩)) := hf1.row.cell 0 _ (by simp [hs0])
  have k8 : (w.alloc (.cells #[.int .u8 0, .int .u8 0, .int .u8 0] 202)).cell? ⟨s0.sb, 8, none⟩ = some (.slice (some ⟨s0.mb, 0, none⟩) n s0.scap) := by
    have := (hf1.subs 0 s0 hs0).sub.cell 8
    rw [this, ← (hn 0 s0 hs0).2]
    rfl
  have hmn := (hn 0 s0 hs0).1.len
  rw [(hn 0 s0 hs0).2] at hmn
  have hcap := hf.cap
  have hS0 : ((S.length : Int) == 0) = false := by simp; intro e; rw [e] at hS; simp at hS
  go_enter Tryz.func38, Tryz.ntmps38
  go_wp2
  go_loopw [7] (fun iv wr => ∃ i : Nat, i ≤ n ∧ iv = .int .i64 (i : Int) ∧ w.grownBy wr (some md) ∧ w.heap.size < wr.heap.size ∧ (∃ m' : MdS, m'.ok ∧ m'.fit ∧ Bk wr md 170 m'.cells) ∧ ∃ x0 x1 x2 : Int, Bk wr w.heap.size 202 #[.int .u8 x0, .int .u8 x1, .int .u8 x2]) (fun iv _ => 256 - (intOf iv).toNat)
  case atStart => exact ⟨0, by omega, rfl, ⟨hal.os, hal.tape, hal.output, hal.size, fun k hk _ => hal.block k hk⟩, by simp, ⟨m, hm, hmf, hmd1⟩, 0, 0, 0, Bk.new w 202 _⟩
  case round =>
    obtain ⟨i, hi, rfl, hg, hsz, ⟨m', hm', hmf', hmd'⟩, x0, x1, x2, hbuf⟩ := hrel
    have hfr := hf.grown hmd hg
    have c6 : wr.cell? ⟨fb, 6, none⟩ = some (.slice (some ⟨lb, 0, none⟩) S.length lcap) := by rw [hfr.blk.cell]; rfl
    by_cases hlt : i < n
    · go_wp2_with fail
      go_loopw [42] (fun kv w2 => ∃ k : Nat, k ≤ S.length ∧ kv = .int .i64 (k : Int) ∧ w.grownBy w2 (some md) ∧ w.heap.size < w2.heap.size ∧ (∃ m' : MdS, m'.ok ∧ m'.fit ∧ Bk w2 md 170 m'.cells) ∧ ∃ x0 x1 x2 : Int, Bk w2 w.heap.size 202 #[.int .u8 x0, .int .u8 x1, .int .u8 x2]) (fun kv _ => 256 - (intOf kv).toNat)
      case atStart => exact ⟨0, by omega, rfl, hg, hsz, ⟨m', hm', hmf', hmd'⟩, x0, x1, x2, hbuf⟩
      case round =>
        obtain ⟨k, hk, rfl, hg2, hsz2, ⟨m2, hm2, hmf2, hmd2⟩, y0, y1, y2, hbuf2⟩ := hrel
        have hfr2 := hf.grown hmd hg2
        by_cases hkl : k < S.length
        · obtain ⟨s, hs⟩ : ∃ s, S[k]? = some s := ⟨S[k], by simp [hkl]⟩
          have hsl := (hn k s hs).2
          have lk : wr.cell? ⟨lb, k, none⟩ = some (.pointer (some ⟨s.sb, 0, none⟩)) := hfr2.row.cell k _ (by simp [hs])
          have k8 : wr.cell? ⟨s.sb, 8, none⟩ = some (.slice (some ⟨s.mb, 0, none⟩) n s.scap) := by
            rw [(hfr2.subs k s hs).sub.cell 8, ← hsl]
            rfl
          have ks : wr.cell? ⟨s.mb, i, none⟩ = some (.int .i32 (s.d.samples.getD i 0)) := (hfr2.subs k s hs).smp.cell i _ (i32V_get (by omega))
          have hrs := (hn k s hs).1.rng i
          generalize s.d.samples.getD i 0 = x at *
          have hbf := hbuf2.frozen 0
          have hbc := hbuf2.cell 0
          have hbf1 := hbuf2.frozen 1
          have hbc1 := hbuf2.cell 1
          have hbf2 := hbuf2.frozen 2
          have hbc2 := hbuf2.cell 2
          simp at hbc1 hbc2
          simp at hbc
          go_wp2_with fail
          have hne : w.heap.size ≠ md := by have := hmd.lt; omega
          have hbW := ((hbuf2.put 0 (.int .u8 (x % 256))).put 1 (.int .u8 (x / 256 % 256)))
          have hmdW := (Bk.far (Bk.far hmd2 (p := ⟨w.heap.size, 0, none⟩) (fun e => hne e.symm) (.int .u8 (x % 256))) (p := ⟨w.heap.size, 1, none⟩) (fun e => hne e.symm) (.int .u8 (x / 256 % 256)))
          have hgW := (grown_new (grown_new hg2 0 (.int .u8 (x % 256))) 1 (.int .u8 (x / 256 % 256)))
          have hsW : w.heap.size < ((wr.setCell ⟨w.heap.size, 0, none⟩ (.int .u8 (x % 256))).setCell ⟨w.heap.size, 1, none⟩ (.int .u8 (x / 256 % 256))).heap.size := by simpa [World.setCell] using hsz2
          simp at hbW
          generalize ((wr.setCell ⟨w.heap.size, 0, none⟩ (.int .u8 (x % 256))).setCell ⟨w.heap.size, 1, none⟩ (.int .u8 (x / 256 % 256))) = W at *
          have hrd := rd2 (w := W.drew) hbW rfl rfl (by omega) (by omega)
          go_region_with (go_at_call 172; refine (mdWriteS md m2 hm2 [UInt8.ofNat (x % 256).toNat, UInt8.ofNat (x / 256 % 256).toNat] _ 2 3 W.drew hmdW.drew hrd rfl (by omega) (by omega) hne (by omega)).mono ?_; rintro e w3 ⟨rfl, hto⟩)
          obtain ⟨hO, m3, hm3, hmd3, hnx3, hmf3⟩ := hto.fit hmf2
          go_wp2_with fail
          go_roundw
          case rel => exact ⟨k + 1, by omega, by simp, grown_only hgW ((Only.drewN W 1).trans hO), by rw [hO.size]; exact hsW, ⟨m3, hm3, hmf3, hmd3⟩, _, _, _, hO.bk hbW hne⟩
          case measure => simp [intOf] <;> omega
        · go_wp2_with fail
          go_roundw
          case rel => exact ⟨i + 1, by omega, by simp, hg2, hsz2, ⟨m2, hm2, hmf2, hmd2⟩, _, _, _, hbuf2⟩
          case measure => simp [intOf] <;> omega
    · go_wp2
      go_end0
      exact ⟨rfl, hg, m', hm', hmf', hmd'⟩

set_option maxRecDepth 100000 in
set_option maxHeartbeats 4000000 in
theorem hash20 (md : Nat) (h : HdrD) (hb : h.bps = 20) (S : List SubL) (fb lb lcap : Nat) (tl : List Value) (n : Nat) (hn : ∀ (j : Nat) (s : SubL), S[j]? = some s → s.d.ok ∧ s.d.samples.length = n) (hS : 0 < S.length ∧ S.length ≤ 8) (w : World) (hf : FrAt h S fb lb lcap tl w) (m : MdS) (hm : m.ok) (hmf : m.fit) (hmd : Bk w md 170 m.cells) :
    Calls Tryz.prog 38 #[.pointer (some ⟨fb, 0, none⟩), .iface 106 (.pointer (some ⟨md, 0, none⟩))] w fun e w' => e = .returned (.tuple #[]) ∧ w.grownBy w' (some md) ∧ ∃ m' : MdS, m'.ok ∧ m'.fit ∧ Bk w' md 170 m'.cells := by
  have m1 := meth106
  have n1 := nil106
  have hmf0 : ∀ (fn : Fn) (first cap : Array Value) (w : World), (Instr.makeFunc fn first cap).run Tryz.prog w = .ok (.func fn first cap) w := fun _ _ _ _ => rfl
  have c4 : w.cell? ⟨fb, 4, none⟩ = some (.int .u8 20) := by rw [hf.blk.cell, ← hb]; rfl
  have hal : Below w.heap.size w (w.alloc (.cells #[.int .u8 0, .int .u8 0, .int .u8 0] 202)) := (Below.refl _ w).alloc (Nat.le_refl _) _
  have hf1 := hf.below hal
  have hmd1 := hmd.below hal hmd.lt
  have c6 : (w.alloc (.cells #[.int .u8 0, .int .u8 0, .int .u8 0] 202)).cell? ⟨fb, 6, none⟩ = some (.slice (some ⟨lb, 0, none⟩) S.length lcap) := by rw [hf1.blk.cell]; rfl
  obtain ⟨s0, hs0⟩ : ∃ s, S[0]? = some s := ⟨S[0], by simp [hS.1]⟩
  have l0 : (w.alloc (.cells #[.int .u8 0, .int .u8 0, .int .u8 0] 202)).cell? ⟨lb, 0, none⟩ = some (.pointer (some ⟨s0.sb, 0, none⟩)) := hf1.row.cell 0 _ (by simp [hs0])
  have k8 : (w.alloc (.cells #[.int .u8 0, .int .u8 0, .int .u8 0] 202)).cell? ⟨s0.sb, 8, none⟩ = some (.slice (some ⟨s0.mb, 0, none⟩) n s0.scap) := by
    have := (hf1.subs 0 s0 hs0).sub.cell 8
    rw [this, ← (hn 0 s0 hs0).2]
    rfl
  have hmn := (hn 0 s0 hs0).1.len
  rw [(hn 0 s0 hs0).2] at hmn
  have hcap := hf.cap
  have hS0 : ((S.length : Int) == 0) = false := by simp; intro e; rw [e] at hS; simp at hS
  go_enter Tryz.func38, Tryz.ntmps38
  go_wp2
  go_loopw [7] (fun iv wr => ∃ i : Nat, i ≤ n ∧ iv = .int .i64 (i : Int) ∧ w.grownBy wr (some md) ∧ w.heap.size < wr.heap.size ∧ (∃ m' : MdS, m'.ok ∧ m'.fit ∧ Bk wr md 170 m'.cells) ∧ ∃ x0 x1 x2 : Int, Bk wr w.heap.size 202 #[.int .u8 x0, .int .u8 x1, .int .u8 x2]) (fun iv _ => 256 - (intOf iv).toNat)
  case atStart => exact ⟨0, by omega, rfl, ⟨hal.os, hal.tape, hal.output, hal.size, fun k hk _ => hal.block k hk⟩, by simp, ⟨m, hm, hmf, hmd1⟩, 0, 0, 0, Bk.new w 202 _⟩
  case round =>
    obtain ⟨i, hi, rfl, hg, hsz, ⟨m', hm', hmf', hmd'⟩, x0, x1, x2, hbuf⟩ := hrel
    have hfr := hf.grown hmd hg
    have c6 : wr.cell? ⟨fb, 6, none⟩ = some (.slice (some ⟨lb, 0, none⟩) S.length lcap) := by rw [hfr.blk.cell]; rfl
    by_cases hlt : i < n
    · go_wp2_with fail
      go_loopw [42] (fun kv w2 => ∃ k : Nat, k ≤ S.length ∧ kv = .int .i64 (k : Int) ∧ w.grownBy w2 (some md) ∧ w.heap.size < w2.heap.size ∧ (∃ m' : MdS, m'.ok ∧ m'.fit ∧ Bk w2 md 170 m'.cells) ∧ ∃ x0 x1 x2 : Int, Bk w2 w.heap.size 202 #[.int .u8 x0, .int .u8 x1, .int .u8 x2]) (fun kv _ => 256 - (intOf kv).toNat)
      case atStart => exact ⟨0, by omega, rfl, hg, hsz, ⟨m', hm', hmf', hmd'⟩, x0, x1, x2, hbuf⟩
      case round =>
        obtain ⟨k, hk, rfl, hg2, hsz2, ⟨m2, hm2, hmf2, hmd2⟩, y0, y1, y2, hbuf2⟩ := hrel
        have hfr2 := hf.grown hmd hg2
        by_cases hkl : k < S.length
        · obtain ⟨s, hs⟩ : ∃ s, S[k]? = some s := ⟨S[k], by simp [hkl]⟩
          have hsl := (hn k s hs).2
          have lk : wr.cell? ⟨lb, k, none⟩ = some (.pointer (some ⟨s.sb, 0, none⟩)) := hfr2.row.cell k _ (by simp [hs])
          have k8 : wr.cell? ⟨s.sb, 8, none⟩ = some (.slice (some ⟨s.mb, 0, none⟩) n s.scap) := by
            rw [(hfr2.subs k s hs).sub.cell 8, ← hsl]
            rfl
          have ks : wr.cell? ⟨s.mb, i, none⟩ = some (.int .i32 (s.d.samples.getD i 0)) := (hfr2.subs k s hs).smp.cell i _ (i32V_get (by omega))
          have hrs := (hn k s hs).1.rng i
          generalize s.d.samples.getD i 0 = x at *
          have hbf := hbuf2.frozen 0
          have hbc := hbuf2.cell 0
          have hbf1 := hbuf2.frozen 1
          have hbc1 := hbuf2.cell 1
          have hbf2 := hbuf2.frozen 2
          have hbc2 := hbuf2.cell 2
          simp at hbc1 hbc2
          simp at hbc
          go_wp2_with fail
          have hne : w.heap.size ≠ md := by have := hmd.lt; omega
          have hbW := (((hbuf2.put 0 (.int .u8 (x % 256))).put 1 (.int .u8 (x / 256 % 256))).put 2 (.int .u8 (x / 65536 % 256)))
          have hmdW := (Bk.far (Bk.far (Bk.far hmd2 (p := ⟨w.heap.size, 0, none⟩) (fun e => hne e.symm) (.int .u8 (x % 256))) (p := ⟨w.heap.size, 1, none⟩) (fun e => hne e.symm) (.int .u8 (x / 256 % 256))) (p := ⟨w.heap.size, 2, none⟩) (fun e => hne e.symm) (.int .u8 (x / 65536 % 256)))
          have hgW := (grown_new (grown_new (grown_new hg2 0 (.int .u8 (x % 256))) 1 (.int .u8 (x / 256 % 256))) 2 (.int .u8 (x / 65536 % 256)))
          have hsW : w.heap.size < (((wr.setCell ⟨w.heap.size, 0, none⟩ (.int .u8 (x % 256))).setCell ⟨w.heap.size, 1, none⟩ (.int .u8 (x / 256 % 256))).setCell ⟨w.heap.size, 2, none⟩ (.int .u8 (x / 65536 % 256))).heap.size := by simpa [World.setCell] using hsz2
          simp at hbW
          generalize (((wr.setCell ⟨w.heap.size, 0, none⟩ (.int .u8 (x % 256))).setCell ⟨w.heap.size, 1, none⟩ (.int .u8 (x / 256 % 256))).setCell ⟨w.heap.size, 2, none⟩ (.int .u8 (x / 65536 % 256))) = W at *
          have hrd := rd3 (w := W.drew) hbW rfl rfl rfl (by omega) (by omega) (by omega)
          go_region_with (go_at_call 172; refine (mdWriteS md m2 hm2 [UInt8.ofNat (x % 256).toNat, UInt8.ofNat (x / 256 % 256).toNat, UInt8.ofNat (x / 65536 % 256).toNat] _ 3 3 W.drew hmdW.drew hrd rfl (by omega) (by omega) hne (by omega)).mono ?_; rintro e w3 ⟨rfl, hto⟩)
          obtain ⟨hO, m3, hm3, hmd3, hnx3, hmf3⟩ := hto.fit hmf2
          go_wp2_with fail
          go_roundw
          case rel => exact ⟨k + 1, by omega, by simp, grown_only hgW ((Only.drewN W 1).trans hO), by rw [hO.size]; exact hsW, ⟨m3, hm3, hmf3, hmd3⟩, _, _, _, hO.bk hbW hne⟩
          case measure => simp [intOf] <;> omega
        · go_wp2_with fail
          go_roundw
          case rel => exact ⟨i + 1, by omega, by simp, hg2, hsz2, ⟨m2, hm2, hmf2, hmd2⟩, _, _, _, hbuf2⟩
          case measure => simp [intOf] <;> omega
    · go_wp2
      go_end0
      exact ⟨rfl, hg, m', hm', hmf', hmd'⟩

set_option maxRecDepth 100000 in
set_option maxHeartbeats 4000000 in
theorem hash24 (md : Nat) (h : HdrD) (hb : h.bps = 24) (S : List SubL) (fb lb lcap : Nat) (tl : List Value) (n : Nat) (hn : ∀ (j : Nat) (s : SubL), S[j]? = some s → s.d.ok ∧ s.d.samples.length = n) (hS : 0 < S.length ∧ S.length ≤ 8) (w : World) (hf : FrAt h S fb lb lcap tl w) (m : MdS) (hm : m.ok) (hmf : m.fit) (hmd : Bk w md 170 m.cells) :
    Calls Tryz.prog 38 #[.pointer (some ⟨fb, 0, none⟩), .iface 106 (.pointer (some ⟨md, 0, none⟩))] w fun e w' => e = .returned (.tuple #[]) ∧ w.grownBy w' (some md) ∧ ∃ m' : MdS, m'.ok ∧ m'.fit ∧ Bk w' md 170 m'.cells := by
  have m1 := meth106
  have n1 := nil106
  have hmf0 : ∀ (fn : Fn) (first cap : Array Value) (w : World), (Instr.makeFunc fn first cap).run Tryz.prog w = .ok (.func fn first cap) w := fun _ _ _ _ => rfl
  have c4 : w.cell? ⟨fb, 4, none⟩ = some (.int .u8 24) := by rw [hf.blk.cell, ← hb]; rfl
  have hal : Below w.heap.size w (w.alloc (.cells #[.int .u8 0, .int .u8 0, .int .u8 0] 202)) := (Below.refl _ w).alloc (Nat.le_refl _) _
  have hf1 := hf.below hal
  have hmd1 := hmd.below hal hmd.lt
  have c6 : (w.alloc (.cells #[.int .u8 0, .int .u8 0, .int .u8 0] 202)).cell? ⟨fb, 6, none⟩ = some (.slice (some ⟨lb, 0, none⟩) S.length lcap) := by rw [hf1.blk.cell]; rfl
  obtain ⟨s0, hs0⟩ : ∃ s, S[0]? = some s := ⟨S[0], by simp [hS.1]⟩
  have l0 : (w.alloc (.cells #[.int .u8 0, .int .u8 0, .int .u8 0] 202)).cell? ⟨lb, 0, none⟩ = some (.pointer (some ⟨s0.sb, 0, none⟩)) := hf1.row.cell 0 _ (by simp [hs0])
  have k8 : (w.alloc (.cells #[.int .u8 0, .int .u8 0, .int .u8 0] 202)).cell? ⟨s0.sb, 8, none⟩ = some (.slice (some ⟨s0.mb, 0, none⟩) n s0.scap) := by
    have := (hf1.subs 0 s0 hs0).sub.cell 8
    rw [this, ← (hn 0 s0 hs0).2]
    rfl
  have hmn := (hn 0 s0 hs0).1.len
  rw [(hn 0 s0 hs0).2] at hmn
  have hcap := hf.cap
  have hS0 : ((S.length : Int) == 0) = false := by simp; intro e; rw [e] at hS; simp at hS
  go_enter Tryz.func38, Tryz.ntmps38
  go_wp2
  go_loopw [7] (fun iv wr => ∃ i : Nat, i ≤ n ∧ iv = .int .i64 (i : Int) ∧ w.grownBy wr (some md) ∧ w.heap.size < wr.heap.size ∧ (∃ m' : MdS, m'.ok ∧ m'.fit ∧ Bk wr md 170 m'.cells) ∧ ∃ x0 x1 x2 : Int, Bk wr w.heap.size 202 #[.int .u8 x0, .int .u8 x1, .int .u8 x2]) (fun iv _ => 256 - (intOf iv).toNat)
  case atStart => exact ⟨0, by omega, rfl, ⟨hal.os, hal.tape, hal.output, hal.size, fun k hk _ => hal.block k hk⟩, by simp, ⟨m, hm, hmf, hmd1⟩, 0, 0, 0, Bk.new w 202 _⟩
  case round =>
    obtain ⟨i, hi, rfl, hg, hsz, ⟨m', hm', hmf', hmd'⟩, x0, x1, x2, hbuf⟩ := hrel
    have hfr := hf.grown hmd hg
    have c6 : wr.cell? ⟨fb, 6, none⟩ = some (.slice (some ⟨lb, 0, none⟩) S.length lcap) := by rw [hfr.blk.cell]; rfl
    by_cases hlt : i < n
    · go_wp2_with fail
      go_loopw [42] (fun kv w2 => ∃ k : Nat, k ≤ S.length ∧ kv = .int .i64 (k : Int) ∧ w.grownBy w2 (some md) ∧ w.heap.size < w2.heap.size ∧ (∃ m' : MdS, m'.ok ∧ m'.fit ∧ Bk w2 md 170 m'.cells) ∧ ∃ x0 x1 x2 : Int, Bk w2 w.heap.size 202 #[.int .u8 x0, .int .u8 x1, .int .u8 x2]) (fun kv _ => 256 - (intOf kv).toNat)
      case atStart => exact ⟨0, by omega, rfl, hg, hsz, ⟨m', hm', hmf', hmd'⟩, x0, x1, x2, hbuf⟩
      case round =>
        obtain ⟨k, hk, rfl, hg2, hsz2, ⟨m2, hm2, hmf2, hmd2⟩, y0, y1, y2, hbuf2⟩ := hrel
        have hfr2 := hf.grown hmd hg2
        by_cases hkl : k < S.length
        · obtain ⟨s, hs⟩ : ∃ s, S[k]? = some s := ⟨S[k], by simp [hkl]⟩
          have hsl := (hn k s hs).2
          have lk : wr.cell? ⟨lb, k, none⟩ = some (.pointer (some ⟨s.sb, 0, none⟩)) := hfr2.row.cell k _ (by simp [hs])
          have k8 : wr.cell? ⟨s.sb, 8, none⟩ = some (.slice (some ⟨s.mb, 0, none⟩) n s.scap) := by
            rw [(hfr2.subs k s hs).sub.cell 8, ← hsl]
            rfl
          have ks : wr.cell? ⟨s.mb, i, none⟩ = some (.int .i32 (s.d.samples.getD i 0)) := (hfr2.subs k s hs).smp.cell i _ (i32V_get (by omega))
          have hrs := (hn k s hs).1.rng i
          generalize s.d.samples.getD i 0 = x at *
          have hbf := hbuf2.frozen 0
          have hbc := hbuf2.cell 0
          have hbf1 := hbuf2.frozen 1
          have hbc1 := hbuf2.cell 1
          have hbf2 := hbuf2.frozen 2
          have hbc2 := hbuf2.cell 2
          simp at hbc1 hbc2
          simp at hbc
          go_wp2_with fail
          have hne : w.heap.size ≠ md := by have := hmd.lt; omega
          have hbW := (((hbuf2.put 0 (.int .u8 (x % 256))).put 1 (.int .u8 (x / 256 % 256))).put 2 (.int .u8 (x / 65536 % 256)))
          have hmdW := (Bk.far (Bk.far (Bk.far hmd2 (p := ⟨w.heap.size, 0, none⟩) (fun e => hne e.symm) (.int .u8 (x % 256))) (p := ⟨w.heap.size, 1, none⟩) (fun e => hne e.symm) (.int .u8 (x / 256 % 256))) (p := ⟨w.heap.size, 2, none⟩) (fun e => hne e.symm) (.int .u8 (x / 65536 % 256)))
          have hgW := (grown_new (grown_new (grown_new hg2 0 (.int .u8 (x % 256))) 1 (.int .u8 (x / 256 % 256))) 2 (.int .u8 (x / 65536 % 256)))
          have hsW : w.heap.size < (((wr.setCell ⟨w.heap.size, 0, none⟩ (.int .u8 (x % 256))).setCell ⟨w.heap.size, 1, none⟩ (.int .u8 (x / 256 % 256))).setCell ⟨w.heap.size, 2, none⟩ (.int .u8 (x / 65536 % 256))).heap.size := by simpa [World.setCell] using hsz2
          simp at hbW
          generalize (((wr.setCell ⟨w.heap.size, 0, none⟩ (.int .u8 (x % 256))).setCell ⟨w.heap.size, 1, none⟩ (.int .u8 (x / 256 % 256))).setCell ⟨w.heap.size, 2, none⟩ (.int .u8 (x / 65536 % 256))) = W at *
          have hrd := rd3 (w := W.drew) hbW rfl rfl rfl (by omega) (by omega) (by omega)
          go_region_with (go_at_call 172; refine (mdWriteS md m2 hm2 [UInt8.ofNat (x % 256).toNat, UInt8.ofNat (x / 256 % 256).toNat, UInt8.ofNat (x / 65536 % 256).toNat] _ 3 3 W.drew hmdW.drew hrd rfl (by omega) (by omega) hne (by omega)).mono ?_; rintro e w3 ⟨rfl, hto⟩)
          obtain ⟨hO, m3, hm3, hmd3, hnx3, hmf3⟩ := hto.fit hmf2
          go_wp2_with fail
          go_roundw
          case rel => exact ⟨k + 1, by omega, by simp, grown_only hgW ((Only.drewN W 1).trans hO), by rw [hO.size]; exact hsW, ⟨m3, hm3, hmf3, hmd3⟩, _, _, _, hO.bk hbW hne⟩
          case measure => simp [intOf] <;> omega
        · go_wp2_with fail
          go_roundw
          case rel => exact ⟨i + 1, by omega, by simp, hg2, hsz2, ⟨m2, hm2, hmf2, hmd2⟩, _, _, _, hbuf2⟩
          case measure => simp [intOf] <;> omega
    · go_wp2
      go_end0
      exact ⟨rfl, hg, m', hm', hmf', hmd'⟩

end Go.Proofs.YtlabcknoooaefaaGreatDoor

/-
  A FRAME's samples handed to the sum, whatever its bits.
-/
namespace Go.Proofs.YtlabcknoooaefaaGreatDoor
open Go.RowKit
set_option linter.unusedVariables false

theorem hashAny (md : Nat) (h : HdrD) (hb : isBits h.bps) (S : List SubL) (fb lb lcap : Nat) (tl : List Value) (n : Nat) (hn : ∀ (j : Nat) (s : SubL), S[j]? = some s → s.d.ok ∧ s.d.samples.length = n) (hS : 0 < S.length ∧ S.length ≤ 8) (w : World) (hf : FrAt h S fb lb lcap tl w) (m : MdS) (hm : m.ok) (hmf : m.fit) (hmd : Bk w md 170 m.cells) :
    Calls Tryz.prog 38 #[.pointer (some ⟨fb, 0, none⟩), .iface 106 (.pointer (some ⟨md, 0, none⟩))] w fun e w' => e = .returned (.tuple #[]) ∧ w.grownBy w' (some md) ∧ ∃ m' : MdS, m'.ok ∧ m'.fit ∧ Bk w' md 170 m'.cells := by
  rcases hb with e | e | e | e | e
  · exact hash16 md h e S fb lb lcap tl n hn hS w hf m hm hmf hmd
  · exact hash8 md h e S fb lb lcap tl n hn hS w hf m hm hmf hmd
  · exact hash24 md h e S fb lb lcap tl n hn hS w hf m hm hmf hmd
  · exact hash20 md h e S fb lb lcap tl n hn hS w hf m hm hmf hmd
  · exact hash12 md h e S fb lb lcap tl n hn hS w hf m hm hmf hmd
end Go.Proofs.YtlabcknoooaefaaGreatDoor

/-
  Decorrelate and Correlate do nothing to channels that stand alone.
-/
namespace Go.Proofs.YtlabcknoooaefaaGreatDoor
open Go.RowKit
set_option linter.unusedVariables false

set_option maxRecDepth 100000 in
theorem decorrelate (fb : Nat) (ch : Int) (hch : 0 ≤ ch ∧ ch < 8) (w : World) (c3 : w.cell? ⟨fb, 3, none⟩ = some (.int .u8 ch)) :
    Calls Tryz.prog 40 #[.pointer (some ⟨fb, 0, none⟩)] w fun e w' => e = .returned (.tuple #[]) ∧ w = w' := by
  have h8 : ¬ ch = 8 := by omega
  have h9 : ¬ ch = 9 := by omega
  have h10 : ¬ ch = 10 := by omega
  go_enter Tryz.func40, Tryz.ntmps40
  go_wp2
  go_end0
  exact ⟨rfl, rfl⟩

set_option maxRecDepth 100000 in
theorem correlateD (fb : Nat) (ch : Int) (hch : 0 ≤ ch ∧ ch < 8) (u : FrameMode) (w : World) (c3 : w.cell? ⟨fb, 3, none⟩ = some (.int .u8 ch)) :
    CallsD Tryz.prog 41 #[.pointer (some ⟨fb, 0, none⟩)] u w fun e u' w' => u' = u ∧ e = .returned (.tuple #[]) ∧ w = w' := by
  have h8 : ¬ ch = 8 := by omega
  have h9 : ¬ ch = 9 := by omega
  have h10 : ¬ ch = 10 := by omega
  go_enter_d Tryz.func41, Tryz.ntmps41
  go_wp2
  go_end0
  first
    | exact ⟨rfl, rfl⟩
    | exact ⟨rfl, rfl, rfl⟩
end Go.Proofs.YtlabcknoooaefaaGreatDoor

/-
  A FRAME WRITTEN: Encoder.WriteFrame. The words for it.
-/
namespace Go.Proofs.YtlabcknoooaefaaGreatDoor
open Go.RowKit
set_option linter.unusedVariables false

/-- The encoder's counts behind a frame of n samples. -/
def EncS.next (e : EncS) (fix : Bool) (n : Nat) : EncS :=
  { e with
    bmin := if e.bmin = 0 then (n : Int) else if (n : Int) < e.bmin then (n : Int) else e.bmin
    bmax := if e.bmax = 0 then (n : Int) else if e.bmax < (n : Int) then (n : Int) else e.bmax
    nsam := e.nsam + n
    cur := if fix then e.cur + 1 else e.cur + n }

structure EncS.ok (e : EncS) : Prop where
  mm : (e.bmin = 0 ∧ e.bmax = 0) ∨ (0 < e.bmin ∧ e.bmin ≤ e.bmax ∧ e.bmax ≤ 256)
  nsam : 0 ≤ e.nsam ∧ e.nsam ≤ 2047
  cur : 0 ≤ e.cur ∧ e.cur ≤ 2047

/-- A frame's subframes, one behind the other. -/
def BS.subs (s : BS) (ds : List SubD) (bps : Nat) : BS := ds.foldl (fun s d => s.sub d bps) s

/-- A frame's bytes ahead of their sum; all of them. -/
def frBody (h : HdrD) (ds : List SubD) : List UInt8 := (BS.subs ⟨hdBytes h, 0, 0⟩ ds h.bps.toNat).align.out
def frBytes (h : HdrD) (ds : List SubD) : List UInt8 := frBody h ds ++ be16 (crc16 0 (frBody h ds))

theorem BS.subs_ok {s : BS} (h : s.ok) (ds : List SubD) (n : Nat) : (s.subs ds n).ok := by
  unfold BS.subs
  induction ds generalizing s with
  | nil => exact h
  | cons d ds ih => exact ih (BS.sub_ok h d n)

theorem BS.subs_snoc (s : BS) (ds : List SubD) (d : SubD) (n : Nat) : s.subs (ds ++ [d]) n = (s.subs ds n).sub d n := by
  unfold BS.subs
  rw [List.foldl_append]
  rfl

theorem BS.subs_grow {s : BS} (h : s.ok) (ds : List SubD) (hd : ∀ d ∈ ds, d.ok) (n : Nat) (hn : n ≤ 32) : (s.subs ds n).out.length ≤ s.out.length + ds.length * 1099511638000 := by
  induction ds generalizing s with
  | nil => simp [BS.subs]
  | cons d ds ih =>
    have h1 := BS.sub_grow h d (hd d (by simp)) n hn
    have h2 := ih (BS.sub_ok h d n) (fun x hx => hd x (by simp [hx]))
    have e : s.subs (d :: ds) n = (s.sub d n).subs ds n := rfl
    rw [e]
    generalize ((s.sub d n).subs ds n) = y at *
    generalize (s.sub d n) = z at *
    simp only [List.length_cons]
    omega
end Go.Proofs.YtlabcknoooaefaaGreatDoor

/-
  A FRAME WRITTEN: Encoder.WriteFrame.
-/
namespace Go.Proofs.YtlabcknoooaefaaGreatDoor
open Go.RowKit
set_option linter.unusedVariables false

theorem encCells {w : World} {eb : Nat} {e : EncS} {s : Sk} (h : Bk w eb 111 (e.cells s)) :
    w.cell? ⟨eb, 0, none⟩ = some (.pointer (some ⟨e.sb, 0, none⟩)) ∧ w.cell? ⟨eb, 1, none⟩ = some (.iface s.ty s.val) ∧ w.cell? ⟨eb, 2, none⟩ = some (.int .u16 e.bmin) ∧ w.cell? ⟨eb, 3, none⟩ = some (.int .u16 e.bmax) ∧ w.cell? ⟨eb, 6, none⟩ = some (.iface 106 (.pointer (some ⟨e.md, 0, none⟩))) ∧
    w.cell? ⟨eb, 7, none⟩ = some (.int .u64 e.nsam) ∧ w.cell? ⟨eb, 8, none⟩ = some (.int .u64 e.cur) ∧ w.cell? ⟨eb, 9, none⟩ = some (.bool e.ana) := by
  refine ⟨?_, ?_, ?_, ?_, ?_, ?_, ?_, ?_⟩ <;> (rw [h.cell]; rfl)

/-- All that the frame's writing reads, in memory. -/
structure Mem (s : Sk) (out : List UInt8) (e : EncS) (eb ib : Nat) (i : InfoD) (bl : Value) (h : HdrD) (S : List SubL) (fb lb lcap : Nat) (tl : List Value) (m : MdS) (w : World) : Prop where
  enc : Bk w eb 111 (e.cells s)
  str : Bk w e.sb 105 #[.pointer (some ⟨ib, 0, none⟩), bl, .nilIface]
  info : Bk w ib 123 i.cells
  md : Bk w e.md 170 m.cells
  fr : FrAt h S fb lb lcap tl w
  inv : s.inv out w
  tab : NCh w

theorem Mem.below {s : Sk} {B : Nat} {out : List UInt8} {e : EncS} {eb ib : Nat} {i : InfoD} {bl : Value} {h : HdrD} {S : List SubL} {fb lb lcap : Nat} {tl : List Value} {m : MdS} {w w' : World} (hs : s.Ok Tryz.prog 429 B) (M : Mem s out e eb ib i bl h S fb lb lcap tl m w) (hb : Below w.heap.size w w') : Mem s out e eb ib i bl h S fb lb lcap tl m w' :=
  ⟨M.enc.below hb M.enc.lt, M.str.below hb M.str.lt, M.info.below hb M.info.lt, M.md.below hb M.md.lt, M.fr.below hb, hs.same M.inv hb, M.tab.below (Nat.lt_of_le_of_lt (Nat.zero_le _) M.enc.lt) hb⟩

theorem frCells {fix : Bool} {z rate ch bps num : Int} {S : List SubL} {fb lb lcap : Nat} {tl : List Value} {w : World} (h : FrAt ⟨fix, z, rate, ch, bps, num⟩ S fb lb lcap tl w) :
    w.cell? ⟨fb, 0, none⟩ = some (.bool fix) ∧ w.cell? ⟨fb, 1, none⟩ = some (.int .u16 z) ∧ w.cell? ⟨fb, 2, none⟩ = some (.int .u32 rate) ∧ w.cell? ⟨fb, 3, none⟩ = some (.int .u8 ch) ∧ w.cell? ⟨fb, 4, none⟩ = some (.int .u8 bps) ∧ w.cell? ⟨fb, 5, none⟩ = some (.int .u64 num) ∧ w.cell? ⟨fb, 6, none⟩ = some (.slice (some ⟨lb, 0, none⟩) S.length lcap) := by
  refine ⟨?_, ?_, ?_, ?_, ?_, ?_, ?_⟩ <;> (rw [h.blk.cell]; rfl)

theorem Row.far {w : World} {b : Nat} {t : TypeId} {l : List Value} (h : Row w b t l) {p : Addr} (hp : b ≠ p.block) (u : Value) : Row (w.setCell p u) b t l := by
  obtain ⟨cur, hb, hv⟩ := h
  exact ⟨cur, hb.far hp u, hv⟩

theorem SubAt.far {d : SubD} {sb rb mb pb : Nat} {prec : Int} {cf : Value} {scap pcap : Nat} {w : World} (h : SubAt d sb rb mb pb prec cf scap pcap w) {g : Nat} {t : TypeId} {cs : Array Value} (hg : Bk w g t cs) (ht : t ≠ 130 ∧ t ≠ 134 ∧ t ≠ 21 ∧ t ≠ 136) (k : Nat) (u : Value) : SubAt d sb rb mb pb prec cf scap pcap (w.setCell ⟨g, k, none⟩ u) :=
  ⟨h.sub.far (Bk.ne h.sub hg (fun e => ht.1 e.symm)) u, h.rice.far (Bk.ne h.rice hg (fun e => ht.2.1 e.symm)) u, h.smp.far (h.smp.ne hg (fun e => ht.2.2.1 e.symm)) u, h.prt.far (h.prt.ne hg (fun e => ht.2.2.2 e.symm)) u, h.scap, h.pcap⟩

theorem NCh.far {w : World} (h : NCh w) {p : Addr} (hp : 0 < p.block) (u : Value) : NCh (w.setCell p u) := fun i hi => by
  rw [World.cell?_setCell_other w p ⟨0, i, none⟩ u (by rintro rfl; exact absurd hp (by simp))]
  exact h i hi

theorem Mem.num {s : Sk} {B : Nat} {out : List UInt8} {e : EncS} {eb ib : Nat} {i : InfoD} {bl : Value} {fix : Bool} {z rate ch bps num : Int} {S : List SubL} {fb lb lcap : Nat} {tl : List Value} {m : MdS} {w : World} (hs : s.Ok Tryz.prog 429 B) (M : Mem s out e eb ib i bl ⟨fix, z, rate, ch, bps, num⟩ S fb lb lcap tl m w) (hn : ¬ s.own fb) (h0 : 0 < fb) (v : Int) :
    Mem s out e eb ib i bl ⟨fix, z, rate, ch, bps, v⟩ S fb lb lcap tl m (w.setCell ⟨fb, 5, none⟩ (.int .u64 v)) := by
  have hb := M.fr.blk
  refine ⟨M.enc.far (Bk.ne M.enc hb (by decide)) _, M.str.far (Bk.ne M.str hb (by decide)) _, M.info.far (Bk.ne M.info hb (by decide)) _, M.md.far (Bk.ne M.md hb (by decide)) _, ?_, hs.far M.inv hb (by decide) hn 5 _, M.tab.far h0 _⟩
  refine ⟨?_, M.fr.row.far (M.fr.row.ne hb (by decide)) _, fun j t ht => SubAt.far (M.fr.subs j t ht) hb (by decide) 5 _, M.fr.cap⟩
  have h1 := hb.put 5 (.int .u64 v)
  simpa [HdrD.cells] using h1

theorem Mem.encPut {s : Sk} {B : Nat} {out : List UInt8} {e e' : EncS} {eb ib : Nat} {i : InfoD} {bl : Value} {h : HdrD} {S : List SubL} {fb lb lcap : Nat} {tl : List Value} {m : MdS} {w : World} (hs : s.Ok Tryz.prog 429 B) (M : Mem s out e eb ib i bl h S fb lb lcap tl m w) (hn : ¬ s.own eb) (h0 : 0 < eb) (k : Nat) (v : Value) (he : (e.cells s).setIfInBounds k v = e'.cells s) (hsb : e'.sb = e.sb) (hmd : e'.md = e.md) :
    Mem s out e' eb ib i bl h S fb lb lcap tl m (w.setCell ⟨eb, k, none⟩ v) := by
  have hb := M.enc
  refine ⟨?_, ?_, M.info.far (Bk.ne M.info hb (by decide)) _, ?_, ?_, hs.far M.inv hb (by decide) hn k _, M.tab.far h0 _⟩
  · have h1 := hb.put k v
    rw [he] at h1
    exact h1
  · rw [hsb]
    exact M.str.far (Bk.ne M.str hb (by decide)) _
  · rw [hmd]
    exact M.md.far (Bk.ne M.md hb (by decide)) _
  · exact ⟨M.fr.blk.far (Bk.ne M.fr.blk hb (by decide)) _, M.fr.row.far (M.fr.row.ne hb (by decide)) _, fun j t ht => SubAt.far (M.fr.subs j t ht) hb (by decide) k _, M.fr.cap⟩

theorem Mem.grown {s : Sk} {B : Nat} {out : List UInt8} {e : EncS} {eb ib : Nat} {i : InfoD} {bl : Value} {h : HdrD} {S : List SubL} {fb lb lcap : Nat} {tl : List Value} {m m' : MdS} {w w' : World} (hs : s.Ok Tryz.prog 429 B) (M : Mem s out e eb ib i bl h S fb lb lcap tl m w) (hn : ¬ s.own e.md) (h0 : 0 < e.md) (hg : w.grownBy w' (some e.md)) (hm : Bk w' e.md 170 m'.cells) :
    Mem s out e eb ib i bl h S fb lb lcap tl m' w' := by
  refine ⟨M.enc.grown hg (by simpa using Bk.ne M.enc M.md (by decide)), M.str.grown hg (by simpa using Bk.ne M.str M.md (by decide)), M.info.grown hg (by simpa using Bk.ne M.info M.md (by decide)), hm, M.fr.grown M.md hg, ?_, ?_⟩
  · refine hs.stable _ _ _ M.inv fun k o hk hx => ?_
    have hlt := (Array.getElem?_eq_some_iff.1 hk).1
    refine (hg.block k hlt ?_).trans hk
    intro e1
    injection e1 with e1
    subst e1
    rcases hx with hx | hx
    · exact hn hx
    · exact M.md.noBytes (by decide) _ hk hx
  · intro j hj
    have hlt : 0 < w.heap.size := Nat.lt_of_le_of_lt (Nat.zero_le _) M.enc.lt
    exact hg.cell (M.tab j hj) (by simp; omega)

/-- The frame and its encoder, but for what the place to write to holds, through a call that leaves their blocks. -/
theorem FrAt.keep {h : HdrD} {S : List SubL} {fb lb lcap : Nat} {tl : List Value} {w w' : World} {B : Nat} {X : Nat → Prop} (f : FrAt h S fb lb lcap tl w) (k : Keep B X w w') (n1 : ¬ X fb) (n2 : ¬ X lb) (n3 : ∀ t ∈ S, ¬ X t.sb ∧ ¬ X t.rb ∧ ¬ X t.mb ∧ ¬ X t.pb) : FrAt h S fb lb lcap tl w' :=
  ⟨k.bk f.blk n1 (by decide), f.row.keep k n2 (by decide), fun j t ht => by
    have hm := List.mem_of_getElem? ht
    obtain ⟨a, b, c, d⟩ := n3 t hm
    exact SubAt.keep (f.subs j t ht) k a b c d, f.cap⟩

theorem Keep.onGrown {B : Nat} {S : Nat → Prop} {a w w' : World} {md : Nat} (h : Keep B S a w) (hg : w.grownBy w' (some md)) (hB : B ≤ md) (hlt : md < w.heap.size) (hS : S md) : Keep B S a w' :=
  ⟨h.below.grown hg (by omega) (by intro k hk; injection hk with hk; omega), fun k o hk hn hb => (hg.block k (Array.getElem?_eq_some_iff.1 (h.blk k o hk hn hb)).1 (by intro e; injection e with e; subst e; exact hn hS)).trans (h.blk k o hk hn hb)⟩

theorem Bk.grownMd {w w' : World} {g md : Nat} {t : TypeId} {cs cs' : Array Value} (h : Bk w g t cs) (hm : Bk w md 170 cs') (ht : t ≠ 170) (hg : w.grownBy w' (some md)) : Bk w' g t cs := h.grown hg (by simpa using Bk.ne h hm ht)

theorem D16.grown {d tb : Nat} {c : Int} {w w' : World} {md : Nat} {cs : Array Value} (h : D16 d tb c w) (hm : Bk w md 170 cs) (hg : w.grownBy w' (some md)) : D16 d tb c w' := ⟨h.blk.grownMd hm (by decide) hg, h.tab.grownMd hm (by decide) hg, h.rng⟩

theorem Multi.grown {mw r : Nat} {vs : List Value} {w w' : World} {md : Nat} {cs : Array Value} (h : Multi mw r vs w) (hm : Bk w md 170 cs) (hg : w.grownBy w' (some md)) : Multi mw r vs w' := by
  obtain ⟨cap, cur, hb, hr, rest⟩ := h
  exact ⟨cap, cur, hb.grownMd hm (by decide) hg, hr.grownMd hm (by decide) hg, rest⟩

theorem D16.far {d tb : Nat} {c : Int} {w : World} {g : Nat} {t : TypeId} {cs : Array Value} (h : D16 d tb c w) (hm : Bk w g t cs) (ht : t ≠ 243 ∧ t ≠ 245) (k : Nat) (u : Value) : D16 d tb c (w.setCell ⟨g, k, none⟩ u) := ⟨h.blk.far (Bk.ne h.blk hm (fun e => ht.1 e.symm)) u, h.tab.far (Bk.ne h.tab hm (fun e => ht.2 e.symm)) u, h.rng⟩

theorem Multi.farB {mw r : Nat} {vs : List Value} {w : World} {g : Nat} {t : TypeId} {cs : Array Value} (h : Multi mw r vs w) (hm : Bk w g t cs) (ht : t ≠ 201 ∧ t ≠ 101) (k : Nat) (u : Value) : Multi mw r vs (w.setCell ⟨g, k, none⟩ u) := by
  have := h.ne hm ht.1 ht.2
  exact Multi.far h ⟨g, k, none⟩ this.1 this.2 u 0

/-- What the frame's writing asks for. -/
structure WPre (s : Sk) (B : Nat) (out0 : List UInt8) (e : EncS) (eb ib : Nat) (i : InfoD) (bl : Value) (h : HdrD) (S : List SubL) (fb lb lcap : Nat) (tl : List Value) (n : Nat) (m : MdS) (w : World) : Prop where
  mem : Mem s out0 e eb ib i bl h S fb lb lcap tl m w
  mok : m.ok
  mfit : m.fit
  eok : e.ok
  subs : ∀ (j : Nat) (t : SubL), S[j]? = some t → t.d.ok ∧ t.d.samples.length = n
  nch : (S.length : Int) = h.ch + 1 ∧ i.nch = S.length
  ch : 0 ≤ h.ch ∧ h.ch < 8
  z : h.z = n
  nr : 1 ≤ n ∧ n ≤ 256
  rate : isRate h.rate
  bps : isBits h.bps
  ana : e.ana = true → ∀ t ∈ S, t.d.kind ≠ 1
  cap : out0.length + 17592186044416 ≤ s.cap
  bB : B ≤ w.heap.size
  nown : ¬ s.own eb ∧ ¬ s.own e.sb ∧ ¬ s.own ib ∧ ¬ s.own e.md ∧ ¬ s.own fb ∧ ¬ s.own lb ∧ ∀ t ∈ S, ¬ s.own t.sb ∧ ¬ s.own t.rb ∧ ¬ s.own t.mb ∧ ¬ s.own t.pb
  low : B ≤ eb ∧ B ≤ e.md ∧ B ≤ fb
end Go.Proofs.YtlabcknoooaefaaGreatDoor
