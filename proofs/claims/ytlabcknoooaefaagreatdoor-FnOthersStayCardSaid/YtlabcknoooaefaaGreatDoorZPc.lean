/-
  THE REFERENCE's channel, as it stands; a way that fits; a number coded.
-/
import Derived.Test.YtlabcknoooaefaaGreatDoorZPa
import Derived.Deep.QuietTactic
import Derived.BigQuiet
import Derived.WalkLawsBesides
namespace Go.Proofs.YtlabcknoooaefaaGreatDoor
open Go.RowKit
set_option linter.unusedVariables false

theorem PWr.alloc {B wb at_ : Nat} {w : World} (h : PWr B wb at_ w) (o : Obj) : PWr B wb at_ (w.alloc o) := by
  obtain ⟨v, l, a, b⟩ := h.ex
  exact ⟨⟨v, l, a.alloc o, b.alloc o⟩⟩

theorem wordJ (B wb at_ : Nat) (v N : Int) (hN : 0 ≤ N ∧ N ≤ 64) (hat : at_ ≤ 1099511600000) (w : World) (h : PWr B wb at_ w) (hB : B ≤ wb) :
    Calls Tryz.prog 50 #[.pointer (some ⟨wb, 0, none⟩), .int .i64 v, .int .i64 N] w fun e w' => e = .returned (.tuple #[]) ∧ PWr B wb (at_ + N.toNat) w' ∧ Keep B (fun k => k = wb) w w' := by
  obtain ⟨n, rfl⟩ := Int.eq_ofNat_of_zero_le hN.1
  exact word B wb at_ n v (by omega) w h hB

/-- A channel as it stands: the reference's way. -/
def wayV : Array Value := #[.int .i64 1, .int .i64 0, .int .i64 0, .slice none 0 0, .int .i64 0, .int .i64 0, .int .i64 0, .int .i64 0, .bool false, .int .i64 0]

set_option maxRecDepth 100000 in
set_option maxHeartbeats 2000000 in
theorem fitP (g n c : Nat) (l : List Int) (hl : l.length = n) (hn1 : 1 ≤ n) (hc : n ≤ c ∧ c ≤ maxLen) (bits : Int) (w : World) (row : Row w g 3 (intV l)) :
    Calls Tryz.prog 49 #[.agg wayV, .slice (some ⟨g, 0, none⟩) n c, .int .i64 bits] w fun e w' => e = .returned (.agg wayV) ∧ Below w.heap.size w w' := by
  unfold maxLen at hc
  have hn : n ≤ 9223372036854775807 := by omega
  have hglt := row.lt
  have rowc : ∀ k, k < n → ∀ o1 o2 : Obj, ((w.alloc o1).alloc o2).cell? ⟨g, k, none⟩ = some (.int .i64 (l.getD k 0)) := fun k hk o1 o2 => ((row.alloc o1).alloc o2).cell k _ (intV_get (by omega))
  have ROWC := Lib.hid rowc
  clear rowc
  unfold wayV
  go_enter Tryz.func49, Tryz.ntmps49
  go_wp2
  go_loop [7, 16] (fun v i => (∃ x : Int, v = .int .i64 x) ∧ ∃ k : Nat, k ≤ n ∧ i = .int .i64 (k : Int)) (fun _ i => n - (intOf i).toNat)
  case atStart => exact ⟨⟨0, rfl⟩, 0, by omega, rfl⟩
  case round =>
    obtain ⟨⟨x, rfl⟩, k, hk, rfl⟩ := hrel
    by_cases hlt : k < n
    · have ck := ROWC.out k hlt
      generalize l.getD k 0 = y at ck
      go_wp2
      go_round
      case rel => exact ⟨⟨_, rfl⟩, k + 1, by omega, by simp⟩
      case measure => simp [intOf] <;> omega
    · go_wp2_with fail
      refine wp_loop_once ?_
      go_wp2_with fail
      go_loop [48] (fun i => ∃ k : Nat, k ≤ n ∧ i = .int .i64 (k : Int)) (fun i => n - (intOf i).toNat)
      case atStart => exact ⟨0, by omega, rfl⟩
      case round =>
        obtain ⟨m, hm, rfl⟩ := hrel
        by_cases hlt : m < n
        · have ck := ROWC.out m hlt
          generalize l.getD m 0 = y at ck
          go_wp2
          go_round
          case rel => exact ⟨m + 1, by omega, by simp⟩
          case measure => simp [intOf] <;> omega
        · go_wp2_with fail
          refine wp_loop_once ?_
          go_wp2_with fail
          go_quiet (fail)
          go_wp2_with fail
          refine bodyPost_ret (v := .agg #[.int .i64 1, .int .i64 0, .int .i64 0, .slice none 0 0, .int .i64 0, .int .i64 0, .int .i64 0, .int .i64 0, .bool false, .int .i64 0]) (by simp [results, Tryz.results49, go_sem]) rfl ⟨rfl, ?_⟩
          have hb := ((Below.refl _ w).alloc (Nat.le_refl _) (.cells #[.int .i64 1, .int .i64 0, .int .i64 0, .slice none 0 0, .int .i64 0, .int .i64 0, .int .i64 0, .int .i64 0, .bool false, .int .i64 0] 94)).alloc (by simp) (.cells #[.int .i64 0, .int .i64 0, .int .i64 0, .slice none 0 0, .int .i64 0, .int .i64 0, .int .i64 0, .int .i64 0, .bool false, .int .i64 0] 94)
          repeat refine Below.setCell ?_ (by show w.heap.size ≤ w.heap.size + 1; omega) _
          exact ⟨hb.os, hb.tape, hb.output, hb.size, hb.block⟩

/-- What the writing of a channel reads, in memory. -/
structure ChSt (B wb a yb g : Nat) (l : List Int) (w0 w : World) : Prop where
  wr : PWr B wb a w
  way : Bk w yb 94 wayV
  row : Row w g 3 (intV l)
  keep : Keep B (fun k => k = wb) w0 w
  nw : yb ≠ wb
  ng : g ≠ wb
  hB : B ≤ w.heap.size

theorem ChSt.on {B wb a a' yb g : Nat} {l : List Int} {w0 w w' : World} (h : ChSt B wb a yb g l w0 w) (p : PWr B wb a' w') (k : Keep B (fun k => k = wb) w w') : ChSt B wb a' yb g l w0 w' :=
  ⟨p, k.bk h.way h.nw (by decide), h.row.keep k h.ng (by decide), h.keep.trans k, h.nw, h.ng, Nat.le_trans h.hB k.below.size⟩

theorem ChSt.alloc {B wb a yb g : Nat} {l : List Int} {w0 w : World} (h : ChSt B wb a yb g l w0 w) (o : Obj) : ChSt B wb a yb g l w0 (w.alloc o) :=
  ⟨h.wr.alloc o, h.way.alloc o, h.row.alloc o, h.keep.alloc h.hB o, h.nw, h.ng, by have := h.hB; simp; omega⟩

theorem ChSt.cells {B wb a yb g : Nat} {l : List Int} {w0 w : World} (h : ChSt B wb a yb g l w0 w) : w.cell? ⟨yb, 0, none⟩ = some (.int .i64 1) ∧ w.cell? ⟨yb, 1, none⟩ = some (.int .i64 0) ∧ w.cell? ⟨yb, 2, none⟩ = some (.int .i64 0) := by
  refine ⟨?_, ?_, ?_⟩ <;> (rw [h.way.cell]; rfl)

set_option maxRecDepth 100000 in
set_option maxHeartbeats 2000000 in
theorem channelP (B wb at_ : Nat) (g n c : Nat) (l : List Int) (hl : l.length = n) (hn : 1 ≤ n ∧ n ≤ 256) (hc : n ≤ c ∧ c ≤ maxLen) (bits : Int) (hb : 0 ≤ bits ∧ bits ≤ 25) (hat : at_ ≤ 1000000000) (hB : B ≤ wb) (w : World) (h : PWr B wb at_ w) (row : Row w g 3 (intV l)) :
    Calls Tryz.prog 48 #[.pointer (some ⟨wb, 0, none⟩), .slice (some ⟨g, 0, none⟩) n c, .int .i64 bits, .agg wayV] w fun e w' => e = .returned (.tuple #[]) ∧ PWr B wb (at_ + 8 + n * bits.toNat) w' ∧ Keep B (fun k => k = wb) w w' := by
  unfold maxLen at hc
  have hBw : B ≤ w.heap.size := by have := h.blk; omega
  have hne : wb < w.heap.size := h.blk
  have hgw : g ≠ wb := by
    obtain ⟨v, l2, a, b⟩ := h.ex
    obtain ⟨cur, hb, _⟩ := row
    exact Bk.ne hb a (by decide)
  have C0 : ChSt B wb at_ w.heap.size g l w (w.alloc (.cells wayV 94)) := ⟨h.alloc _, Bk.new w 94 wayV, row.alloc _, (Keep.refl B (fun k => k = wb) w).alloc hBw _, by omega, hgw, by simp; omega⟩
  obtain ⟨y0, y1, y2⟩ := C0.cells
  unfold wayV at C0 y0 y1 y2 ⊢
  go_enter Tryz.func48, Tryz.ntmps48
  go_wp2_with fail
  refine (wordJ B wb _ _ _ (by decide) (by omega) _ C0.wr hB).mono ?_
  rintro e w1 ⟨rfl, P1, k1⟩
  have C1 := C0.on P1 k1
  have hlty := C1.way.lt
  clear C0 y0 y1 y2 P1 k1
  generalize hyb2 : w.heap.size = yb at *
  have HY := Lib.hid hyb2
  clear hyb2
  obtain ⟨y0, y1, y2⟩ := C1.cells
  go_wp2_with fail
  refine (wordJ B wb _ _ _ (by decide) (by simp; omega) _ (C1.alloc _).wr hB).mono ?_
  rintro e w2 ⟨rfl, P2, k2⟩
  have C2 := (C1.alloc _).on P2 k2
  clear C1 y0 y1 y2 P2 k2
  obtain ⟨y0, y1, y2⟩ := C2.cells
  go_wp2_with fail
  refine (wordJ B wb _ _ _ (by decide) (by simp; omega) _ C2.wr hB).mono ?_
  rintro e w3 ⟨rfl, P3, k3⟩
  have C3 := C2.on P3 k3
  clear C2 y0 y1 y2 P3 k3
  obtain ⟨y0, y1, y2⟩ := C3.cells
  have hlen : n ≤ 9223372036854775807 := by omega
  have e8 : at_ + Int.toNat 1 + Int.toNat 6 + Int.toNat 1 = at_ + 8 + 0 * bits.toNat := by simp <;> omega
  rw [e8] at C3
  clear e8
  have HL := Lib.hid hl
  clear hl
  go_wp2_with fail
  go_loopw [75] (fun i wr => ∃ k : Nat, k ≤ n ∧ i = .int .i64 (k : Int) ∧ ChSt B wb (at_ + 8 + k * bits.toNat) yb g l w wr) (fun i _ => n - (intOf i).toNat)
  case atStart => exact ⟨0, by omega, rfl, C3⟩
  case round =>
    obtain ⟨k, hk, rfl, C4⟩ := hrel
    clear y0 y1 y2
    obtain ⟨y0, y1, y2⟩ := C4.cells
    by_cases hlt : k < n
    · have ck := C4.row.cell k _ (intV_get (by have := HL.out; omega))
      generalize l.getD k 0 = y at ck
      have hmul : k * bits.toNat ≤ 256 * 25 := Nat.mul_le_mul (by omega) (by omega)
      go_wp2_with fail
      refine (wordJ B wb _ _ _ (by omega) (by omega) _ C4.wr hB).mono ?_
      rintro e w5 ⟨rfl, P5, k5⟩
      have C5 := C4.on P5 k5
      go_wp2_with fail
      go_roundw
      case rel => exact ⟨k + 1, by omega, by simp, by rw [Nat.succ_mul, ← Nat.add_assoc]; exact C5⟩
      case measure => simp [intOf] <;> omega
    · go_wp2_with fail
      refine bodyPost_ret (results_none rfl _ _ _) rfl ?_
      have hkn : k = n := by omega
      subst hkn
      exact ⟨rfl, C4.wr, C4.keep⟩
end Go.Proofs.YtlabcknoooaefaaGreatDoor
