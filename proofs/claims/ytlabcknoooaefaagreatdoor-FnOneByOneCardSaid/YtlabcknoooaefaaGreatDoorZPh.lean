/-
  THE SAMPLES: sound.
-/
import Derived.Test.YtlabcknoooaefaaGreatDoorZPa
import Derived.Test.YtlabcknoooaefaaGreatDoorZGm
import Derived.Deep.DeepCutAuto
import Derived.Deep.CutBlock
import Derived.Deep.QuietTactic
import Derived.BigQuiet
namespace Go.Proofs.YtlabcknoooaefaaGreatDoor
open Go.RowKit
set_option linter.unusedVariables false

theorem Below.drewN' {B : Nat} {a w : World} (h : Below B a w) (q : Nat) : Below B a (w.drewN q) := ⟨h.os, h.tape, h.output, h.size, h.block⟩

/-- So many samples, whatever numbers. -/
def NewInts (n : Nat) (w : World) (e : Ending) (w' : World) : Prop := ∃ v l, e = .returned v ∧ l.length = n ∧ w'.ownsRow w.heap.size 3 1 v n (intV l) ∧ Below w.heap.size w w'

set_option maxRecDepth 100000 in
set_option maxHeartbeats 4000000 in
theorem soundP (kind : Int) (hk : 0 ≤ kind ∧ kind < 256) (n : Nat) (hn : n ≤ 256) (bits : Int) (hb : bits = 8 ∨ bits = 12 ∨ bits = 16 ∨ bits = 20 ∨ bits = 24) (A : Option Addr) (dn dc : Nat) (hd : dn ≤ 1000 ∧ dn ≤ dc ∧ dc ≤ maxLen) (dl : List Int) (w : World) (hdr : Reads w w.heap.size 1 A dn (u8V dl)) :
    Calls Tryz.prog 23 #[.int .u8 kind, .int .i64 (n : Int), .int .i64 bits, .slice A dn dc] w (NewInts n w) := by
  obtain ⟨i0, hi, hz0, hz1, hz2⟩ := info_parts (show (Tryz.prog.info? 3).map (fun i => (i.zero, i.size, i.bytes)) = some (some (.int .i64 0), 1, 8) by kernel_rfl)
  unfold maxLen at hd
  go_enter Tryz.func23, Tryz.ntmps23
  go_upto_region 3 with fail
  go_cut [11] from 14 (fun v wc => (∃ T : Int, v = .int .i64 T ∧ 1 ≤ T ∧ T ≤ 8388608) ∧ w.alloc (.cells #[] 3) = wc)
  case first =>
    rcases hb with rfl | rfl | rfl | rfl | rfl
    all_goals
      go_wp2_with fail
      go_meet
      exact ⟨⟨_, rfl, by decide, by decide⟩, rfl⟩
  case rest =>
  obtain ⟨⟨T, rfl, hT1, hT2⟩, hwc⟩ := hcut
  have O0 : wc.ownsRow w.heap.size 3 1 (.slice (some ⟨w.heap.size, 0, none⟩) 0 0) 0 (intV []) := by
    rw [← hwc]
    exact World.ownsRow_made w #[] 0 (Nat.le_refl _) (by decide) rfl
  have B0 : Below w.heap.size w wc := by
    rw [← hwc]
    exact (Below.refl _ w).alloc (Nat.le_refl _) _
  clear hwc
  go_wp2_with fail
  have hnm : n ≤ 9223372036854775807 := by omega
  go_loopg [9, 10, 19] n (fun k v x i wr => ∃ (j : Nat) (l : List Int), k + j = n ∧ i = .int .i64 (j : Int) ∧ (∃ y : Int, x = .int .i64 y) ∧ l.length = j ∧ wr.ownsRow w.heap.size 3 1 v j (intV l) ∧ Below w.heap.size w wr)
  case atStart => exact ⟨0, [], by omega, rfl, ⟨0, rfl⟩, rfl, O0, B0⟩
  case round =>
    obtain ⟨j, l, hgk, rfl, ⟨y, rfl⟩, hll, hown, hbl⟩ := hrel
    have HGK := Lib.hid hgk
    have HLL := Lib.hid hll
    have hjn : j ≤ n := by omega
    clear hgk hll O0 B0
    by_cases hlt : j < n
    · go_upto_if 27 with fail
      go_cut [9, 13] (fun v9 v wc => (∃ b : Int, v = .int .i64 b) ∧ wc.ownsRow w.heap.size 3 1 v9 j (intV l) ∧ Below w.heap.size w wc)
      case first =>
        by_cases hdn : 0 < dn
        · obtain ⟨ad, hA, hblk, hcell⟩ := hdr.2 hdn
          subst hA
          obtain ⟨q, hq⟩ : ∃ q, q = j % dn := ⟨_, rfl⟩
          have hqd : q < dn := by rw [hq]; exact Nat.mod_lt _ hdn
          have hdl : dl.length = dn := by have := hdr.1; rw [u8V_len] at this; omega
          have cq : wr.cell? (ad.add q) = some (.int .u8 (dl.getD q 0)) := (hbl.cell (by rw [block_of_add]; exact hblk)).trans (hcell q _ (u8V_get (by omega)))
          have e1 : (j : Int).tmod (dn : Int) = (q : Int) := by rw [hq]; exact (Int.ofNat_tmod j dn).symm
          have e2 : (j : Int) % (dn : Int) = (q : Int) := by rw [hq]; simp
          have hz : ¬ (dn : Int) = 0 := by omega
          have hz2 : ((dn : Int) == 0) = false := by simp; omega
          generalize dl.getD q 0 = dx at cq
          clear hq hdl hcell
          go_wp2_with fail
          go_quiet (fail)
          go_wp2_with fail
          go_meet
          exact ⟨⟨_, rfl⟩, ownsRow_stay hown (fun k o hk _ => hk), Below.drewN' hbl _⟩
        · obtain rfl : dn = 0 := by omega
          go_wp2_with fail
          go_meet
          exact ⟨⟨_, rfl⟩, hown, hbl⟩
      case rest =>
      obtain ⟨⟨b, rfl⟩, hown2, hbl2⟩ := hcut
      clear hown hbl
      go_upto_block 2 with fail
      go_cut [9, 10] (fun v9 v wc2 => (∃ b : Int, v = .int .i64 b) ∧ wc2.ownsRow w.heap.size 3 1 v9 j (intV l) ∧ Below w.heap.size w wc2)
      case first =>
        go_wp2_with fail
        all_goals go_meet
        all_goals exact ⟨⟨_, rfl⟩, hown2, hbl2⟩
      case rest =>
      obtain ⟨⟨y2, rfl⟩, hown3, hbl3⟩ := hcut
      clear hown2 hbl2
      have HO := Lib.hid hown3
      clear hown3
      by_cases hge : T ≤ y2
      all_goals
        go_wp2_with (at_builtin; refine wpList_append_own _ rfl (.tmp 102) (.tmp 104) 40 rfl w.heap.size 3 i0 (.int .i64 0) 1 8 Tryz.underlying40 hi hz0 hz1 hz2 rfl (by decide) _ _ _ rfl (HO.out.alloc _) ⟨wc.heap.size, 0, none⟩ 1 1 [_] rfl rfl (cell_one_new _ _ _) (fun x hx => by simp at hx; subst hx; rfl) (by unfold maxLen; omega) (by omega) (by have := hbl3.size; simp; omega) ?_; intro v1 w1 hown1 hg1 _)
      all_goals
        have hb1 : Below w.heap.size w w1 := (hbl3.alloc hbl3.size _).grown hg1 (by have := hbl3.size; simp; omega) (fun k hk => (HO.out.lt k hk).1)
        rw [intV_snoc] at hown1
        go_roundg (n - (j + 1))
        case measure => have := HGK.out; omega
        case rel => exact ⟨j + 1, l ++ [_], by omega, by simp, ⟨_, rfl⟩, by have := HLL.out; simp; omega, hown1, hb1⟩
    · go_wp2_with fail
      go_ret
      have hjn2 : j = n := by omega
      subst hjn2
      exact ⟨_, l, rfl, HLL.out, hown, hbl⟩
end Go.Proofs.YtlabcknoooaefaaGreatDoor
