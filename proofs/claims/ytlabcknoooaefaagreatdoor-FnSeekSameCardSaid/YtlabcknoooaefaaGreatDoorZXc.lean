/-
  THE LAW: what is written over what can be written anew.
-/
import Derived.Test.YtlabcknoooaefaaGreatDoorZEd
namespace Go.Proofs.YtlabcknoooaefaaGreatDoor
open Go.RowKit
set_option linter.unusedVariables false

set_option maxRecDepth 1000000 in
set_option maxHeartbeats 8000000 in
theorem law5 (flags : Int) (hf : 0 ≤ flags ∧ flags < 4294967296) (As Ad Ak : Option Addr) (ns cs nd cd nk ck : Nat) (sl dl kl : List Int) (hs : ns ≤ cs ∧ cs ≤ maxLen) (hd : nd ≤ cd ∧ cd ≤ maxLen) (hk : nk ≤ ck ∧ ck ≤ maxLen) (hsl : ∀ x ∈ sl, 0 ≤ x ∧ x < 256) (hkl : ∀ v ∈ kl, 0 ≤ v ∧ v < 65536) (w : World) (hn : NCh w) (hw0 : 0 < w.heap.size) (hrs : Reads w w.heap.size 1 As ns (u8V sl)) (hrd : Reads w w.heap.size 1 Ad nd (u8V dl)) (hrk : Reads w w.heap.size 1 Ak nk (u16V kl)) :
    Calls Tryz.prog 5 #[.int .u32 flags, .slice As ns cs, .slice Ad nd cd, .slice Ak nk ck] w fun e w' => e = .returned (.bool true) ∧ Below w.heap.size w w' := by
  have hs9 : ns ≤ 9223372036854775807 := by unfold maxLen at hs; omega
  have hd9 : nd ≤ 9223372036854775807 := by unfold maxLen at hd; omega
  have hk9 : nk ≤ 9223372036854775807 := by unfold maxLen at hk; omega
  by_cases g1 : ns ≤ 2147483647
  case neg =>
    go_enter Tryz.func5, Tryz.ntmps5
    go_wp2_with fail
    go_ret
    exact ⟨rfl, Below.refl _ _⟩
  by_cases g2 : nd ≤ 2147483647
  case neg =>
    go_enter Tryz.func5, Tryz.ntmps5
    go_wp2_with fail
    go_ret
    exact ⟨rfl, Below.refl _ _⟩
  by_cases g3 : nk ≤ 2147483647
  case neg =>
    go_enter Tryz.func5, Tryz.ntmps5
    go_wp2_with fail
    go_ret
    exact ⟨rfl, Below.refl _ _⟩
  go_enter Tryz.func5, Tryz.ntmps5
  go_wp2_with fail
  refine (fewP Ad Ak nd cd nk ck hd9 hk9 w).mono ?_
  rintro e wx ⟨b, rfl, hfew, rfl⟩
  cases b
  case false =>
    go_wp2_with fail
    go_ret
    exact ⟨rfl, Below.refl _ _⟩
  obtain ⟨hd1, hk1⟩ := hfew rfl
  clear hfew
  have HG := givenP flags hf As Ad Ak ns cs nd cd nk ck sl dl kl hs ⟨hd1, hd⟩ ⟨hk1, hk⟩ hsl hkl w hrs hrd hrk
  clear hsl hkl hrs hrd hrk
  go_wp2_with fail
  refine HG.mono ?_
  rintro e w2 ⟨rate, ch, bits, nsam, nch, A, cap, frs, rfl, hin, hbt, hch, hnch, G2⟩
  clear HG
  subst hch
  have b2 := (Below.refl w2.heap.size w2).alloc (Nat.le_refl _) (.cells (infoV rate nch bits nsam) 28)
  have G3 := G2.same b2
  have bx := Bk.new w2 28 (infoV rate nch bits nsam)
  obtain ⟨xb, hxb⟩ : ∃ xb, xb = w2.heap.size := ⟨_, rfl⟩
  obtain ⟨w3, hw3⟩ : ∃ w3, w3 = w2.alloc (.cells (infoV rate nch bits nsam) 28) := ⟨_, rfl⟩
  rw [← hw3] at G3 bx b2
  rw [← hxb] at bx
  unfold infoV at hw3 bx ⊢
  have HG3 := Lib.hid G3
  have HBX := Lib.hid bx
  clear bx G3 G2 b2
  go_upto_region 6 with fail
  rw [← hw3, ← hxb]
  clear hw3 hxb
  go_wp2_with fail
  refine (wideP A frs cap (by have := HG3.out.len; omega) HG3.out.cap _ HG3.out.frsAt).mono ?_
  rintro e w4 ⟨b, rfl, _, b4⟩
  have G4 := HG3.out.same b4
  have bx4 := HBX.out.below b4 HBX.out.lt
  cases b
  case false =>
    have HB4 := Lib.hid G4.below
    clear G4 bx4 b4
    go_wp2_with fail
    go_ret
    exact ⟨rfl, HB4.out⟩
  have n4 : NCh w4 := hn.below hw0 G4.below
  have z4 : 0 < w4.heap.size := Nat.lt_of_lt_of_le hw0 G4.hB
  have HE1 := seekP rate nch bits nsam hin A frs cap nch G4.len G4.cap rfl hbt w4 n4 z4 G4.frsAt G4.ok
  unfold infoV at HE1
  have HHE1 := Lib.hid HE1
  have y0 := bx4.cell 0
  have y1 := bx4.cell 1
  have y2 := bx4.cell 2
  have y3 := bx4.cell 3
  have y4 := bx4.cell 4
  have y5 := bx4.cell 5
  have y6 := bx4.cell 6
  have y7 := bx4.cell 7
  have y8 := bx4.cell 8
  simp at y0 y1 y2 y3 y4 y5 y6 y7 y8
  have HG4 := Lib.hid G4
  have HBX4 := Lib.hid bx4
  clear HE1 n4 G4 bx4 HG3 HBX b4
  go_wp2_with fail
  refine HHE1.out.mono ?_
  rintro e w5 ⟨v1, l1, rfl, hl1, own1, b5⟩
  have G5 := HG4.out.same b5
  have bx5 := HBX4.out.below b5 HBX4.out.lt
  have n5 : NCh w5 := hn.below hw0 G5.below
  have z5 : 0 < w5.heap.size := Nat.lt_of_lt_of_le hw0 G5.hB
  have HE2 := encodeP rate nch bits nsam hin A frs cap nch G5.len G5.cap rfl hbt w5 n5 z5 G5.frsAt G5.ok
  unfold infoV at HE2
  have HHE2 := Lib.hid HE2
  clear y0 y1 y2 y3 y4 y5 y6 y7 y8
  have y0 := bx5.cell 0
  have y1 := bx5.cell 1
  have y2 := bx5.cell 2
  have y3 := bx5.cell 3
  have y4 := bx5.cell 4
  have y5 := bx5.cell 5
  have y6 := bx5.cell 6
  have y7 := bx5.cell 7
  have y8 := bx5.cell 8
  simp at y0 y1 y2 y3 y4 y5 y6 y7 y8
  have HL1 := Lib.hid hl1
  have HO1 := Lib.hid own1
  have HG5 := Lib.hid G5
  clear HE2 n5 G5 bx5 hl1 own1 b5 HHE1 HG4 HBX4
  go_wp2_with fail
  refine HHE2.out.mono ?_
  rintro e w6 ⟨v2, l2, rfl, hl2, own2, b6⟩
  have own1 := ownsRow_below HO1.out b6 (fun k hk => (HO1.out.lt k hk).2)
  have bw6 : Below w.heap.size w w6 := HG5.out.below.trans (b6.mono HG5.out.hB)
  obtain ⟨hl1a, hl1b⟩ := HL1.out
  rw [← hl2] at hl1a hl1b
  have h42 : 42 ≤ l2.length := by
    rw [hl2, List.length_append, headLen]
    omega
  obtain ⟨g1, c1, hv1, _, _, c1a, c1b, _⟩ := ownsRow_some own1 (by omega)
  obtain ⟨g2, c2, hv2, _, _, c2a, c2b, _⟩ := ownsRow_some own2 (by omega)
  subst hv1 hv2
  unfold maxLen at c1b c2b
  obtain ⟨A1, hs1, hk1⟩ := strDrop own1 rfl (by omega) c1a c1b
  obtain ⟨A2, hs2, hk2⟩ := strDrop own2 rfl h42 c2a c2b
  rw [hl1b] at hk1
  have hc1 := fun (k : Nat) => hk1 (w6.drewN k) (fun _ => rfl)
  have hc2 := fun (k : Nat) => hk2 (w6.drewN k) (fun _ => rfl)
  have hd1 := hk1 w6 (fun _ => rfl)
  have hd2 := hk2 w6 (fun _ => rfl)
  obtain ⟨s2, hs2e⟩ : ∃ s2, s2 = ByteArray.mk (l2.drop 42).toArray := ⟨_, rfl⟩
  rw [← hs2e] at hc1 hc2 hd1 hd2
  clear hs2e hk1 hk2 hl1b hl2 own1 own2
  have hi2 : (42 : Int) ≤ (l2.length : Int) := by omega
  rw [hl1a] at hs1 hc1 hd1 ⊢
  generalize l2.length = n2 at *
  have HB6 := Lib.hid bw6
  clear bw6 b6 HHE2 HG5 HL1 HO1 hl1a y0 y1 y2 y3 y4 y5 y6 y7 y8
  go_wp2_with fail
  go_quiet (fail)
  go_wp2_with fail
  go_ret
  exact ⟨rfl, Below.drewN' HB6.out _⟩
end Go.Proofs.YtlabcknoooaefaaGreatDoor
