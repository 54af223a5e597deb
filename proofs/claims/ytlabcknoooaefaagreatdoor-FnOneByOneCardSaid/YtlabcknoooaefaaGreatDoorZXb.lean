/-
  THE LAW: with fewer frames a stream is the beginning of the one with more.
-/
import Derived.Test.YtlabcknoooaefaaGreatDoorZEd
namespace Go.Proofs.YtlabcknoooaefaaGreatDoor
open Go.RowKit
set_option linter.unusedVariables false

set_option maxRecDepth 1000000 in
set_option maxHeartbeats 8000000 in
theorem law3 (flags : Int) (hf : 0 ≤ flags ∧ flags < 4294967296) (As Ad Ak : Option Addr) (ns cs nd cd nk ck : Nat) (sl dl kl : List Int) (hs : ns ≤ cs ∧ cs ≤ maxLen) (hd : nd ≤ cd ∧ cd ≤ maxLen) (hk : nk ≤ ck ∧ ck ≤ maxLen) (hsl : ∀ x ∈ sl, 0 ≤ x ∧ x < 256) (hkl : ∀ v ∈ kl, 0 ≤ v ∧ v < 65536) (w : World) (hn : NCh w) (hw0 : 0 < w.heap.size) (hrs : Reads w w.heap.size 1 As ns (u8V sl)) (hrd : Reads w w.heap.size 1 Ad nd (u8V dl)) (hrk : Reads w w.heap.size 1 Ak nk (u16V kl)) (n : Int) (hn8 : 0 ≤ n ∧ n < 256) :
    Calls Tryz.prog 3 #[.int .u32 flags, .slice As ns cs, .slice Ad nd cd, .slice Ak nk ck, .int .u8 n] w fun e w' => e = .returned (.bool true) ∧ Below w.heap.size w w' := by
  have hs9 : ns ≤ 9223372036854775807 := by unfold maxLen at hs; omega
  have hd9 : nd ≤ 9223372036854775807 := by unfold maxLen at hd; omega
  have hk9 : nk ≤ 9223372036854775807 := by unfold maxLen at hk; omega
  by_cases g1 : ns ≤ 2147483647
  case neg =>
    go_enter Tryz.func3, Tryz.ntmps3
    go_wp2_with fail
    go_ret
    exact ⟨rfl, Below.refl _ _⟩
  by_cases g2 : nd ≤ 2147483647
  case neg =>
    go_enter Tryz.func3, Tryz.ntmps3
    go_wp2_with fail
    go_ret
    exact ⟨rfl, Below.refl _ _⟩
  by_cases g3 : nk ≤ 2147483647
  case neg =>
    go_enter Tryz.func3, Tryz.ntmps3
    go_wp2_with fail
    go_ret
    exact ⟨rfl, Below.refl _ _⟩
  go_enter Tryz.func3, Tryz.ntmps3
  go_wp2_with fail
  refine (fewP Ad Ak nd cd nk ck hd9 hk9 w).mono ?_
  rintro e wx ⟨b, rfl, hfew, rfl⟩
  cases b
  case false =>
    go_wp2_with fail
    go_ret
    exact ⟨rfl, Below.refl _ _⟩
  obtain ⟨hd1, hk1⟩ := hfew rfl
  clear hfew
  have HG := givenP flags hf As Ad Ak ns cs nd cd nk ck sl dl kl hs ⟨hd1, hd⟩ ⟨hk1, hk⟩ hsl hkl w hrs hrd hrk
  clear hsl hkl hrs hrd hrk
  go_wp2_with fail
  refine HG.mono ?_
  rintro e w2 ⟨rate, ch, bits, nsam, nch, A, cap, frs, rfl, hin, hbt, hch, hnch, G2⟩
  clear HG
  subst hch
  have b2 := (Below.refl w2.heap.size w2).alloc (Nat.le_refl _) (.cells (infoV rate nch bits nsam) 28)
  have G3 := G2.same b2
  have bx := Bk.new w2 28 (infoV rate nch bits nsam)
  obtain ⟨xb, hxb⟩ : ∃ xb, xb = w2.heap.size := ⟨_, rfl⟩
  obtain ⟨w3, hw3⟩ : ∃ w3, w3 = w2.alloc (.cells (infoV rate nch bits nsam) 28) := ⟨_, rfl⟩
  rw [← hw3] at G3 bx b2
  rw [← hxb] at bx
  have HW3 := Lib.hid hw3
  have HXB := Lib.hid hxb
  clear hw3 hxb
  have n3 : NCh w3 := hn.below hw0 G3.below
  have z3 : 0 < w3.heap.size := Nat.lt_of_lt_of_le hw0 G3.hB
  have HE1 := encodeP rate nch bits nsam hin A frs cap nch G3.len G3.cap rfl hbt w3 n3 z3 G3.frsAt G3.ok
  unfold infoV at HE1 HW3 bx ⊢
  have HHE1 := Lib.hid HE1
  have HBX := Lib.hid bx
  have HG3 := Lib.hid G3
  clear HE1 bx G3 n3 G2 b2
  go_wp2_with fail
  rw [← HW3.out, ← HXB.out]
  refine HHE1.out.mono ?_
  rintro e w4 ⟨v1, l1, rfl, hl1, own1, b4⟩
  have G4 := HG3.out.same b4
  have bx4 := HBX.out.below b4 HBX.out.lt
  have n4 : NCh w4 := hn.below hw0 G4.below
  have hwz4 := G4.hB
  obtain ⟨q, hq⟩ : ∃ q : Nat, q = n.toNat % (frs.length + 1) := ⟨_, rfl⟩
  have hql : q ≤ frs.length := by rw [hq]; exact Nat.le_of_lt_succ (Nat.mod_lt n.toNat (Nat.succ_pos frs.length))
  have htl : (frs.take q).length = q := by rw [List.length_take]; omega
  have hl3 := G4.len
  have HE2 := fun (k : Nat) => encodeP rate nch bits nsam hin A (frs.take q) cap nch (by rw [htl]; omega) (by rw [htl]; exact ⟨Nat.le_trans hql G4.cap.1, G4.cap.2⟩) rfl hbt (w4.drewN k) n4 (Nat.lt_of_lt_of_le hw0 hwz4) ((G4.frsAt.take q).below (Below.drewN' (Below.refl _ _) k)) (fun f hf => G4.ok f (List.mem_of_mem_take hf))
  rw [htl] at HE2
  unfold infoV at HE2
  have HHE2 := Lib.hid HE2
  have hsl2 := fun (W : World) => sliceAny29 G4.row q hql G4.cap.1 (by have := G4.cap.2; unfold maxLen at this; omega) W
  have e1 : n.tmod ((frs.length : Int) + 1) = (q : Int) := by
    rw [hq, Int.tmod_eq_emod_of_nonneg hn8.1]
    have : n = (n.toNat : Int) := by omega
    rw [this]
    simp
  have e2 : n % ((frs.length : Int) + 1) = (q : Int) := by
    rw [← e1, Int.tmod_eq_emod_of_nonneg hn8.1]
  have z0 := bx4.cell 0
  have z1 := bx4.cell 1
  have z2 := bx4.cell 2
  have z3 := bx4.cell 3
  have z4 := bx4.cell 4
  have z5 := bx4.cell 5
  have z6 := bx4.cell 6
  have z7 := bx4.cell 7
  have z8 := bx4.cell 8
  simp at z0 z1 z2 z3 z4 z5 z6 z7 z8
  have HL1 := Lib.hid hl1
  have HO1 := Lib.hid own1
  have HG4 := Lib.hid G4
  have HTL := Lib.hid htl
  clear HE2 hl1 own1 G4 htl hq bx4 HHE1 HG3 HBX HW3 HXB b4 n4
  go_wp2_with fail
  have hz : ¬ ((frs.length : Int) + 1) = 0 := by omega
  have wL : IntKind.i64.wrap ((frs.length : Int) + 1) = (frs.length : Int) + 1 := IntWalk.i64_in _ (by omega)
  have wn : IntKind.i64.wrap n = n := IntWalk.i64_in _ (by omega)
  go_region_law (go_simp; go_at_call 8; refine (HHE2.out 1).mono ?_; rintro e w5 ⟨v2, l2, rfl, hl2, own2, b5⟩)
  have b5w : Below w4.heap.size w4 w5 := (Below.drewN' (Below.refl _ w4) 1).trans b5
  have own1 := ownsRow_below HO1.out b5w (fun k hk => (HO1.out.lt k hk).2)
  have bw5 : Below w.heap.size w w5 := HG4.out.below.trans (b5w.mono hwz4)
  have hl1 := HL1.out
  have hpre : l2 <+: l1 := by
    rw [hl1, hl2]
    exact (List.prefix_append_right_inj _).2 (encB_prefix q frs _)
  have hle := hpre.length_le
  have h42 : 42 ≤ l2.length := by
    rw [hl2, List.length_append, headLen]
    omega
  obtain ⟨g1, c1, hv1, _, _, c1a, c1b, _⟩ := ownsRow_some own1 (by omega)
  obtain ⟨g2, c2, hv2, _, _, c2a, c2b, _⟩ := ownsRow_some own2 (by omega)
  subst hv1 hv2
  have hc1 := fun (k : Nat) => strOwn own1 0 l2.length c1 (by omega) (w5.drewN k) (fun _ => rfl)
  have hc2 := fun (k : Nat) => strOwn own2 0 l2.length c2 (by omega) (w5.drewN k) (fun _ => rfl)
  have hd1 := strOwn own1 0 l2.length c1 (by omega) w5 (fun _ => rfl)
  have hd2 := strOwn own2 0 l2.length c2 (by omega) w5 (fun _ => rfl)
  have et : l1.take l2.length = l2 := (List.prefix_iff_eq_take.1 hpre).symm
  simp only [List.drop_zero, List.take_length, et] at hc1 hc2 hd1 hd2
  unfold maxLen at c1b
  have hsh := fun (W : World) => sliceHigh23 g1 l1.length c1 l2.length (by omega) c1b W
  obtain ⟨s2, hs2⟩ : ∃ s2, s2 = ByteArray.mk l2.toArray := ⟨_, rfl⟩
  rw [← hs2] at hc1 hc2 hd1 hd2
  clear hs2 et hl1 hl2 hpre own1 own2
  have hi1 : (l2.length : Int) ≤ (l1.length : Int) := by omega
  have hi2 : (42 : Int) ≤ (l2.length : Int) := by omega
  have hi3 : (l2.length : Int) ≤ (c1 : Int) := by omega
  generalize l1.length = n1 at *
  generalize l2.length = n2 at *
  have HB5 := Lib.hid bw5
  clear bw5 b5w b5 HHE2 HG4 HTL HL1 HO1 wL wn hz e1 e2 hsl2 z0 z1 z2 z3 z4 z5 z6 z7 z8
  go_wp2_with fail
  go_quiet (fail)
  go_wp2_with fail
  go_ret
  exact ⟨rfl, Below.drewN' HB5.out _⟩
end Go.Proofs.YtlabcknoooaefaaGreatDoor
