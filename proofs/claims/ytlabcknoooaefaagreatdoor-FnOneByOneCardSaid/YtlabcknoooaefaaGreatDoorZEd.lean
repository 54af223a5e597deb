/-
  THE THIN PACKAGE: EncodeSeek (turned from Encode's walk by a small program).
-/
import Derived.Test.YtlabcknoooaefaaGreatDoorZEb
import Derived.Test.YtlabcknoooaefaaGreatDoorZCb
import Derived.Test.YtlabcknoooaefaaGreatDoorZVi
import Derived.Test.YtlabcknoooaefaaGreatDoorZPa
import Derived.Laws.IdiomStrings
import Derived.Deep.QuietTactic
import Derived.BigQuiet
namespace Go.Proofs.YtlabcknoooaefaaGreatDoor
open Go.RowKit
set_option linter.unusedVariables false

theorem memNew (w : World) (B : Nat) (hB : B ≤ w.heap.size) : MemAt B w.heap.size [] [] [] (w.alloc (.cells #[.slice none 0 0, .int .i64 0] 89)) :=
  ⟨hB, .slice none 0 0, Bk.new w 89 _, World.ownsRow_nil _ _ _ _⟩

set_option maxRecDepth 100000 in
set_option maxHeartbeats 8000000 in
theorem seekP (rate ch bits nsam : Int) (hi : InfoR rate ch bits nsam) (A : Option Addr) (frs : List FrI) (cap nch : Nat) (hl : frs.length ≤ 3) (hc : frs.length ≤ cap ∧ cap ≤ maxLen) (hch : ch = nch) (hbt5 : isBits bits) (w : World) (hn : NCh w) (hw : 0 < w.heap.size) (h : FrsAt A frs w) (hok : ∀ f ∈ frs, f.ok nch bits) :
    Calls Tryz.prog 11 #[.agg (infoV rate ch bits nsam), .slice A frs.length cap, .bool false] w fun e w' => ∃ v l, e = .returned (.tuple #[v, .int .i64 0]) ∧ (l.length = ((BS.info ⟨[102, 76, 97, 67], 0, 0⟩ true (infoD rate ch bits nsam)).align.out ++ encB ⟨0, 0, 0, 0, 0, 0, false⟩ frs).length ∧ l.drop 42 = ((BS.info ⟨[102, 76, 97, 67], 0, 0⟩ true (infoD rate ch bits nsam)).align.out ++ encB ⟨0, 0, 0, 0, 0, 0, false⟩ frs).drop 42) ∧ w'.ownsRow w.heap.size 5 1 v l.length (bytesV l) ∧ Below w.heap.size w w' := by
  have hib := memNew (w.alloc (.cells (infoV rate ch bits nsam) 28)) w.heap.size (by simp)
  have hx := Bk.new w 28 (infoV rate ch bits nsam)
  have hx0 := hx.alloc (.cells #[.slice none 0 0, .int .i64 0] 89)
  have hb0 := ((Below.refl _ w).alloc (Nat.le_refl _) (.cells (infoV rate ch bits nsam) 28)).alloc (by simp) (.cells #[.slice none 0 0, .int .i64 0] 89)
  have HCH := Lib.hid hch
  clear hch
  obtain ⟨W, hW⟩ : ∃ W, W = (w.alloc (.cells (infoV rate ch bits nsam) 28)).alloc (.cells #[.slice none 0 0, .int .i64 0] 89) := ⟨_, rfl⟩
  have hWz : W.heap.size = w.heap.size + 2 := by rw [hW]; simp
  have hbn : (w.alloc (.cells (infoV rate ch bits nsam) 28)).heap.size = w.heap.size + 1 := by simp
  rw [hbn, ← hW] at hib
  rw [← hW] at hb0
  have HW := Lib.hid hW
  have HIB := Lib.hid hib
  have HB0 := Lib.hid hb0
  have HWZ := Lib.hid hWz
  clear hib hx hx0 hb0 hW hWz hbn
  have HI := Lib.hid hi
  have ok := skMem_ok w.heap.size (w.heap.size + 1) [] [] (Nat.le_succ _) (by decide)
  have HOK := Lib.hid ok
  clear hi ok
  have HSI := Lib.hid (fun W => sinfoP HI.out W)
  unfold infoV at HSI HW
  unfold infoV
  go_enter Tryz.func11, Tryz.ntmps11
  go_wp2_with fail
  refine (HSI.out _).mono ?_
  rw [← HW.out]
  rintro e w1 ⟨ib, rfl, hib1, hI1, hb1⟩
  have hz1 := hb1.size
  have hz2 := HWZ.out
  have hinv1 : (skMem w.heap.size (w.heap.size + 1) [] []).inv [] w1 := HOK.out.same (show (skMem w.heap.size (w.heap.size + 1) [] []).inv [] W from HIB.out) hb1
  clear HSI
  go_wp2_with fail
  refine (newEncoder (skMem w.heap.size (w.heap.size + 1) [] []) w.heap.size ib HOK.out (infoD rate ch bits nsam) (infoD_ok HI.out) [] w1 (by omega) hinv1 hI1 (fun (e1 : ib = w.heap.size + 1) => by omega) (by show 0 + 2000 ≤ 140737488355328; decide)).mono ?_
  rintro e w2 ⟨eb, sb, md, rfl, E2, S2, M2, hg1, hg2, hg3, n1, n2, n3, inv2, k2⟩
  go_wp2_with fail
  refine (enable eb false _ w2 E2 rfl).mono ?_
  rintro e w3 ⟨rfl, rfl⟩
  have hnib : ¬ (skMem w.heap.size (w.heap.size + 1) [] []).own ib := fun (e1 : ib = w.heap.size + 1) => by omega
  have hz3 := k2.below.size
  have F0 : EnSt w.heap.size eb ib ⟨sb, md, 0, 0, 0, 0, false⟩ (skMem w.heap.size (w.heap.size + 1) [] []) (infoD rate ch bits nsam) (BS.info ⟨[] ++ [102, 76, 97, 67], 0, 0⟩ true (infoD rate ch bits nsam)).align.out mdNew w (w2.setCell ⟨eb, 9, none⟩ (.bool false)) := by
    have x1 : sb ≠ eb := Bk.ne S2 E2 (by decide)
    have x2 : md ≠ eb := Bk.ne M2 E2 (by decide)
    have I2 : Bk w2 ib 123 (infoD rate ch bits nsam).cells := k2.bk hI1 hnib (by decide)
    refine ⟨E2.put 9 (.bool false), S2.far x1 _, I2.far (Bk.ne I2 E2 (by decide)) _, M2.far x2 _, mdNew_ok, rfl, ⟨Or.inl ⟨rfl, rfl⟩, by simp, by simp⟩, HOK.out.far inv2 E2 (by decide) n1 9 _, ?_, ⟨n1, n2, hnib, n3⟩, by omega, by show w.heap.size ≤ md; omega⟩
    exact ((HB0.out.trans (hb1.mono (by omega))).trans k2.below).setCell (by show w.heap.size ≤ eb; omega) _
  obtain ⟨w3, hw3⟩ : ∃ w3, w3 = w2.setCell ⟨eb, 9, none⟩ (.bool false) := ⟨_, rfl⟩
  rw [← hw3] at F0
  go_wp2_with fail
  rw [← hw3]
  clear hw3 E2 S2 M2 inv2 k2 n1 n2 n3 hI1 hb1 hinv1 hnib hz3
  obtain ⟨TT, hTT⟩ : ∃ TT, TT = (BS.info ⟨[102, 76, 97, 67], 0, 0⟩ true (infoD rate ch bits nsam)).align.out ++ encB ⟨0, 0, 0, 0, 0, 0, false⟩ frs := ⟨_, rfl⟩
  have HTT := Lib.hid hTT
  clear hTT
  have hlc : frs.length ≤ 9223372036854775807 := by omega
  unfold maxLen at hc
  go_loopg [34] frs.length (fun k v wr => ∃ (j : Nat) (e : EncS) (out : List UInt8) (m : MdS), k + j = frs.length ∧ v = .int .i64 (j : Int) ∧ EnSt w.heap.size eb ib e (skMem w.heap.size (w.heap.size + 1) [] []) (infoD rate ch bits nsam) out m w wr ∧ e.ana = false ∧ Hid (out ++ encB e (frs.drop j) = TT) ∧ out.length ≤ 1000 + j * 17592186044416 ∧ e.nsam ≤ 256 * j ∧ e.cur ≤ 256 * j)
  case atStart =>
    refine ⟨0, ⟨sb, md, 0, 0, 0, 0, false⟩, _, mdNew, by omega, rfl, F0, rfl, Lib.hid ?_, ?_, by simp, by simp⟩
    · rw [HTT.out]
      exact congrArg (_ ++ ·) (encB_cur frs _ _ rfl)
    · have := infoLen4 (infoD rate ch bits nsam) (infoD_ok HI.out).sum ([] ++ [102, 76, 97, 67])
      rw [this]
      simp
  case round =>
    obtain ⟨j, e, out, m, hgk, rfl, F1, hana, HT, hol, hns, hcu⟩ := hrel
    have HGK := Lib.hid hgk
    have hj : j ≤ frs.length := by omega
    clear hgk F0
    by_cases hlt : j < frs.length
    · have Fz := F1.below.size
      have hr := h.below F1.below
      obtain ⟨fb, rfl, hrow⟩ := hr.rd (by omega)
      obtain ⟨f, hf⟩ : ∃ f, frs[j]? = some f := ⟨frs[j], by simp [hlt]⟩
      have hfm := List.mem_of_getElem? hf
      obtain ⟨g1, g2, g3, g4, g5, g6⟩ := hok f hfm
      have hnc : 1 ≤ nch ∧ nch ≤ 8 := by have := HI.out.ch; have := HCH.out; omega
      have hrt : 0 ≤ f.rate ∧ f.rate < 4294967296 := by unfold isRate at g2; omega
      have has : 0 ≤ f.assign ∧ f.assign < 8 := by omega
      have hbt : 0 ≤ bits ∧ bits < 256 := by have := HI.out.bits; omega
      have G2 := Lib.hid g2
      have G3 := Lib.hid g3
      have G6 := Lib.hid g6
      have hfat := hr.fr f hfm
      have x0 := FrsAt.cells hrow hf 0 _ rfl
      have x1 := FrsAt.cells hrow hf 1 _ rfl
      have x2 := FrsAt.cells hrow hf 2 _ rfl
      have x3 := FrsAt.cells hrow hf 3 _ rfl
      have x4 := FrsAt.cells hrow hf 4 _ rfl
      have x5 := FrsAt.cells hrow hf 5 _ rfl
      have x6 := FrsAt.cells hrow hf 6 _ rfl
      rw [g4] at x4
      rw [g5] at x6
      have G4 := Lib.hid g4
      have G5 := Lib.hid g5
      clear g2 g3 g4 g5 g6
      simp only [Nat.add_zero] at x0
      have U0 : SuSt wr.heap.size (wr.heap.size + 1) ⟨!f.varies, f.size, f.rate, f.assign, bits, 0⟩ f (.slice none 0 0) [] 0 wr ((wr.alloc (.cells #[.bool f.varies, .int .i64 f.size, .int .i64 f.rate, .int .i64 f.assign, .int .i64 bits, .int .u64 0, .slice (some ⟨f.sb, 0, none⟩) nch f.scap] 37)).alloc (.cells #[.bool (!f.varies), .int .u16 f.size, .int .u32 f.rate, .int .u8 f.assign, .int .u8 bits, .int .u64 0, .slice none 0 0, .nilIface, .pointer none, .nilIface, .nilIface] 80)) :=
        ⟨Bk.newAt _ 80 _ _ (by simp), World.ownsRow_nil _ _ _ _, rfl, fun q t hq => by simp at hq, by simp, fun t ht => by simp at ht, (((Below.refl _ wr).alloc (Nat.le_refl _) _).alloc (by simp) _), by omega, by simp; omega⟩
      go_wp2_with fail
      obtain ⟨wy, hwy⟩ : ∃ wy, wy = ((wr.alloc (.cells #[.bool f.varies, .int .i64 f.size, .int .i64 f.rate, .int .i64 f.assign, .int .i64 bits, .int .u64 0, .slice (some ⟨f.sb, 0, none⟩) nch f.scap] 37)).alloc (.cells #[.bool (!f.varies), .int .u16 f.size, .int .u32 f.rate, .int .u8 f.assign, .int .u8 bits, .int .u64 0, .slice none 0 0, .nilIface, .pointer none, .nilIface, .nilIface] 80)) := ⟨_, rfl⟩
      rw [← hwy] at U0 ⊢
      clear hwy x0 x1 x2 x3 x4 x5 x6
      obtain ⟨xb, hxb⟩ : ∃ xb, xb = wr.heap.size + 1 := ⟨_, rfl⟩
      rw [← hxb] at U0 ⊢
      have HXB := Lib.hid hxb
      clear hxb
      have hcapf := hfat.cap
      rw [G5.out] at hcapf
      unfold maxLen at hcapf
      obtain ⟨wo, rfl⟩ : ∃ wo, wo = wr := ⟨_, rfl⟩
      go_loopg [59] nch (fun k v wx => ∃ (q : Nat) (S : List SubL) (v6 : Value), k + q = nch ∧ v = .int .i64 (q : Int) ∧ SuSt wo.heap.size xb ⟨!f.varies, f.size, f.rate, f.assign, bits, 0⟩ f v6 S q wo wx)
      case atStart => exact ⟨0, [], _, by omega, rfl, U0⟩
      case round =>
        obtain ⟨q, S, v6, hgk2, rfl, U1⟩ := hrel
        have HGK2 := Lib.hid hgk2
        have hqn : q ≤ nch := by omega
        clear hgk2 U0
        by_cases hltq : q < nch
        · have hfx := hfat.below U1.below
          obtain ⟨s, hs⟩ : ∃ s, f.subs[q]? = some s := ⟨f.subs[q]'(by have := G5.out; omega), by have := G5.out; simp [show q < f.subs.length by omega]⟩
          have hsm := List.mem_of_getElem? hs
          have y0 := SubsAt.cells hfx.row hs 0 _ rfl
          have y1 := SubsAt.cells hfx.row hs 1 _ rfl
          have y2 := SubsAt.cells hfx.row hs 2 _ rfl
          have y3 := SubsAt.cells hfx.row hs 3 _ rfl
          have y4 := SubsAt.cells hfx.row hs 4 _ rfl
          have y5 := SubsAt.cells hfx.row hs 5 _ rfl
          have y6 := SubsAt.cells hfx.row hs 6 _ rfl
          have y7 := SubsAt.cells hfx.row hs 7 _ rfl
          have y8 := SubsAt.cells hfx.row hs 8 _ rfl
          simp only [Nat.add_zero] at y0
          have hsat := hfx.subs s hsm
          go_upto_region 13 with fail
          have U2 := U1.same ((Below.refl _ wr).alloc (Nat.le_refl _) (.cells s.cells.toArray 42))
          have AT2 := hsat.below ((Below.refl _ wr).alloc (Nat.le_refl _) (.cells s.cells.toArray 42)) hsat.smp.lt hsat.prm.lt
          have CP2 := Bk.new wr 42 s.cells.toArray
          obtain ⟨cb, hcb⟩ : ∃ cb, cb = wr.heap.size := ⟨_, rfl⟩
          rw [← hcb] at CP2 ⊢
          obtain ⟨wz, hwz⟩ : ∃ wz, wz = wr.alloc (.cells s.cells.toArray 42) := ⟨_, rfl⟩
          have hwz2 : wz = wr.alloc (.cells #[.int .i64 s.d.kind, .int .i64 s.d.order, .int .i64 0, .slice (some ⟨s.mb, 0, none⟩) s.d.samples.length s.scap, .slice none 0 0, .int .i64 0, .int .i64 0, .int .i64 s.d.part, .slice (some ⟨s.pb, 0, none⟩) s.d.params.length s.pcap] 42) := hwz
          rw [← hwz] at U2 AT2 CP2
          rw [← hwz2]
          clear hwz hwz2 hcb y0 y1 y2 y3 y4 y5 y6 y7 y8 U1 hfx hsat
          have y0 := CP2.cell 0
          have y1 := CP2.cell 1
          have y2 := CP2.cell 2
          have y3 := CP2.cell 3
          have y4 := CP2.cell 4
          have y5 := CP2.cell 5
          have y6 := CP2.cell 6
          have y7 := CP2.cell 7
          have y8 := CP2.cell 8
          simp [SubI.cells] at y0 y1 y2 y3 y4 y5 y6 y7 y8
          have b6 := U2.cell
          have g6 := U2.box.frozen 6
          have blt := U2.box.lt
          have clt := CP2.lt
          obtain ⟨i3, hi3, hz30, hz31, hz32⟩ := info_parts (show (Tryz.prog.info? 81).map (fun i => (i.zero, i.size, i.bytes)) = some (some (.pointer none), 1, 8) by kernel_rfl)
          have hsok := (hok f hfm).sub s hsm
          have HS := Lib.hid (fun (p : Nat) => subP s hsok.1 (wz.drewN p) (AT2.below (Below.drewN' (Below.refl _ wz) p) AT2.smp.lt AT2.prm.lt))
          have HU := Lib.hid U2
          have hwz3 := U2.hB
          unfold SubI.cells at HS
          clear U2 AT2 CP2 hsok
          go_region_law (first
            | (refine step_append_any _ rfl (.tmp 67) (.tmp 70) 73 rfl wo.heap.size 81 i3 (.pointer none) 1 8 Tryz.underlying73 hi3 hz30 hz31 hz32 rfl (by decide) v6 q (S.map fun s => Value.pointer (some ⟨s.sb, 0, none⟩)) (by simp [Act.eval]) (World.ownsRow.alloc (ownsRow_below (w := wz.drewN 1) HU.out.row hb5 (fun k hk => (HU.out.row.lt k hk).2)) _) _ (some ⟨w5.heap.size, 0, none⟩) 1 1 [.pointer (some ⟨sb5, 0, none⟩)] (by simp [Act.eval]) (readsNew1 _ _ _ _ rfl) (fun u hu => by simp at hu; subst hu; rfl) (by unfold maxLen; omega) (by omega) (by have := hb5.size; simp at this; simp; omega) ?_; intro v9 w9 hown9 hg9 hat9; have bx9 := grownBk (World.ownsRow.alloc (ownsRow_below (w := wz.drewN 1) HU.out.row hb5 (fun k hk => (HU.out.row.lt k hk).2)) _) hg9 ((Bk.below (w := wz.drewN 1) HU.out.box hb5 blt).alloc _) (by decide); have b69 : w9.cell? ⟨xb, 6, none⟩ = some v6 := (by rw [bx9.cell]; simp [HdrD.cells]); have g69 := Bk.frozen bx9 6; obtain ⟨g9, p9, rfl, q1, q2, q3, q4, q5⟩ := ownsRow_some hown9 (by omega))
            | (go_simp; go_at_call 16; refine (HS.out 1).mono ?_; rintro e w5 ⟨sb5, rb5, mb5, pb5, cf5, sc5, pc5, rfl, at5, z1, z2, z3, z4, hb5⟩; have b65 := (hb5.cell (p := ⟨xb, 6, none⟩) blt).trans b6; have blt5 : xb < w5.heap.size := Nat.lt_of_lt_of_le blt hb5.size))
          all_goals
            obtain ⟨S9, U9⟩ := suStep HU.out hs hb5 at5 z1 z2 z3 z4 _ hg9 hown9
            clear q1 q2 q3 q4 q5 hown9 hg9 hat9 bx9 b69 g69 b65 blt5 at5 z1 z2 z3 z4 hb5 b6 g6 blt clt HS HU y0 y1 y2 y3 y4 y5 y6 y7 y8
            go_wp2_with fail
            go_roundg (nch - (q + 1))
            case measure => have := HGK2.out; omega
            case rel => exact ⟨q + 1, S9, .slice (some ⟨g9, 0, none⟩) (q + 1) p9, by omega, by simp, U9⟩
        · have hq2 : q = nch := by omega
          subst hq2
          obtain ⟨lb, lcap, rfl, lb1, lb2, lb3, lb4, lrow⟩ := ownsRow_some U1.row (by omega)
          have F2 := F1.same HOK.out U1.below Fz
          have hbz : w.heap.size + 1 < wo.heap.size := HOK.out.lt out wo (w.heap.size + 1) F1.inv rfl
          have hz5 := F2.below.size
          have hz6 := HWZ.out
          have hdS : ∀ t ∈ S, t.d.ok ∧ t.d.samples.length = f.size := fun t ht => by
            have e1 : t.d ∈ S.map (·.d) := List.mem_map.2 ⟨t, ht, rfl⟩
            rw [U1.ds] at e1
            obtain ⟨s, hs, e2⟩ := List.mem_map.1 e1
            rw [← e2]
            exact (hok f hfm).sub s (List.mem_of_mem_take hs)
          have hSl := U1.len
          have hP : WPre (skMem w.heap.size (w.heap.size + 1) [] []) w.heap.size out e eb ib (infoD rate ch bits nsam) (.slice none 0 0) ⟨!f.varies, f.size, f.rate, f.assign, bits, 0⟩ S xb lb lcap [.nilIface, .pointer none, .nilIface, .nilIface] f.size m wr := by
            refine ⟨⟨F2.enc, F2.str, F2.info, F2.md, ⟨by rw [hSl]; exact U1.box, lrow, U1.subs, by rw [hSl]; exact ⟨lb3, lb4⟩⟩, F2.inv, hn.below hw F2.below⟩, F2.mok, F2.mfit, F2.eok, fun a t ha => hdS t (List.mem_of_getElem? ha), ⟨by rw [hSl]; exact G3.out.symm, by rw [hSl]; exact HCH.out⟩, has, rfl, g1, G2.out, hbt5, (fun h => by rw [hana] at h; cases h), ?_, by omega, ⟨F2.own.1, F2.own.2.1, F2.own.2.2.1, F2.own.2.2.2, ?_, ?_, ?_⟩, F2.low.1, F2.low.2, ?_⟩
            · show out.length + 17592186044416 ≤ 140737488355328
              omega
            · show ¬ xb = w.heap.size + 1
              have := U1.xb
              omega
            · show ¬ lb = w.heap.size + 1
              omega
            · intro t ht
              obtain ⟨n1, n2, n3, n4⟩ := U1.new t ht
              refine ⟨?_, ?_, ?_, ?_⟩
              · show ¬ t.sb = w.heap.size + 1
                omega
              · show ¬ t.rb = w.heap.size + 1
                omega
              · show ¬ t.mb = w.heap.size + 1
                omega
              · show ¬ t.pb = w.heap.size + 1
                omega
            · have := U1.xb
              omega
          have HP := Lib.hid hP
          have HF2 := Lib.hid F2
          have HU1 := Lib.hid U1
          clear hP F2 U1 F1
          go_wp2_with fail
          refine (writeFrame (skMem w.heap.size (w.heap.size + 1) [] []) w.heap.size HOK.out hw out e eb ib (infoD rate ch bits nsam) (.slice none 0 0) (!f.varies) f.rate f.assign bits 0 S xb lb lcap [.nilIface, .pointer none, .nilIface, .nilIface] f.size m wr (Or.inr rfl) HP.out).mono ?_
          rintro x w8 ⟨rfl, W8⟩
          go_wp2_with fail
          obtain ⟨winv, wenc, ⟨m', mo, mf, mb⟩, wk⟩ := W8
          have F2 := HF2.out
          have U1 := HU1.out
          have F9 : EnSt w.heap.size eb ib (e.next (!f.varies) f.size) (skMem w.heap.size (w.heap.size + 1) [] []) (infoD rate ch bits nsam) (out ++ frBytes ⟨!f.varies, f.size, f.rate, f.assign, bits, e.cur⟩ (S.map (·.d))) m' w w8 := by
            refine ⟨wenc, wk.bk F2.str (fun h => ?_) (by decide), wk.bk F2.info (fun h => ?_) (by decide), mb, mo, mf, EncS.next_ok F2.eok _ _ g1 (by omega) (by omega), winv, F2.below.trans wk.below, F2.own, F2.low⟩
            · rcases h with h | h | h | h
              · exact F2.own.2.1 h
              · exact Bk.ne F2.str F2.enc (by decide) h
              · exact Bk.ne F2.str F2.md (by decide) h
              · exact Bk.ne F2.str U1.box (by decide) h
            · rcases h with h | h | h | h
              · exact F2.own.2.2.1 h
              · exact Bk.ne F2.info F2.enc (by decide) h
              · exact Bk.ne F2.info F2.md (by decide) h
              · exact Bk.ne F2.info U1.box (by decide) h
          go_roundg (frs.length - (j + 1))
          case measure => have := HGK.out; omega
          case rel =>
            refine ⟨j + 1, _, _, m', by omega, by simp, F9, hana, Lib.hid ?_, ?_, ?_, ?_⟩
            · have hd : frs.drop j = f :: frs.drop (j + 1) := by
                rw [List.drop_eq_getElem_cons (by omega)]
                congr 1
                have := hf
                simp [show j < frs.length by omega] at this
                exact this
              have e0 := HT.out
              rw [hd] at e0
              have e1 : S.map (·.d) = f.subs.map (·.d) := by
                rw [U1.ds, List.take_of_length_le (Nat.le_of_eq G5.out)]
              rw [e1, List.append_assoc, ← e0]
              show _ = out ++ (frBytes (f.hdr e.cur) (f.subs.map (·.d)) ++ encB (e.next (!f.varies) f.size) (frs.drop (j + 1)))
              unfold FrI.hdr
              rw [G4.out]
            · have hbl := frBody_len ⟨!f.varies, f.size, f.rate, f.assign, bits, e.cur⟩ (S.map (·.d)) (fun d hd => by
                obtain ⟨t, ht, e2⟩ := List.mem_map.1 hd
                rw [← e2]
                exact (hdS t ht).1) (by show bits.toNat ≤ 32; have := HI.out.bits; omega)
              rw [List.length_append]
              unfold frBytes
              rw [List.length_append, List.length_map] at *
              have e3 : (be16 (crc16 0 (frBody ⟨!f.varies, f.size, f.rate, f.assign, bits, e.cur⟩ (S.map (·.d))))).length = 2 := rfl
              rw [e3]
              have := U1.len
              have hm8 : S.length * 1099511638000 ≤ 8 * 1099511638000 := Nat.mul_le_mul_right _ (by omega)
              omega
            · show e.nsam + (f.size : Int) ≤ _
              omega
            · show (if (!f.varies) = true then e.cur + 1 else e.cur + (f.size : Int)) ≤ _
              split <;> omega
    · have hje : j = frs.length := by omega
      have hout : out = TT := by
        have e0 := HT.out
        rw [hje, List.drop_length] at e0
        simpa [encB] using e0
      have F1z := F1.below.size
      obtain ⟨i0, hi0, hz0, hz1, hz2'⟩ := info_parts (show (Tryz.prog.info? 5).map (fun i => (i.zero, i.size, i.bytes)) = some (some (.int .u8 0), 1, 1) by kernel_rfl)
      go_wp2_with fail
      have HTO := Lib.hid hout
      have hmm := F1.eok.mm
      have hns2 := F1.eok.nsam
      have hl42 : 42 ≤ out.length := by
        rw [HTO.out, HTT.out, List.length_append, infoLen4 _ (infoD_ok HI.out).sum]
        simp
      refine (closeMem w.heap.size eb ib (w.heap.size + 1) e (infoD rate ch bits nsam) m out 0 (skMem w.heap.size (w.heap.size + 1) [] []) rfl rfl (infoD_ok HI.out) F1.mok F1.mfit wr F1.enc F1.str F1.info F1.md F1.inv ⟨hl42, by omega⟩ F1z (by omega) (by omega) ⟨by omega, by omega, by omega⟩).mono ?_
      rintro x w8 ⟨rfl, hb8, out8, hl8, hd8, v8, p8, B8, O8⟩
      obtain ⟨A9, c9, hv9⟩ : ∃ A c, v8 = .slice A out8.length c := by
        rcases O8.2 with ⟨h1, h2⟩ | ⟨g, cp, cur, h1, _⟩
        · exact ⟨none, 0, by rw [h1, h2]⟩
        · exact ⟨_, cp, h1⟩
      subst hv9
      have hz8 : w.heap.size ≤ w8.heap.size := Nat.le_trans F1z (by have := hb8.size; omega)
      have HOW := Lib.hid (rowLit00 w8 5 w.heap.size hz8 w8.heap.size rfl)
      have HRD := Lib.hid (Reads.of_own (World.ownsRow.alloc O8 (.cells #[] 5)))
      have HBE := Lib.hid ((F1.below.trans hb8).alloc hz8 (.cells #[] 5))
      have m0 := B8.cell 0
      simp at m0
      have ml := B8.lt
      have hol2 : out8.length ≤ 60000000000000 := by omega
      have hz9 : w.heap.size ≤ (w8.alloc (.cells #[] 5)).heap.size := by simp; omega
      have H8 := Lib.hid (And.intro hl8 hd8)
      clear O8 hb8 F1 HT hout hmm hl8 hd8
      go_wp2_with (first
        | (at_builtin; refine wpList_append_any _ rfl (.tmp 89) (.tmp 93) 23 rfl w.heap.size 5 i0 (.int .u8 0) 1 1 Tryz.underlying23 hi0 hz0 hz1 hz2' rfl (by decide) (.slice (some ⟨w8.heap.size, 0, none⟩) 0 0) 0 [] rfl HOW.out _ A9 out8.length c9 (bytesV out8) rfl HRD.out (bytesV_one _) (by unfold maxLen; omega) (by omega) hz9 ?_; intro v1 x1 hown1 hg1 hat1)
        | (go_at_call 20; refine (codeP _).mono ?_; rintro x wx ⟨rfl, rfl⟩))
      go_ret2
      refine ⟨v1, out8, rfl, ⟨?_, ?_⟩, by simpa using hown1, ?_⟩
      · rw [H8.out.1, HTO.out, HTT.out]
      · rw [H8.out.2, HTO.out, HTT.out]
      · exact HBE.out.grown hg1 hz9 (fun k hk => (HOW.out.lt k hk).1)
end Go.Proofs.YtlabcknoooaefaaGreatDoor

/-
  THE LAWS: what their ends compare.
-/
namespace Go.Proofs.YtlabcknoooaefaaGreatDoor
open Go.RowKit
set_option linter.unusedVariables false

/-- 's[:k]' of a slice. -/
theorem sliceHigh23 (g n c k : Nat) (hk : k ≤ c) (hm : c ≤ 9223372036854775807) (W : World) : (Instr.sliceAt 23 (.slice (some ⟨g, 0, none⟩) n c) none (some (.int .i64 (k : Int))) none).run Tryz.prog W = .ok (.slice (some ⟨g, 0, none⟩) k c) W := by
  have h1 : (k : Int) ≤ (c : Int) := by omega
  go_simp

theorem sliceHigh29 (g n c k : Nat) (hk : k ≤ c) (hm : c ≤ 9223372036854775807) (W : World) : (Instr.sliceAt 29 (.slice (some ⟨g, 0, none⟩) n c) none (some (.int .i64 (k : Int))) none).run Tryz.prog W = .ok (.slice (some ⟨g, 0, none⟩) k c) W := by
  have h1 : (k : Int) ≤ (c : Int) := by omega
  go_simp

/-- Bytes of the call's own, as a string. -/
theorem strOwn {w : World} {base g n cap : Nat} {l : List UInt8} (h : w.ownsRow base 5 1 (.slice (some ⟨g, 0, none⟩) n cap) n (bytesV l)) (k m c : Nat) (hk : k + m ≤ l.length) (W : World) (hW : ∀ p, W.cell? p = w.cell? p) :
    (convert 23 9 (.slice (some ⟨g, k, none⟩) m c)).run Tryz.prog W = .ok (.string ⟨((l.drop k).take m).toArray⟩) W := by
  have hl : ((l.drop k).take m).length = m := by simp; omega
  have := run_convert_bytes_back (P := Tryz.prog) W 23 9 5 ⟨g, k, none⟩ c ((l.drop k).take m) Tryz.underlying23 Tryz.underlying5 Tryz.underlying9 (fun j hj => by
    rw [hW]
    have hj2 : j < m := by omega
    have hb : (bytesV l)[k + j]? = some (.int .u8 (l[k + j]'(by omega)).toNat) := by
      unfold bytesV
      simp [show k + j < l.length by omega]
    have hc := ownsRow_cell1 h rfl (k + j) _ hb
    have e : (⟨g, k, none⟩ : Addr).add j = ⟨g, k + j, none⟩ := by simp [Addr.add]
    rw [e, hc]
    simp)
  rw [hl] at this
  exact this

theorem encB_prefix (q : Nat) (l : List FrI) : ∀ e, encB e (l.take q) <+: encB e l := by
  induction l generalizing q with
  | nil => intro e; simp [encB]
  | cons f l ih =>
    intro e
    rcases q with _ | q
    · exact List.nil_prefix
    · rw [List.take_succ_cons]
      exact (List.prefix_append_right_inj _).2 (ih q _)
set_option maxRecDepth 100000 in
theorem sliceAny29 {w : World} {base n c : Nat} {A : Option Addr} {xs : List Value} (h : w.ownsRow base 37 7 (.slice A n c) n xs) (k : Nat) (hk : k ≤ n) (hc : n ≤ c) (hm : c ≤ 9223372036854775807) (W : World) : (Instr.sliceAt 29 (.slice A n c) none (some (.int .i64 (k : Int))) none).run Tryz.prog W = .ok (.slice A k c) W := by
  rcases h.2 with ⟨h1, h2⟩ | ⟨g, cap, cur, h1, _⟩
  · injection h1 with e1 e2 e3
    subst e1 e2 e3
    obtain rfl : k = 0 := by omega
    go_simp
  · injection h1 with e1 e2 e3
    subst e1
    exact sliceHigh29 g n c k (by omega) hm W

theorem FrsAt.take {A : Option Addr} {frs : List FrI} {w : World} (h : FrsAt A frs w) (q : Nat) : FrsAt A (frs.take q) w := by
  refine ⟨fun hn => ?_, fun f hf => h.fr f (List.mem_of_mem_take hf)⟩
  have hn2 : 0 < frs.length := by
    rw [List.length_take] at hn
    omega
  obtain ⟨fb, e, cur, hb, hv⟩ := h.rd hn2
  refine ⟨fb, e, cur, hb, fun j v hj => hv j v ?_⟩
  have hl := (List.getElem?_eq_some_iff.1 hj).1
  have e2 : frs.flatMap FrI.cells = (frs.take q).flatMap FrI.cells ++ (frs.drop q).flatMap FrI.cells := by
    rw [← List.flatMap_append, List.take_append_drop]
  rw [e2, List.getElem?_append_left hl]
  exact hj

/-- The header's length. -/
theorem headLen (rate ch bits nsam : Int) : (BS.info ⟨[102, 76, 97, 67], 0, 0⟩ true (infoD rate ch bits nsam)).align.out.length = 42 :=
  infoLen4 (infoD rate ch bits nsam) (by simp [infoD]) [102, 76, 97, 67]
/-- Bytes from the forty-third on, as a string. -/
theorem strDrop {w : World} {base g n c : Nat} {l : List UInt8} (h : w.ownsRow base 5 1 (.slice (some ⟨g, 0, none⟩) n c) n (bytesV l)) (hl : l.length = n) (h42 : 42 ≤ n) (hc : n ≤ c) (hm : c ≤ 9223372036854775807) :
    ∃ A : Option Addr, (∀ W : World, (Instr.sliceAt 23 (.slice (some ⟨g, 0, none⟩) n c) (some (.int .i64 42)) none none).run Tryz.prog W = .ok (.slice A (n - 42) (c - 42)) W) ∧ ∀ W : World, (∀ p, W.cell? p = w.cell? p) → (convert 23 9 (.slice A (n - 42) (c - 42))).run Tryz.prog W = .ok (.string ⟨(l.drop 42).toArray⟩) W := by
  refine ⟨if c = 42 then some ⟨g, 0, none⟩ else (some ⟨g, 0, none⟩ : Option Addr).map (·.add (42 * 1)), fun W => sliceLow (some ⟨g, 0, none⟩) n c 42 h42 hc hm W, fun W hW => ?_⟩
  have e : (l.drop 42).take (n - 42) = l.drop 42 := List.take_of_length_le (by simp; omega)
  by_cases h0 : c = 42
  · have hn : n = 42 := by omega
    rw [if_pos h0]
    have := strOwn h 0 (n - 42) (c - 42) (by omega) W hW
    rw [this]
    have e2 : l.drop 42 = [] := List.drop_eq_nil_of_le (by omega)
    rw [e2, hn]
    rfl
  · rw [if_neg h0]
    have := strOwn h 42 (n - 42) (c - 42) (by omega) W hW
    rw [e] at this
    exact this
end Go.Proofs.YtlabcknoooaefaaGreatDoor
