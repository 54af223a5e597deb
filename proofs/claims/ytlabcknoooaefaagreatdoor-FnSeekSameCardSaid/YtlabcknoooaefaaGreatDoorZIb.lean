/-
  THE THIN PACKAGE: a subframe, made.
-/
import Derived.Test.YtlabcknoooaefaaGreatDoorZIj
import Derived.Deep.RegionLaw
import Derived.Deep.DeepCutAuto
namespace Go.Proofs.YtlabcknoooaefaaGreatDoor
open Go.RowKit
set_option linter.unusedVariables false

set_option maxRecDepth 100000 in
set_option maxHeartbeats 60000000 in
theorem subP (s : SubI) (hd : s.d.ok) (w : World) (h : s.at w) :
    Calls Tryz.prog 16 #[.agg s.cells.toArray] w fun e w' => ∃ (sb rb mb pb : Nat) (cf : Value) (scap pcap : Nat), e = .returned (.pointer (some ⟨sb, 0, none⟩)) ∧ SubAt s.d sb rb mb pb 1 cf scap pcap w' ∧ w.heap.size ≤ sb ∧ w.heap.size ≤ rb ∧ w.heap.size ≤ mb ∧ w.heap.size ≤ pb ∧ Below w.heap.size w w' := by
  obtain ⟨i0, hi, hz0, hz1, hz2⟩ := info_parts (show (Tryz.prog.info? 21).map (fun i => (i.zero, i.size, i.bytes)) = some (some (.int .i32 0), 1, 4) by kernel_rfl)
  obtain ⟨⟨kind, order, part, params, samples⟩, mb, scap, pb, pcap⟩ := s
  obtain ⟨h1, h2, h3, h4⟩ := h
  have hlen := hd.len
  have hord := hd.order
  have hpart := hd.part
  have hknd := hd.kind
  have hnp := hd.np
  have hpar := hd.par
  simp only at h1 h2 h3 h4 hlen hord hpart hknd hnp hpar
  have HNP := Lib.hid hnp
  clear hnp
  unfold maxLen at h3 h4
  have R1 := Reads.row ((h1.alloc (.cells #[.int .i64 kind, .int .i64 order, .int .i64 0, .slice (some ⟨mb, 0, none⟩) samples.length scap, .slice none 0 0, .int .i64 0, .int .i64 0, .int .i64 part, .slice (some ⟨pb, 0, none⟩) params.length pcap] 42)).alloc (.cells #[] 21))
  rw [i32V_len] at R1
  have O1 : ((w.alloc (.cells #[.int .i64 kind, .int .i64 order, .int .i64 0, .slice (some ⟨mb, 0, none⟩) samples.length scap, .slice none 0 0, .int .i64 0, .int .i64 0, .int .i64 part, .slice (some ⟨pb, 0, none⟩) params.length pcap] 42)).alloc (.cells #[] 21)).ownsRow w.heap.size 21 1 (.slice (some ⟨w.heap.size + 1, 0, none⟩) 0 0) 0 [] := by
    simpa using rowLit0 (w.alloc (.cells #[.int .i64 kind, .int .i64 order, .int .i64 0, .slice (some ⟨mb, 0, none⟩) samples.length scap, .slice none 0 0, .int .i64 0, .int .i64 0, .int .i64 part, .slice (some ⟨pb, 0, none⟩) params.length pcap] 42)) 21 w.heap.size (by simp) (w.heap.size + 1) (by simp)
  have BX := Lib.hid ((Bk.new w 42 #[.int .i64 kind, .int .i64 order, .int .i64 0, .slice (some ⟨mb, 0, none⟩) samples.length scap, .slice none 0 0, .int .i64 0, .int .i64 0, .int .i64 part, .slice (some ⟨pb, 0, none⟩) params.length pcap]).alloc (.cells #[] 21))
  have HR := Lib.hid R1
  have HO := Lib.hid O1
  clear R1 O1
  simp only [SubI.cells]
  go_enter Tryz.func16, Tryz.ntmps16
  go_upto_region 1 with fail
  go_cut [3] from 6 (fun v wc => ∃ sbk g1 c1 : Nat, v = .pointer (some ⟨sbk, 0, none⟩) ∧ S1 kind order part mb samples.length scap pb params.length pcap samples 0 0 0 (.slice none 0 0) (.pointer none) g1 c1 sbk w wc)
  case first =>
    go_region_law (refine step_append_any _ rfl (.tmp 6) (.tmp 8) 39 rfl w.heap.size 21 i0 (.int .i32 0) 1 4 Tryz.underlying39 hi hz0 hz1 hz2 rfl (by decide) (.slice (some ⟨w.heap.size + 1, 0, none⟩) 0 0) 0 [] rfl HO.out _ (some ⟨mb, 0, none⟩) samples.length scap (i32V samples) rfl HR.out (i32V_one _) (by unfold maxLen; omega) (by omega) (by simp; omega) ?_; intro v1 w1 hown1 hg1 hat1; obtain ⟨g1, c1, rfl, hg1b, hg1l, hg1c, hg1m, hg1r⟩ := ownsRow_some hown1 (by omega); have bx1 := (hg1.block w.heap.size (by simp; omega) (by simp [Value.ownBlock])).trans BX.out; have q3 := Bk.cell bx1 3; simp at q3)
    all_goals
      have hz1 : w.heap.size + 2 ≤ w1.heap.size := by have := hg1.size; simp at this; omega
      have hbw : Below w.heap.size w w1 := (((Below.refl _ w).alloc (Nat.le_refl _) (.cells #[.int .i64 kind, .int .i64 order, .int .i64 0, .slice (some ⟨mb, 0, none⟩) samples.length scap, .slice none 0 0, .int .i64 0, .int .i64 0, .int .i64 part, .slice (some ⟨pb, 0, none⟩) params.length pcap] 42)).alloc (by simp) (.cells #[] 21)).drew.grown hg1 (by simp; omega) (fun k hk => by
        have hk' : some (w.heap.size + 1) = some k := hk
        injection hk' with hk'
        omega)
      go_wp2_with fail
      go_meet
      exact ⟨_, g1, c1, rfl, Bk.newAt _ 130 _ _ rfl, Row.alloc hg1r _, Bk.alloc bx1 _, hbw.alloc (by omega) _, by omega, by omega, by omega, hg1m⟩
  case rest =>
  obtain ⟨sbk, g1, c1, rfl, Q⟩ := hcut
  clear HO HR BX
  obtain ⟨bb, hbb⟩ : ∃ bb, bb = w.heap.size := ⟨_, rfl⟩
  have HBB := Lib.hid hbb
  obtain ⟨b0, b1, b2, b4, b5, b6, b7, b8⟩ := Q.cells
  rw [← hbb] at b0 b1 b2 b4 b5 b6 b7 b8 ⊢
  clear hbb
  obtain ⟨s0, s1, s2, s3, s4, s5, s6, s7⟩ := Q.subs
  have z := Q.free
  have z0 := z 0
  have z1 := z 1
  have z2 := z 2
  have z3 := z 3
  have z4 := z 4
  have z5 := z 5
  have z6 := z 6
  have z7 := z 7
  clear z
  go_wp2_with (go_at_call 33; refine (precP _).mono ?_; rintro e w' ⟨rfl, rfl⟩; refine Hid.out ?_)
  refine Lib.hid ?_
  go_upto_region 8 with fail
  have Q2 := (((((Q.put 0 (.int .u8 kind) (sk' := kind) (so' := 0) (pc' := 0) (cf' := .slice none 0 0) (rp' := .pointer none) rfl).put 1 (.int .i64 order) (sk' := kind) (so' := order) (pc' := 0) (cf' := .slice none 0 0) (rp' := .pointer none) rfl).put 2 (.int .u64 0) (sk' := kind) (so' := order) (pc' := 0) (cf' := .slice none 0 0) (rp' := .pointer none) rfl).put 3 (.int .u8 0) (sk' := kind) (so' := order) (pc' := 0) (cf' := .slice none 0 0) (rp' := .pointer none) rfl).put 4 (.int .u64 1) (sk' := kind) (so' := order) (pc' := 1) (cf' := .slice none 0 0) (rp' := .pointer none) rfl).put 5 (.int .i32 0) (sk' := kind) (so' := order) (pc' := 1) (cf' := .slice none 0 0) (rp' := .pointer none) rfl
  generalize (((((wc.setCell ⟨sbk, 0, none⟩ (.int .u8 kind)).setCell ⟨sbk, 1, none⟩ (.int .i64 order)).setCell ⟨sbk, 2, none⟩ (.int .u64 0)).setCell ⟨sbk, 3, none⟩ (.int .u8 0)).setCell ⟨sbk, 4, none⟩ (.int .u64 1)).setCell ⟨sbk, 5, none⟩ (.int .i32 0) = w2 at *
  clear Q b0 b1 b2 b4 b5 b6 b7 b8 s0 s1 s2 s3 s4 s5 s6 s7 z0 z1 z2 z3 z4 z5 z6 z7
  obtain ⟨b0, b1, b2, b4, b5, b6, b7, b8⟩ := Q2.cells
  have blt := Q2.box.lt
  have slt := Q2.sub.lt
  rw [← HBB.out] at b0 b1 b2 b4 b5 b6 b7 b8 blt
  obtain ⟨s0, s1, s2, s3, s4, s5, s6, s7⟩ := Q2.subs
  have z6 := Q2.free 6
  have z7 := Q2.free 7
  go_wp2_with fail
  have Q3 := ((Q2.put 6 (.slice (some ⟨w2.heap.size, 0, none⟩) 0 0) (sk' := kind) (so' := order) (pc' := 1) (cf' := .slice (some ⟨w2.heap.size, 0, none⟩) 0 0) (rp' := .pointer none) rfl).put 7 (.pointer (some ⟨w2.heap.size + 1, 0, none⟩)) (sk' := kind) (so' := order) (pc' := 1) (cf' := .slice (some ⟨w2.heap.size, 0, none⟩) 0 0) (rp' := .pointer (some ⟨w2.heap.size + 1, 0, none⟩)) rfl).same (((Below.refl _ _).alloc (Nat.le_refl _) (.cells #[] 21)).alloc (by simp) (.cells #[.int .i64 part, .slice none 0 0] 134))
  have hz2 : w.heap.size < w2.heap.size := Nat.lt_trans Q2.sb Q2.sub.lt
  have RB : Bk ((((w2.setCell ⟨sbk, 6, none⟩ (.slice (some ⟨w2.heap.size, 0, none⟩) 0 0)).setCell ⟨sbk, 7, none⟩ (.pointer (some ⟨w2.heap.size + 1, 0, none⟩))).alloc (.cells #[] 21)).alloc (.cells #[.int .i64 part, .slice none 0 0] 134)) (w2.heap.size + 1) 134 #[.int .i64 part, .slice none 0 0] := Bk.newAt _ 134 _ _ (by simp [World.setCell])
  have PR : Row ((((w2.setCell ⟨sbk, 6, none⟩ (.slice (some ⟨w2.heap.size, 0, none⟩) 0 0)).setCell ⟨sbk, 7, none⟩ (.pointer (some ⟨w2.heap.size + 1, 0, none⟩))).alloc (.cells #[] 21)).alloc (.cells #[.int .i64 part, .slice none 0 0] 134)) pb 3 (intV params) := Q3.prm h2
  have q2lt := Q2.sub.lt
  obtain ⟨w3, hw3⟩ : ∃ w3, w3 = ((((w2.setCell ⟨sbk, 6, none⟩ (.slice (some ⟨w2.heap.size, 0, none⟩) 0 0)).setCell ⟨sbk, 7, none⟩ (.pointer (some ⟨w2.heap.size + 1, 0, none⟩))).alloc (.cells #[] 21)).alloc (.cells #[.int .i64 part, .slice none 0 0] 134)) := ⟨_, rfl⟩
  rw [← hw3] at Q3 RB PR ⊢
  clear hw3 Q2 b0 b1 b2 b4 b5 b6 b7 b8 s0 s1 s2 s3 s4 s5 s6 s7 z6 z7 blt slt
  obtain ⟨cf, hcf⟩ : ∃ cf, cf = Value.slice (some ⟨w2.heap.size, 0, none⟩) 0 0 := ⟨_, rfl⟩
  rw [← hcf] at Q3
  obtain ⟨rb, hrb⟩ : ∃ rb, rb = w2.heap.size + 1 := ⟨_, rfl⟩
  rw [← hrb] at Q3 RB ⊢
  have hrb0 : w.heap.size ≤ rb := by omega
  have HCF := Lib.hid hcf
  clear hrb hcf
  have hpl : params.length ≤ 4 := by
    rw [HNP.out]
    have h3 : part = 0 ∨ part = 1 ∨ part = 2 := by omega
    rcases h3 with e | e | e <;> rw [e] <;> decide
  have hpl0 : 0 < params.length := by rw [HNP.out]; exact Nat.two_pow_pos _
  have HPAR := Lib.hid hpar
  clear hpar
  obtain ⟨i2, hi2, hy0, hy1, hy2⟩ := info_parts (show (Tryz.prog.info? 136).map (fun i => (i.zero, i.size, i.bytes)) = some (some (.agg #[.int .u64 0, .int .u64 0]), 2, 16) by kernel_rfl)
  go_loopg [76] params.length (fun k i wr => ∃ (j : Nat) (v : Value), k + j = params.length ∧ i = .int .i64 (j : Int) ∧ S1 kind order part mb samples.length scap pb params.length pcap samples kind order 1 cf (.pointer (some ⟨rb, 0, none⟩)) g1 c1 sbk w wr ∧ Bk wr rb 134 #[.int .i64 part, v] ∧ wr.ownsRow w.heap.size 136 2 v j (partV (params.take j)) ∧ Row wr pb 3 (intV params))
  case atStart => exact ⟨0, .slice none 0 0, by omega, rfl, Q3, RB, World.ownsRow_nil _ _ _ _, PR⟩
  case round =>
    obtain ⟨j, v, hgk, rfl, Q4, RB4, O4, P4⟩ := hrel
    have HGK := Lib.hid hgk
    have hj : j ≤ params.length := by omega
    clear hgk Q3 RB PR
    by_cases hlt : j < params.length
    · have ck := P4.cell j _ (intV_get hlt)
      have hpj := HPAR.out (params.getD j 0) (by
        have : params.getD j 0 = params[j] := by simp [hlt]
        rw [this]
        exact List.getElem_mem hlt)
      have htk : params.take (j + 1) = params.take j ++ [params.getD j 0] := by
        rw [List.take_add_one]
        simp [hlt]
      have HTK := Lib.hid htk
      clear htk
      generalize params.getD j 0 = p at *
      obtain ⟨s0, s1, s2, s3, s4, s5, s6, s7⟩ := Q4.subs
      have r1 := RB4.cell 1
      simp at r1
      have rf := RB4.frozen 1
      have slt := Q4.sub.lt
      have rlt := RB4.lt
      clear s0 s1 s2 s3 s4 s5 s6
      have HQ := Lib.hid Q4
      have HR4 := Lib.hid RB4
      have HO4 := Lib.hid O4
      have HP4 := Lib.hid P4
      have hwz := Q4.below.size
      clear Q4 RB4 O4 P4
      go_upto_region 13 with fail
      have hp0 : (0 : Int) < p := by omega
      have hpw : IntKind.u64.wrap p = p := by rw [IntKind.wrap_u64]; omega
      have e63 : j + 1 ≤ maxLen := by unfold maxLen; omega
      have e47 : (j + 1) * 16 ≤ 140737488355328 := by omega
      have ebs : w.heap.size ≤ (wr.alloc (.cells #[.int .u64 p, .int .u64 0] 136)).heap.size := by simp; omega
      have hone : ∀ u ∈ [Value.int .u64 p, Value.int .u64 0], u.oneCell' = true := fun u hu => by simp at hu; rcases hu with rfl | rfl <;> rfl
      have E63 := Lib.hid e63
      have E47 := Lib.hid e47
      have EBS := Lib.hid ebs
      have HONE := Lib.hid hone
      have OWN := Lib.hid (World.ownsRow.alloc HO4.out (.cells #[.int .u64 p, .int .u64 0] 136))
      have RDS := Lib.hid (readsTwo wr (.int .u64 p) (.int .u64 0) 136 wr.heap.size rfl)
      clear e63 e47 ebs hone
      clear hd hlen hord hpart hknd h2 h1 h3 h4 hpl0 HPAR HCF HNP HBB hi hz0 hz1 hz2
      go_region_law (refine step_append_any _ rfl (.tmp 92) (.tmp 97) 132 rfl w.heap.size 136 i2 (.agg #[.int .u64 0, .int .u64 0]) 2 16 Tryz.underlying132 hi2 hy0 hy1 hy2 rfl (by decide) v j (partV (params.take j)) (by simp [Act.eval, Act.put]) OWN.out (wr.heap.size + 1) (some ⟨wr.heap.size, 0, none⟩) 1 1 [.int .u64 p, .int .u64 0] (by simp [Act.eval, Act.put]) RDS.out HONE.out E63.out E47.out EBS.out ?_; intro v1 w1 hown1 hg1 hat1; have hg1 : ((wr.alloc (.cells #[.int .u64 p, .int .u64 0] 136)).drew).grownBy w1 v.ownBlock := hg1; have rb1 := (hg1.block rb (by simp; omega) (fun e => ownsRow_ne HO4.out HR4.out (by decide) e.symm)).trans (Bk.alloc HR4.out (.cells #[.int .u64 p, .int .u64 0] 136)); have sb1 := (hg1.block sbk (by simp; omega) (fun e => ownsRow_ne HO4.out HQ.out.sub (by decide) e.symm)).trans (Bk.alloc HQ.out.sub (.cells #[.int .u64 p, .int .u64 0] 136)); have r1 := Bk.cell rb1 1; simp at r1; have rf := Bk.frozen rb1 1; have s7 := Bk.cell sb1 7; simp at s7; obtain ⟨g9, p9, rfl, hg9b, hg9l, hg9c, hg9m, hg9r⟩ := ownsRow_some hown1 (by omega))
      all_goals
        obtain ⟨Q5, RB5, K5⟩ := HQ.out.step HR4.out HO4.out (.cells #[.int .u64 p, .int .u64 0] 136) hg1 hrb0 (.slice (some ⟨g9, 0, none⟩) (j + 1) p9)
        have P5 := K5 pb _ HP4.out
        have O5 := ownsRow_setCell_other hown1 (a := ⟨rb, 1, none⟩) (ownsRow_ne hown1 rb1 (by decide)) (.slice (some ⟨g9, 0, none⟩) (j + 1) p9)
        rw [show partV (params.take j) ++ [Value.int .u64 p, Value.int .u64 0] = partV (params.take (j + 1)) by rw [HTK.out]; simp [partV]] at O5
        have H5 := Lib.hid (And.intro Q5 (And.intro RB5 (And.intro O5 P5)))
        clear Q5 RB5 K5 P5 O5 rb1 sb1 r1 rf s7 hown1 hg1 hg9r
        clear HQ HR4 HO4 HP4 OWN RDS
        go_wp2_with fail
        go_roundg (params.length - (j + 1))
        case measure => have := HGK.out; omega
        case rel => exact ⟨j + 1, .slice (some ⟨g9, 0, none⟩) (j + 1) p9, by omega, by simp, H5.out.1, H5.out.2.1, H5.out.2.2.1, H5.out.2.2.2⟩
    · go_wp2_with fail
      go_ret
      have hje : j = params.length := by omega
      subst hje
      obtain ⟨g9, p9, rfl, hg9b, hg9l, hg9c, hg9m, hg9r⟩ := ownsRow_some O4 hpl0
      rw [List.take_length] at hg9r
      exact ⟨sbk, rb, g1, g9, cf, c1, p9, rfl, ⟨Q4.sub, RB4, Q4.smp, hg9r, Q4.c1, ⟨hg9c, hg9m⟩⟩, Nat.le_of_lt Q4.sb, hrb0, Q4.mb, hg9b, Q4.below⟩
end Go.Proofs.YtlabcknoooaefaaGreatDoor
