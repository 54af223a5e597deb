/-
  THE REFERENCE's STREAMINFO and block of nothing.
-/
import Derived.Test.YtlabcknoooaefaaGreatDoorZPa
import Derived.Test.YtlabcknoooaefaaGreatDoorZGz
import Derived.Test.YtlabcknoooaefaaGreatDoorZNe
import Derived.Deep.RegionLaw
import Derived.Deep.DeepCutAuto
import Derived.Lib.AppendZerosOnto
namespace Go.Proofs.YtlabcknoooaefaaGreatDoor
open Go.RowKit
set_option linter.unusedVariables false

/-- Some bytes of the call's own, none or more. -/
def NewBytesF (m : Nat) (w : World) (e : Ending) (w' : World) : Prop := ∃ v n l, e = .returned v ∧ n ≤ m ∧ w'.ownsRow w.heap.size 5 1 v n (u8V l) ∧ Below w.heap.size w w'

/-- A writer's work: the writer, a block beside it that stays, a row of bytes that is read. -/
structure KSt (B wb a hb : Nat) (o : Obj) (cg : Nat) (co : Obj) (w0 w : World) : Prop where
  wr : ∃ a' r, a' ≤ a ∧ PWx B wb a' r w ∧ r ≠ some cg ∧ r ≠ some hb
  hd : w.heap[hb]? = some o
  row : w.heap[cg]? = some co
  keep : Below B w0 w
  n1 : hb ≠ wb
  n2 : cg ≠ wb
  hB : B ≤ w.heap.size

theorem wordK {B wb a hb cg : Nat} {o co : Obj} {w0 w : World} (v N : Int) (hN : 0 ≤ N ∧ N ≤ 64) (ha : a ≤ 1000000) (h : KSt B wb a hb o cg co w0 w) (hB : B ≤ wb) :
    Calls Tryz.prog 50 #[.pointer (some ⟨wb, 0, none⟩), .int .i64 v, .int .i64 N] w fun e w' => e = .returned (.tuple #[]) ∧ KSt B wb (a + 64) hb o cg co w0 w' := by
  obtain ⟨n, rfl⟩ := Int.eq_ofNat_of_zero_le hN.1
  obtain ⟨a', r, ha', p, hr, hr2⟩ := h.wr
  refine (wordX B wb a' n r v (by omega) w p hB).mono ?_
  rintro e w' ⟨rfl, k, f, r', p', hn⟩
  have l1 := (Array.getElem?_eq_some_iff.1 h.row).1
  have l2 := (Array.getElem?_eq_some_iff.1 h.hd).1
  refine ⟨rfl, ⟨a' + n, r', by omega, p', ?_, ?_⟩, f hb _ h.hd h.n1 hr2, f cg _ h.row h.n2 hr, h.keep.trans k.below, h.n1, h.n2, Nat.le_trans h.hB k.below.size⟩
  · rcases hn with e | ⟨q, e, hq⟩
    · rw [e]; exact hr
    · rw [e]
      intro e2
      injection e2 with e2
      omega
  · rcases hn with e | ⟨q, e, hq⟩
    · rw [e]; exact hr2
    · rw [e]
      intro e2
      injection e2 with e2
      omega

theorem KSt.cell {B wb a hb cg : Nat} {cs : Array Value} {t : TypeId} {fz : Nat × Nat} {co : Obj} {w0 w : World} (h : KSt B wb a hb (.cells cs t fz) cg co w0 w) (i : Nat) : w.cell? ⟨hb, i, none⟩ = cs[i]? := cell_of_row w hb i cs t fz h.hd
theorem KSt.rcell {B wb a hb cg : Nat} {cs : Array Value} {t : TypeId} {fz : Nat × Nat} {o : Obj} {w0 w : World} (h : KSt B wb a hb o cg (.cells cs t fz) w0 w) (i : Nat) : w.cell? ⟨cg, i, none⟩ = cs[i]? := cell_of_row w cg i cs t fz h.row

/-- STREAMINFO as the reference has it. -/
def sinfoV (rate ch bits nsam : Int) : Array Value := #[.int .i64 16, .int .i64 4096, .int .i64 0, .int .i64 0, .int .i64 rate, .int .i64 ch, .int .i64 bits, .int .u64 nsam, .slice none 0 0]

theorem kcells {B wb a hb cg : Nat} {rate ch bits nsam : Int} {fz : Nat × Nat} {co : Obj} {w0 w : World} (h : KSt B wb a hb (.cells #[.int .i64 16, .int .i64 4096, .int .i64 0, .int .i64 0, .int .i64 rate, .int .i64 ch, .int .i64 bits, .int .u64 nsam, .slice none 0 0] 47 fz) cg co w0 w) :
    w.cell? ⟨hb, 0, none⟩ = some (.int .i64 16) ∧ w.cell? ⟨hb, 1, none⟩ = some (.int .i64 4096) ∧ w.cell? ⟨hb, 2, none⟩ = some (.int .i64 0) ∧ w.cell? ⟨hb, 3, none⟩ = some (.int .i64 0) ∧ w.cell? ⟨hb, 4, none⟩ = some (.int .i64 rate) ∧ w.cell? ⟨hb, 5, none⟩ = some (.int .i64 ch) ∧ w.cell? ⟨hb, 6, none⟩ = some (.int .i64 bits) ∧ w.cell? ⟨hb, 7, none⟩ = some (.int .u64 nsam) ∧ w.cell? ⟨hb, 8, none⟩ = some (.slice none 0 0) := by
  refine ⟨?_, ?_, ?_, ?_, ?_, ?_, ?_, ?_, ?_⟩ <;> (rw [h.cell]; rfl)

set_option maxRecDepth 100000 in
set_option maxHeartbeats 4000000 in
theorem winfoP (rate ch bits nsam : Int) (hn : 0 ≤ nsam ∧ nsam ≤ 2000) (hc : 1 ≤ ch ∧ ch ≤ 8) (hb : 8 ≤ bits ∧ bits ≤ 24) (last : Bool) (w : World) :
    Calls Tryz.prog 25 #[.agg (sinfoV rate ch bits nsam), .bool last] w (NewBytesF 4096 w) := by
  obtain ⟨i0, hi, hz0, hz1, hz2⟩ := info_parts (show (Tryz.prog.info? 5).map (fun i => (i.zero, i.size, i.bytes)) = some (some (.int .u8 0), 1, 1) by kernel_rfl)
  have hcv := convConst
  have W0 : KSt w.heap.size (w.heap.size + 1) 0 w.heap.size (.cells (sinfoV rate ch bits nsam) 47) (w.heap.size + 2) (.cells #[.int .u8 102, .int .u8 76, .int .u8 97, .int .u8 67] 5 (4, 5)) w (((w.alloc (.cells (sinfoV rate ch bits nsam) 47)).alloc (.cells #[.slice none 0 0, .int .i64 0] 159)).alloc (.cells #[.int .u8 102, .int .u8 76, .int .u8 97, .int .u8 67] 5 (4, 5))) :=
    ⟨⟨0, none, Nat.le_refl _, ⟨.slice none 0 0, [], rfl, (Bk.newAt (w.alloc (.cells (sinfoV rate ch bits nsam) 47)) 159 _ (w.heap.size + 1) (by simp)).alloc _, by simpa [u8V] using World.ownsRow_nil _ _ _ _⟩, by simp, by simp⟩, ((Bk.new w 47 (sinfoV rate ch bits nsam)).alloc _).alloc _, by
      have := heap_alloc_new ((w.alloc (.cells (sinfoV rate ch bits nsam) 47)).alloc (.cells #[.slice none 0 0, .int .i64 0] 159)) (.cells #[.int .u8 102, .int .u8 76, .int .u8 97, .int .u8 67] 5 (4, 5))
      simpa using this, (((Below.refl _ w).alloc (Nat.le_refl _) _).alloc (by simp) _).alloc (by simp; omega) _, by omega, by omega, by simp; omega⟩
  have hle : w.heap.size ≤ w.heap.size + 1 := by omega
  unfold sinfoV at *
  go_enter Tryz.func25, Tryz.ntmps25
  go_wp2_with fail
  go_loopw [15] (fun k wr => ∃ j : Nat, j ≤ 4 ∧ k = .int .i64 (j : Int) ∧ KSt w.heap.size (w.heap.size + 1) (64 * j) w.heap.size (.cells #[.int .i64 16, .int .i64 4096, .int .i64 0, .int .i64 0, .int .i64 rate, .int .i64 ch, .int .i64 bits, .int .u64 nsam, .slice none 0 0] 47) (w.heap.size + 2) (.cells #[.int .u8 102, .int .u8 76, .int .u8 97, .int .u8 67] 5 (4, 5)) w wr) (fun k _ => 4 - (intOf k).toNat)
  case atStart => exact ⟨0, by omega, rfl, W0⟩
  case round =>
    obtain ⟨j, hj, rfl, W1⟩ := hrel
    clear W0
    by_cases hlt : j < 4
    · have hc := W1.rcell j
      have ck : ∃ y : Int, wr.cell? ⟨w.heap.size + 2, j, none⟩ = some (.int .u8 y) := by
        rw [hc]
        have h4 : j = 0 ∨ j = 1 ∨ j = 2 ∨ j = 3 := by omega
        rcases h4 with rfl | rfl | rfl | rfl
        all_goals exact ⟨_, rfl⟩
      obtain ⟨y, ck⟩ := ck
      clear hc
      go_wp2_with fail
      refine (wordK _ _ (by decide) (by omega) W1 hle).mono ?_
      rintro e w2 ⟨rfl, W2⟩
      go_wp2_with fail
      go_roundw
      case rel => exact ⟨j + 1, by omega, by simp, W2⟩
      case measure => simp [intOf] <;> omega
    · obtain rfl : j = 4 := by omega
      go_upto_if 24 with fail
      go_cut [8] from 10 (fun v wc => (∃ x : Int, v = .int .i64 x) ∧ KSt w.heap.size (w.heap.size + 1) (256) w.heap.size (.cells #[.int .i64 16, .int .i64 4096, .int .i64 0, .int .i64 0, .int .i64 rate, .int .i64 ch, .int .i64 bits, .int .u64 nsam, .slice none 0 0] 47) (w.heap.size + 2) (.cells #[.int .u8 102, .int .u8 76, .int .u8 97, .int .u8 67] 5 (4, 5)) w wc)
      case first =>
        cases last
        all_goals
          go_wp2_with fail
          go_meet
          exact ⟨⟨_, rfl⟩, W1⟩
      case rest =>
      obtain ⟨⟨x, rfl⟩, V0⟩ := hcut
      clear W1
      obtain ⟨c0, c1, c2, c3, c4, c5, c6, c7, c8⟩ := kcells V0
      go_wp2_with fail
      refine (wordK _ _ (by decide) (by omega) V0 hle).mono ?_
      rintro e v1 ⟨rfl, V1⟩
      clear V0 c0 c1 c2 c3 c4 c5 c6 c7 c8
      obtain ⟨c0, c1, c2, c3, c4, c5, c6, c7, c8⟩ := kcells V1
      go_wp2_with fail
      refine (wordK _ _ (by decide) (by omega) V1 hle).mono ?_
      rintro e v2 ⟨rfl, V2⟩
      clear V1 c0 c1 c2 c3 c4 c5 c6 c7 c8
      obtain ⟨c0, c1, c2, c3, c4, c5, c6, c7, c8⟩ := kcells V2
      go_wp2_with fail
      refine (wordK _ _ (by decide) (by omega) V2 hle).mono ?_
      rintro e v3 ⟨rfl, V3⟩
      clear V2 c0 c1 c2 c3 c4 c5 c6 c7 c8
      obtain ⟨c0, c1, c2, c3, c4, c5, c6, c7, c8⟩ := kcells V3
      go_wp2_with fail
      refine (wordK _ _ (by decide) (by omega) V3 hle).mono ?_
      rintro e v4 ⟨rfl, V4⟩
      clear V3 c0 c1 c2 c3 c4 c5 c6 c7 c8
      obtain ⟨c0, c1, c2, c3, c4, c5, c6, c7, c8⟩ := kcells V4
      go_wp2_with fail
      refine (wordK _ _ (by decide) (by omega) V4 hle).mono ?_
      rintro e v5 ⟨rfl, V5⟩
      clear V4 c0 c1 c2 c3 c4 c5 c6 c7 c8
      obtain ⟨c0, c1, c2, c3, c4, c5, c6, c7, c8⟩ := kcells V5
      go_wp2_with fail
      refine (wordK _ _ (by decide) (by omega) V5 hle).mono ?_
      rintro e v6 ⟨rfl, V6⟩
      clear V5 c0 c1 c2 c3 c4 c5 c6 c7 c8
      obtain ⟨c0, c1, c2, c3, c4, c5, c6, c7, c8⟩ := kcells V6
      go_wp2_with fail
      refine (wordK _ _ (by decide) (by omega) V6 hle).mono ?_
      rintro e v7 ⟨rfl, V7⟩
      clear V6 c0 c1 c2 c3 c4 c5 c6 c7 c8
      obtain ⟨c0, c1, c2, c3, c4, c5, c6, c7, c8⟩ := kcells V7
      go_wp2_with fail
      refine (wordK _ _ (by decide) (by omega) V7 hle).mono ?_
      rintro e v8 ⟨rfl, V8⟩
      clear V7 c0 c1 c2 c3 c4 c5 c6 c7 c8
      obtain ⟨c0, c1, c2, c3, c4, c5, c6, c7, c8⟩ := kcells V8
      go_wp2_with fail
      refine (wordK _ _ (by decide) (by omega) V8 hle).mono ?_
      rintro e v9 ⟨rfl, V9⟩
      clear V8 c0 c1 c2 c3 c4 c5 c6 c7 c8
      obtain ⟨c0, c1, c2, c3, c4, c5, c6, c7, c8⟩ := kcells V9
      go_wp2_with fail
      refine (wordK _ _ (by decide) (by omega) V9 hle).mono ?_
      rintro e v10 ⟨rfl, V10⟩
      clear V9 c0 c1 c2 c3 c4 c5 c6 c7 c8
      obtain ⟨c0, c1, c2, c3, c4, c5, c6, c7, c8⟩ := kcells V10
      go_wp2_with fail
      refine (wordK _ _ (by decide) (by omega) V10 hle).mono ?_
      rintro e v11 ⟨rfl, V11⟩
      clear V10 c0 c1 c2 c3 c4 c5 c6 c7 c8
      obtain ⟨c0, c1, c2, c3, c4, c5, c6, c7, c8⟩ := kcells V11
      have hb0 := V11.hB
      have clt := (Array.getElem?_eq_some_iff.1 V11.hd).1
      obtain ⟨hbx, hhb⟩ : ∃ hbx, hbx = w.heap.size := ⟨_, rfl⟩
      have O0 : (v11.alloc (.cells #[] 5)).ownsRow v11.heap.size 5 1 (.slice (some ⟨v11.heap.size, 0, none⟩) 0 0) 0 [] := World.ownsRow_made v11 #[] 0 (Nat.le_refl _) (by decide) rfl
      have HO := Lib.hid O0
      have c8' : ∀ o : Obj, (v11.alloc o).cell? ⟨w.heap.size, 8, none⟩ = some (.slice none 0 0) := fun o => (World.cell?_alloc_lt v11 o ⟨w.heap.size, 8, none⟩ clt).trans c8
      clear O0 hhb
      go_wp2_with (at_builtin; refine wpList_append_zeros _ rfl (.tmp 70) (.const (.int .i64 16)) 23 3 rfl v11.heap.size 5 i0 (.int .u8 0) 1 .i64 .i64 Tryz.underlying23 Tryz.underlying3 hi hz0 hz1 hz2 rfl rfl _ 0 [] rfl HO.out 16 rfl (by omega) (by unfold maxLen; omega) (by omega) (by simp) ?_; intro s1 x1 hs1 hg1 hat1; refine Hid.out ?_)
      refine Lib.hid ?_
      simp only [Nat.zero_add, List.nil_append] at hs1
      obtain ⟨g1, p1, rfl, hg1b, hg1l, hg1c, hg1m, hg1r⟩ := ownsRow_some hs1 (by omega)
      have hg1' : (v11.alloc (.cells #[] 5)).grownBy x1 (some v11.heap.size) := hg1
      have hbx1 : Below v11.heap.size v11 x1 := ((Below.refl _ v11).alloc (Nat.le_refl _) _).grown hg1' (by simp) (fun k hk => by injection hk with hk; omega)
      obtain ⟨a', r, ha', px, _, _⟩ := V11.wr
      obtain ⟨pv, pl, pe, pb, po⟩ := px.ex
      have pb1 := pb.below hbx1 pb.lt
      have po1 := ownsRow_below po hbx1 (fun k hk => (po.lt k hk).2)
      have hbel := V11.keep.trans (hbx1.mono hb0)
      have pv0 := pb1.cell 0
      simp at pv0
      have RD : Reads x1 x1.heap.size 1 (some ⟨g1, 0, none⟩) 16 (List.replicate 16 (.int .u8 0)) := by
        have := Reads.row hg1r
        simpa using this
      have HRD := Lib.hid RD
      have HPO := Lib.hid po1
      have hx1 := hbx1.size
      have hp1 : (16 : Int) ≤ (p1 : Int) := by omega
      have hp2 : p1 ≤ 9223372036854775807 := by unfold maxLen at hg1m; omega
      clear c0 c1 c2 c3 c4 c5 c6 c7 c8 c8' V11 RD po1 po hs1 hg1r
      generalize hn8 : (a' + 7) / 8 = n8 at *
      have hn81 : n8 ≤ 200 := by omega
      clear hn8
      go_wp2_with fail
      go_region_law (refine step_append_any _ rfl (.tmp 75) (.tmp 77) 23 rfl w.heap.size 5 i0 (.int .u8 0) 1 1 Tryz.underlying23 hi hz0 hz1 hz2 rfl (by decide) pv n8 (u8V pl) rfl HPO.out _ (some ⟨g1, 0, none⟩) 16 p1 (List.replicate 16 (.int .u8 0)) rfl HRD.out (fun u hu => by rw [List.eq_of_mem_replicate hu]; rfl) (by unfold maxLen; omega) (by omega) (by simp; omega) ?_; intro v9 w9 hown9 hg9 hat9)
      all_goals
        go_wp2_with fail
        go_ret
        refine ⟨_, n8 + 16, pl ++ List.replicate 16 0, rfl, by omega, ?_, ?_⟩
        · have e : u8V pl ++ List.replicate 16 (Value.int .u8 0) = u8V (pl ++ List.replicate 16 0) := by simp [u8V]
          rw [← e]
          exact hown9
        · exact (Below.drew hbel).grown hg9 (by simp; omega) (fun k hk => (HPO.out.lt k hk).1)
end Go.Proofs.YtlabcknoooaefaaGreatDoor

/-
  THE REFERENCE's block of nothing.
-/
namespace Go.Proofs.YtlabcknoooaefaaGreatDoor
open Go.RowKit
set_option linter.unusedVariables false

set_option maxRecDepth 100000 in
set_option maxHeartbeats 1000000 in
theorem wblockP (k bg : Nat) (hk : k ≤ 40) (w : World) (hb : Bk w bg 5 (List.replicate k (Value.int .u8 0)).toArray) :
    Calls Tryz.prog 26 #[.int .i64 1, .slice (some ⟨bg, 0, none⟩) k k, .bool true] w (NewBytesF 4096 w) := by
  obtain ⟨i0, hi, hz0, hz1, hz2⟩ := info_parts (show (Tryz.prog.info? 5).map (fun i => (i.zero, i.size, i.bytes)) = some (some (.int .u8 0), 1, 1) by kernel_rfl)
  have hlt := hb.lt
  have V0 : KSt w.heap.size w.heap.size 0 bg (.cells (List.replicate k (Value.int .u8 0)).toArray 5) bg (.cells (List.replicate k (Value.int .u8 0)).toArray 5) w (w.alloc (.cells #[.slice none 0 0, .int .i64 0] 159)) :=
    ⟨⟨0, none, Nat.le_refl _, ⟨.slice none 0 0, [], rfl, Bk.new w 159 _, by simpa [u8V] using World.ownsRow_nil _ _ _ _⟩, by simp, by simp⟩, hb.alloc _, hb.alloc _, (Below.refl _ w).alloc (Nat.le_refl _) _, by omega, by omega, by simp⟩
  have hle : w.heap.size ≤ w.heap.size := Nat.le_refl _
  go_enter Tryz.func26, Tryz.ntmps26
  go_wp2_with fail
  refine (wordK _ _ (by decide) (by omega) V0 hle).mono ?_
  rintro e v1 ⟨rfl, V1⟩
  clear V0
  go_wp2_with fail
  refine (wordK _ _ (by decide) (by omega) V1 hle).mono ?_
  rintro e v2 ⟨rfl, V2⟩
  clear V1
  go_wp2_with fail
  refine (wordK _ _ (by decide) (by omega) V2 hle).mono ?_
  rintro e v3 ⟨rfl, V3⟩
  clear V2
  obtain ⟨a', r, ha', px, _, _⟩ := V3.wr
  obtain ⟨pv, pl, pe, pb, po⟩ := px.ex
  have pv0 := pb.cell 0
  simp at pv0
  have hbw := V3.hB
  have RD : Reads v3 v3.heap.size 1 (some ⟨bg, 0, none⟩) k (List.replicate k (.int .u8 0)) := by
    have hr : Row v3 bg 5 (List.replicate k (Value.int .u8 0)) := ⟨_, V3.row, fun j v hj => by rw [List.getElem?_toArray]; exact hj⟩
    have := Reads.row hr
    simpa using this
  have HRD := Lib.hid RD
  have HPO := Lib.hid po
  have hkeep := V3.keep
  clear RD po V3
  generalize hn8 : (a' + 7) / 8 = n8 at *
  have hn81 : n8 ≤ 100 := by omega
  clear hn8
  go_wp2_with (at_builtin; refine wpList_append_any _ rfl (.tmp 25) (.tmp 26) 23 rfl w.heap.size 5 i0 (.int .u8 0) 1 1 Tryz.underlying23 hi hz0 hz1 hz2 rfl (by decide) pv n8 (u8V pl) rfl HPO.out _ (some ⟨bg, 0, none⟩) k k (List.replicate k (.int .u8 0)) rfl HRD.out (fun u hu => by rw [List.eq_of_mem_replicate hu]; rfl) (by unfold maxLen; omega) (by omega) (by omega) ?_; intro v9 w9 hown9 hg9 hat9)
  go_ret
  refine ⟨_, n8 + k, pl ++ List.replicate k 0, rfl, by omega, ?_, ?_⟩
  · have e : u8V pl ++ List.replicate k (Value.int .u8 0) = u8V (pl ++ List.replicate k 0) := by simp [u8V]
    rw [← e]
    exact hown9
  · exact hkeep.grown hg9 (by omega) (fun k hk => (HPO.out.lt k hk).1)
end Go.Proofs.YtlabcknoooaefaaGreatDoor
