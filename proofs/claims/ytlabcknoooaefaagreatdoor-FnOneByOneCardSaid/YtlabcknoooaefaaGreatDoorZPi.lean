/-
  THE STREAM OF NUMBERS: streamOf.
-/
import Derived.Test.YtlabcknoooaefaaGreatDoorZPq
import Derived.Test.YtlabcknoooaefaaGreatDoorZPo
namespace Go.Proofs.YtlabcknoooaefaaGreatDoor
open Go.RowKit
set_option linter.unusedVariables false

set_option maxRecDepth 100000 in
set_option maxHeartbeats 8000000 in
theorem streamP (flags : Int) (hf : 0 ≤ flags ∧ flags < 4294967296) (hfa : flags / 64 % 11 < 8) (As Ad : Option Addr) (ns cs nd cd : Nat) (sl dl : List Int) (hs : ns ≤ cs ∧ cs ≤ maxLen) (hd : nd ≤ 1000 ∧ nd ≤ cd ∧ cd ≤ maxLen) (hsl : ∀ x ∈ sl, 0 ≤ x ∧ x < 256) (w : World) (hrs : Reads w w.heap.size 1 As ns (u8V sl)) (hrd : Reads w w.heap.size 1 Ad nd (u8V dl)) :
    Calls Tryz.prog 12 #[.int .u32 flags, .slice As ns cs, .slice Ad nd cd, .slice none 0 0] w (StPost w ns) := by
  have q7 : 0 ≤ flags % 7 ∧ flags % 7 < 7 := by omega
  have q5 : 0 ≤ flags / 8 % 5 ∧ flags / 8 % 5 < 5 := by omega
  have q11 : 0 ≤ flags / 64 % 11 := by omega
  go_enter Tryz.func12, Tryz.ntmps12
  go_upto_region 1 with fail
  go_cut [12] from 34 (fun v wc => ∃ (ib : Nat) (rate bits : Int), v = .pointer (some ⟨ib, 0, none⟩) ∧ (0 ≤ rate ∧ rate ≤ 1000000) ∧ Hid (isRate rate) ∧ (8 ≤ bits ∧ bits ≤ 24) ∧ (bits = 8 ∨ bits = 12 ∨ bits = 16 ∨ bits = 20 ∨ bits = 24) ∧ Bk wc ib 47 #[.int .i64 0, .int .i64 0, .int .i64 0, .int .i64 0, .int .i64 rate, .int .i64 0, .int .i64 bits, .int .u64 0, .slice none 0 0] ∧ Below w.heap.size w wc ∧ w.heap.size < ib ∧ Bk wc w.heap.size 47 #[.int .i64 0, .int .i64 0, .int .i64 0, .int .i64 0, .int .i64 0, .int .i64 0, .int .i64 0, .int .u64 0, .slice none 0 0])
  case first =>
    have h7 : ∀ n (h : n < 7), ∃ x : Int, ([Value.int .i64 44100, .int .i64 8000, .int .i64 12345, .int .i64 96000, .int .i64 48000, .int .i64 655350, .int .i64 176400] : List Value)[n]'(by simpa using h) = .int .i64 x ∧ 0 ≤ x ∧ x ≤ 1000000 ∧ isRate x := by
      intro n h
      rcases n with _ | _ | _ | _ | _ | _ | _ | n
      all_goals first
        | exact ⟨_, rfl, by decide, by decide, by unfold isRate; decide⟩
        | omega
    have h5 : ∀ n (h : n < 5), ∃ x : Int, ([Value.int .i64 16, .int .i64 8, .int .i64 24, .int .i64 20, .int .i64 12] : List Value)[n]'(by simpa using h) = .int .i64 x ∧ (8 ≤ x ∧ x ≤ 24) ∧ (x = 8 ∨ x = 12 ∨ x = 16 ∨ x = 20 ∨ x = 24) := by
      intro n h
      rcases n with _ | _ | _ | _ | _ | n
      all_goals first
        | exact ⟨_, rfl, by decide, by decide⟩
        | omega
    obtain ⟨rate, he7, hr1, hr2, hr3⟩ := h7 (flags % 7).toNat (by omega)
    obtain ⟨bits, he5, hb1, hb2⟩ := h5 (flags / 8 % 5).toNat (by omega)
    have HR3 := Lib.hid hr3
    clear h7 h5 hr3
    go_region
    all_goals
      go_wp2_with fail
      go_meet
      refine ⟨_, rate, bits, rfl, ⟨hr1, hr2⟩, HR3, hb1, hb2, ?_, ?_, ?_, ?_⟩
      · first
          | exact Bk.newAt _ 47 _ _ (by simp)
          | exact (Bk.newAt _ 47 _ _ (by simp)).alloc _
          | exact ((Bk.newAt _ 47 _ _ (by simp)).alloc _).alloc _
      · exact (((((Below.refl _ w).alloc (Nat.le_refl _) _).alloc (by simp) _).alloc (by simp; omega) _).alloc (by simp; omega) _).drew
      · omega
      · exact (((Bk.new w 47 _).alloc _).alloc _).alloc _
  case rest =>
  obtain ⟨ib, rate, bits, rfl, hrate, HRT, hbits, hb5, IB, B0, hib, RB⟩ := hcut
  have ilt := IB.lt
  have i4 := IB.cell 4
  have i5 := IB.cell 5
  have i6 := IB.cell 6
  simp at i4 i5 i6
  have if5 := IB.frozen 5
  have hch : IntKind.i64.wrap (flags / 64 % 11) = flags / 64 % 11 := by rw [IntKind.wrap_i64]; omega
  obtain ⟨asg, hasg⟩ : ∃ asg, asg = flags / 64 % 11 := ⟨_, rfl⟩
  have hasg0 : 0 ≤ asg ∧ asg < 8 := by omega
  rw [← hasg] at hch
  have HASG := Lib.hid hasg
  clear hasg
  go_wp2_with (go_at_call 21; refine (channelsP _ (by omega) _).mono ?_; rintro e w' ⟨rfl, rfl⟩; refine Hid.out ?_)
  refine Lib.hid ?_
  go_wp2_with fail
  refine wp_loop_once ?_
  go_upto_region 14 with fail
  rw [← HASG.out]
  have hne : w.heap.size ≠ ib := by omega
  have IB2 := ((((IB.put 5 (.int .i64 (asg + 1))).alloc (.cells #[] 94)).alloc (.cells #[] 53)).alloc (.cells #[] 54)).alloc (.cells #[] 5)
  simp at IB2
  have RB2 := ((((RB.far (p := ⟨ib, 5, none⟩) hne (.int .i64 (asg + 1))).alloc (.cells #[] 94)).alloc (.cells #[] 53)).alloc (.cells #[] 54)).alloc (.cells #[] 5)
  have hbz := B0.size
  have B2 := ((((B0.setCell (p := ⟨ib, 5, none⟩) (Nat.le_of_lt hib) (.int .i64 (asg + 1))).alloc (by simp [World.setCell]; omega) (.cells #[] 94)).alloc (by simp [World.setCell]; omega) (.cells #[] 53)).alloc (by simp [World.setCell]; omega) (.cells #[] 54)).alloc (by simp [World.setCell]; omega) (.cells #[] 5)
  obtain ⟨w5, hw5⟩ : ∃ w5, w5 = ((((wc.setCell ⟨ib, 5, none⟩ (.int .i64 (asg + 1))).alloc (.cells #[] 94)).alloc (.cells #[] 53)).alloc (.cells #[] 54)).alloc (.cells #[] 5) := ⟨_, rfl⟩
  have o19 : w5.ownsRow w.heap.size 53 6 (.slice (some ⟨wc.heap.size + 1, 0, none⟩) 0 0) 0 [] := by
    rw [hw5]
    exact ⟨by simp, .inr ⟨_, 0, #[], rfl, by omega, (((Bk.newAt _ 53 #[] _ (by simp [World.setCell])).alloc _).alloc _), by omega, by decide, by simp, by simp⟩⟩
  have o20 : w5.ownsRow w.heap.size 54 1 (.slice (some ⟨wc.heap.size + 1 + 1, 0, none⟩) 0 0) 0 [] := by
    rw [hw5]
    exact ⟨by simp, .inr ⟨_, 0, #[], rfl, by omega, ((Bk.newAt _ 54 #[] _ (by simp [World.setCell])).alloc _), by omega, by decide, by simp, by simp⟩⟩
  have o21 : w5.ownsRow w.heap.size 5 1 (.slice (some ⟨wc.heap.size + 1 + 1 + 1, 0, none⟩) 0 0) 0 (u8V []) := by
    rw [hw5]
    exact ⟨by simp [u8V], .inr ⟨_, 0, #[], rfl, by omega, Bk.newAt _ 5 #[] _ (by simp [World.setCell]), by omega, by decide, by simp, by simp [u8V]⟩⟩
  rw [← hw5] at IB2 RB2 B2 ⊢
  clear hw5
  unfold maxLen at hs hd
  go_cut [12, 13, 14, 17, 18, 19, 20, 21, 22, 86, 87, 88] from 34 (fun s12 s13 s14 s17 s18 s19 s20 s21 s22 s86 s87 s88 wc2 => ∃ (lb base : Nat) (varies : Bool), s12 = .pointer (some ⟨ib, 0, none⟩) ∧ s13 = .int .i64 asg ∧ s14 = .slice (some ⟨lb, 0, none⟩) 0 0 ∧ s17 = .int .i64 (base : Int) ∧ 16 ≤ base ∧ base ≤ 256 ∧ s18 = .bool varies ∧ s22 = .int .i64 0 ∧ s86 = .slice As (min ns 3) cs ∧ s87 = .int .i64 ((min ns 3 : Nat) : Int) ∧ s88 = .int .i64 0 ∧ wc2.ownsRow w.heap.size 53 6 s19 0 [] ∧ wc2.ownsRow w.heap.size 54 1 s20 0 [] ∧ wc2.ownsRow w.heap.size 5 1 s21 0 (u8V []) ∧ Bk wc2 ib 47 #[.int .i64 0, .int .i64 0, .int .i64 0, .int .i64 0, .int .i64 rate, .int .i64 (asg + 1), .int .i64 bits, .int .u64 0, .slice none 0 0] ∧ Bk wc2 w.heap.size 47 #[.int .i64 0, .int .i64 0, .int .i64 0, .int .i64 0, .int .i64 0, .int .i64 0, .int .i64 0, .int .u64 0, .slice none 0 0] ∧ Below w.heap.size w wc2)
  case first =>
    have hbs : (16 : Int) + flags / 1024 % 240 = ((16 + flags / 1024 % 240).toNat : Int) := by omega
    by_cases hn3 : ns ≤ 3
    · have hmn : min ns 3 = ns := by omega
      have HMN := Lib.hid hmn
      have HBS := Lib.hid hbs
      clear hmn hbs
      go_wp2_with fail
      go_meet
      case rel =>
        rw [HMN.out]
        exact ⟨_, (16 + flags / 1024 % 240).toNat, _, rfl, rfl, rfl, congrArg (Value.int .i64) HBS.out, by omega, by omega, rfl, rfl, rfl, rfl, rfl, o19, o20, o21, IB2, RB2, B2⟩
    · have hmn : min ns 3 = 3 := by omega
      have hc3 : 3 ≤ cs := by omega
      have HMN := Lib.hid hmn
      have HBS := Lib.hid hbs
      clear hmn hbs
      go_wp2_with fail
      go_meet
      case rel =>
        rw [HMN.out]
        exact ⟨_, (16 + flags / 1024 % 240).toNat, _, rfl, rfl, rfl, congrArg (Value.int .i64) HBS.out, by omega, by omega, rfl, rfl, rfl, rfl, rfl, o19, o20, o21, IB2, RB2, B2⟩
  case rest =>
  obtain ⟨lb, base, varies, rfl, rfl, rfl, rfl, hbase1, hbase2, rfl, rfl, rfl, rfl, rfl, O19, O20, O21, IB3, RB3, B3⟩ := hcut
  clear o19 o20 o21 IB2 RB2 B2 IB RB B0 i4 i5 i6 if5 ilt hbz hne
  go_upto_block 2 with fail
  obtain ⟨nch, hnch⟩ : ∃ nch : Nat, (nch : Int) = asg + 1 := ⟨(asg + 1).toNat, by omega⟩
  have HNCH := Lib.hid hnch
  clear hnch
  obtain ⟨mm, hmm⟩ : ∃ mm, mm = min ns 3 := ⟨_, rfl⟩
  rw [← hmm]
  have HMM := Lib.hid hmm
  clear hmm
  have hbz3 := B3.size
  refine wp_use (mainP flags hf As Ad ns cs nd cd sl dl hs hd hsl w hrs hrd ib lb base varies rate asg bits hasg0 hrate hb5 nch HNCH.out ⟨hbase1, hbase2⟩ _ _ _ mm HMM.out _ ⟨rfl, O19, O20, O21, by omega, fun q f hf => by simp at hf, IB3, RB3, B3, hbz3⟩) ?_
  clear O19 O20 O21 IB3 RB3 B3
  intro a7 w7 hinv
  obtain ⟨u19, hinv⟩ := hinv
  obtain ⟨u20, hinv⟩ := hinv
  obtain ⟨u21, hinv⟩ := hinv
  obtain ⟨u22, hinv⟩ := hinv
  obtain ⟨u23, hinv⟩ := hinv
  obtain ⟨u24, hinv⟩ := hinv
  obtain ⟨u25, hinv⟩ := hinv
  obtain ⟨u26, hinv⟩ := hinv
  obtain ⟨u27, hinv⟩ := hinv
  obtain ⟨u28, hinv⟩ := hinv
  obtain ⟨u29, hinv⟩ := hinv
  obtain ⟨u31, hinv⟩ := hinv
  obtain ⟨u32, hinv⟩ := hinv
  obtain ⟨u88, hinv⟩ := hinv
  obtain ⟨u89, hinv⟩ := hinv
  obtain ⟨u90, hinv⟩ := hinv
  obtain ⟨u91, hinv⟩ := hinv
  obtain ⟨u92, hinv⟩ := hinv
  obtain ⟨u93, hinv⟩ := hinv
  obtain ⟨u94, hinv⟩ := hinv
  obtain ⟨u95, hinv⟩ := hinv
  obtain ⟨u96, hinv⟩ := hinv
  obtain ⟨u97, hinv⟩ := hinv
  obtain ⟨u98, hinv⟩ := hinv
  obtain ⟨u99, hinv⟩ := hinv
  obtain ⟨u100, hinv⟩ := hinv
  obtain ⟨u101, hinv⟩ := hinv
  obtain ⟨u102, hinv⟩ := hinv
  obtain ⟨u103, hinv⟩ := hinv
  obtain ⟨u104, hinv⟩ := hinv
  obtain ⟨u105, hinv⟩ := hinv
  obtain ⟨u106, hinv⟩ := hinv
  obtain ⟨u107, hinv⟩ := hinv
  obtain ⟨u108, hinv⟩ := hinv
  obtain ⟨u109, hinv⟩ := hinv
  obtain ⟨u110, hinv⟩ := hinv
  obtain ⟨u111, hinv⟩ := hinv
  obtain ⟨u112, hinv⟩ := hinv
  obtain ⟨u113, hinv⟩ := hinv
  obtain ⟨u114, hinv⟩ := hinv
  obtain ⟨u115, hinv⟩ := hinv
  obtain ⟨u116, hinv⟩ := hinv
  obtain ⟨u117, hinv⟩ := hinv
  obtain ⟨u118, hinv⟩ := hinv
  obtain ⟨u119, hinv⟩ := hinv
  obtain ⟨u120, hinv⟩ := hinv
  obtain ⟨u121, hinv⟩ := hinv
  obtain ⟨u122, hinv⟩ := hinv
  obtain ⟨u123, hinv⟩ := hinv
  obtain ⟨u124, hinv⟩ := hinv
  obtain ⟨u125, hinv⟩ := hinv
  obtain ⟨u126, hinv⟩ := hinv
  obtain ⟨u127, hinv⟩ := hinv
  obtain ⟨u128, hinv⟩ := hinv
  obtain ⟨u129, hinv⟩ := hinv
  obtain ⟨u130, hinv⟩ := hinv
  obtain ⟨u131, hinv⟩ := hinv
  obtain ⟨u132, hinv⟩ := hinv
  obtain ⟨u133, hinv⟩ := hinv
  obtain ⟨u134, hinv⟩ := hinv
  obtain ⟨u135, hinv⟩ := hinv
  obtain ⟨u136, hinv⟩ := hinv
  obtain ⟨u137, hinv⟩ := hinv
  obtain ⟨u138, hinv⟩ := hinv
  obtain ⟨u139, hinv⟩ := hinv
  obtain ⟨u140, hinv⟩ := hinv
  obtain ⟨u141, hinv⟩ := hinv
  obtain ⟨u142, hinv⟩ := hinv
  obtain ⟨u143, hinv⟩ := hinv
  obtain ⟨u144, hinv⟩ := hinv
  obtain ⟨u145, hinv⟩ := hinv
  obtain ⟨u146, hinv⟩ := hinv
  obtain ⟨u147, hinv⟩ := hinv
  obtain ⟨u148, hinv⟩ := hinv
  obtain ⟨u149, hinv⟩ := hinv
  obtain ⟨u150, hinv⟩ := hinv
  obtain ⟨u151, hinv⟩ := hinv
  obtain ⟨u152, hinv⟩ := hinv
  obtain ⟨u153, hinv⟩ := hinv
  obtain ⟨u154, hinv⟩ := hinv
  obtain ⟨u155, hinv⟩ := hinv
  obtain ⟨u156, hinv⟩ := hinv
  obtain ⟨u157, hinv⟩ := hinv
  obtain ⟨u158, hinv⟩ := hinv
  obtain ⟨u159, hinv⟩ := hinv
  obtain ⟨u160, hinv⟩ := hinv
  obtain ⟨u161, hinv⟩ := hinv
  obtain ⟨u162, hinv⟩ := hinv
  obtain ⟨u163, hinv⟩ := hinv
  obtain ⟨u164, hinv⟩ := hinv
  obtain ⟨u165, hinv⟩ := hinv
  obtain ⟨u166, hinv⟩ := hinv
  obtain ⟨u167, hinv⟩ := hinv
  obtain ⟨u168, hinv⟩ := hinv
  obtain ⟨u169, hinv⟩ := hinv
  obtain ⟨u170, hinv⟩ := hinv
  obtain ⟨u171, hinv⟩ := hinv
  obtain ⟨u172, hinv⟩ := hinv
  obtain ⟨u173, hinv⟩ := hinv
  obtain ⟨u174, hinv⟩ := hinv
  obtain ⟨u175, hinv⟩ := hinv
  obtain ⟨u176, hinv⟩ := hinv
  obtain ⟨u177, hinv⟩ := hinv
  obtain ⟨u178, hinv⟩ := hinv
  obtain ⟨u179, hinv⟩ := hinv
  obtain ⟨u180, hinv⟩ := hinv
  obtain ⟨u181, hinv⟩ := hinv
  obtain ⟨u182, hinv⟩ := hinv
  obtain ⟨u183, hinv⟩ := hinv
  obtain ⟨u184, hinv⟩ := hinv
  obtain ⟨u185, hinv⟩ := hinv
  obtain ⟨u186, hinv⟩ := hinv
  obtain ⟨u187, hinv⟩ := hinv
  obtain ⟨u188, hinv⟩ := hinv
  obtain ⟨u189, hinv⟩ := hinv
  obtain ⟨u190, hinv⟩ := hinv
  obtain ⟨u191, hinv⟩ := hinv
  obtain ⟨u192, hinv⟩ := hinv
  obtain ⟨u193, hinv⟩ := hinv
  obtain ⟨u194, hinv⟩ := hinv
  obtain ⟨u195, hinv⟩ := hinv
  obtain ⟨u196, hinv⟩ := hinv
  obtain ⟨u197, hinv⟩ := hinv
  obtain ⟨u198, hinv⟩ := hinv
  obtain ⟨u199, hinv⟩ := hinv
  obtain ⟨u200, hinv⟩ := hinv
  obtain ⟨u201, hinv⟩ := hinv
  obtain ⟨u202, hinv⟩ := hinv
  obtain ⟨u203, hinv⟩ := hinv
  obtain ⟨u204, hinv⟩ := hinv
  obtain ⟨u205, hinv⟩ := hinv
  obtain ⟨u206, hinv⟩ := hinv
  obtain ⟨u207, hinv⟩ := hinv
  obtain ⟨u208, hinv⟩ := hinv
  obtain ⟨u209, hinv⟩ := hinv
  obtain ⟨u210, hinv⟩ := hinv
  obtain ⟨u211, hinv⟩ := hinv
  obtain ⟨u212, hinv⟩ := hinv
  obtain ⟨u213, hinv⟩ := hinv
  obtain ⟨u214, hinv⟩ := hinv
  obtain ⟨⟨done, nb, frs, bl, rfl, hdone, L1⟩, ha⟩ := hinv
  subst ha
  try dsimp only
  go_step
  exact endP flags hf ns w ib varies rate asg bits hib hasg0 HRT.out hrate hb5 nch HNCH.out _ _ _ mm nb done HMM.out hdone frs bl _ L1
end Go.Proofs.YtlabcknoooaefaaGreatDoor
