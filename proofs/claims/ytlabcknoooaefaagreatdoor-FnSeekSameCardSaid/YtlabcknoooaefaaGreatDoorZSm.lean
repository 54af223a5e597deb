/-
  THE THIN PACKAGE's memory IS A PLACE TO WRITE TO.
-/
import Derived.Test.YtlabcknoooaefaaGreatDoorZGz
import Derived.Test.YtlabcknoooaefaaGreatDoorZNe
import Derived.Test.YtlabcknoooaefaaGreatDoorZMe
import Derived.Test.YtlabcknoooaefaaGreatDoorZCs
import Derived.Test.YtlabcknoooaefaaGreatDoorZPh
import Derived.Deep.QuietTactic
import Derived.Deep.RegionWith
import Derived.Maps.AppendAt
import Derived.Deep.DeepCutAuto
import Derived.BigQuiet
namespace Go.Proofs.YtlabcknoooaefaaGreatDoor
open Go.RowKit
set_option linter.unusedVariables false

/-- What the memory holds: what stood ahead of the place, what was written since, what is left of what stood behind it. -/
def memL (pre tail out : List UInt8) : List UInt8 := pre ++ out ++ tail.drop out.length

theorem memL_len (pre tail out : List UInt8) : (memL pre tail out).length = pre.length + out.length + (tail.length - out.length) := by
  simp [memL]
  omega

/-- The thin package's memory, its place behind pre and what was written. -/
structure MemAt (B mb : Nat) (pre tail out : List UInt8) (w : World) : Prop where
  ge : B ≤ mb
  ex : ∃ v, Bk w mb 89 #[v, .int .i64 ((pre.length + out.length : Nat) : Int)] ∧ w.ownsRow B 5 1 v (memL pre tail out).length (bytesV (memL pre tail out))

theorem meth87 (a : Addr) (w : World) : (method 429 87 (.pointer (some a)) "Write").run Tryz.prog w = .ok (166, .pointer (some a)) w := by kernel_rfl

/-- Bytes laid over others. -/
theorem memL_write (pre tail out bs : List UInt8) : (memL pre tail out).take (pre.length + out.length) ++ bs ++ (memL pre tail out).drop (pre.length + out.length + bs.length) = memL pre tail (out ++ bs) := by
  unfold memL
  have h1 : (pre ++ out ++ tail.drop out.length).take (pre.length + out.length) = pre ++ out := by
    rw [show pre.length + out.length = (pre ++ out).length by simp]
    exact List.take_left
  have h2 : (pre ++ out ++ tail.drop out.length).drop (pre.length + out.length + bs.length) = tail.drop (out ++ bs).length := by
    rw [show pre.length + out.length + bs.length = (pre ++ out).length + bs.length by simp]
    rw [← List.drop_drop, List.drop_left, List.drop_drop]
    simp
  rw [h1, h2]
  simp

theorem copyOwn {w : World} {base g N cap : Nat} {xs : List Value} (own : w.ownsRow base 5 1 (.slice (some ⟨g, 0, none⟩) N cap) N xs) (p dl dc n c : Nat) (a : Addr) (bs : List UInt8) (hr : Rd w a bs) (hl : bs.length = n) (hN : p + n ≤ N) (hd : n ≤ dl) :
    ∃ w', (Builtin.copy_ #[23, 23] 3 #[.slice (some ⟨g, p, none⟩) dl dc, .slice (some a) n c]).run Tryz.prog w = .ok (.int .i64 (n : Int)) w' ∧ w'.ownsRow base 5 1 (.slice (some ⟨g, 0, none⟩) N cap) N (xs.take p ++ bytesV bs ++ xs.drop (p + n)) ∧ w.grownBy w' (some g) := by
  rcases own.2 with ⟨h1, _⟩ | ⟨g', cap', cur, h1, hge, hgg, h2, h3, h4, h5⟩
  · cases h1
  · have : g' = g ∧ cap' = cap := by injection h1 with a b c; injection a with a; injection a with a; exact ⟨a.symm, c.symm⟩
    obtain ⟨rfl, rfl⟩ := this
    have hxl : xs.length = N := by simpa using own.1
    have hbl : (bytesV bs).length = n := by rw [bytesV_len]; exact hl
    have hmin : (bytesV bs).length = Nat.min n dl := by rw [hbl]; exact (Nat.min_eq_left hd).symm
    have e := run_copy_row (P := Tryz.prog) w 23 23 3 5 g' p dl dc a n c cur 5 (bytesV bs) Tryz.underlying23 info5 hgg hmin (fun j v hj => by
      obtain ⟨x, hx, rfl⟩ := bytesV_get bs j v hj
      exact hr j x hx) (by rw [hbl]; omega) (bytesV_one _)
    rw [hbl] at e
    refine ⟨_, e, ⟨by simp [hbl, hxl]; omega, .inr ⟨g', cap', _, rfl, hge, setRow_heap w g' cur _ 5 _ hgg, h2, h3, ?_, ?_⟩⟩, ⟨rfl, rfl, rfl, by simp [World.setRow], fun q hq hne => setRow_other w g' q _ (fun e => hne (by rw [e]))⟩⟩
    · simp [hbl]
      omega
    · have hx2 : cur.toList.take N = xs := by simpa using h5
      have hcl : cur.toList.length = cap' := by simpa using h4
      have hsplit : cur.toList = xs ++ cur.toList.drop N := by rw [← hx2]; exact (List.take_append_drop N _).symm
      have t1 : cur.toList.take p = xs.take p := by rw [← hx2, List.take_take, Nat.min_eq_left (by omega)]
      have t2 : cur.toList.drop (p + n) = xs.drop (p + n) ++ cur.toList.drop N := by
        obtain ⟨T, hT⟩ : ∃ T, T = cur.toList.drop N := ⟨_, rfl⟩
        rw [← hT] at hsplit ⊢
        rw [hsplit, List.drop_append_of_le_length (by rw [hxl]; omega)]
      rw [t1, t2]
      have hlen : (xs.take p ++ bytesV bs ++ xs.drop (p + n)).length = N := by simp [hbl, hxl]; omega
      simp only [Nat.mul_one]
      rw [← List.append_assoc]
      have hk := List.take_left (l₁ := xs.take p ++ bytesV bs ++ xs.drop (p + n)) (l₂ := cur.toList.drop N)
      rw [hlen] at hk
      exact hk

set_option maxRecDepth 100000 in
set_option maxHeartbeats 2000000 in
theorem memWrite (B mb : Nat) (pre tail out bs : List UInt8) (a : Addr) (n c : Nat) (w : World) (h : MemAt B mb pre tail out w) (hr : Rd w a bs) (hl : bs.length = n) (hn : 0 < n) (hnc : n ≤ c) (hc : c ≤ 4096) (ha : a.block ≠ mb) (hx : ∃ w0, MemAt B mb pre tail out w0 ∧ (∀ o, w0.heap[a.block]? = some o → ¬ isBytes o) ∧ ∀ (i : Nat) (o : Obj), w0.heap[i]? = some o → (i = mb ∨ isBytes o) → w.heap[i]? = some o) (hB : B ≤ w.heap.size) (hcap : pre.length + tail.length + out.length + n ≤ 140737488355328) :
    Calls Tryz.prog 166 #[.pointer (some ⟨mb, 0, none⟩), .slice (some a) n c] w fun e w' => e = .returned (.tuple #[.int .i64 (n : Int), .nilIface]) ∧ MemAt B mb pre tail (out ++ bs) w' ∧ Keep B (fun k => k = mb) w w' := by
  obtain ⟨i0, hi, hz0, hz1, hz2⟩ := info_parts (show (Tryz.prog.info? 5).map (fun i => (i.zero, i.size, i.bytes)) = some (some (.int .u8 0), 1, 1) by kernel_rfl)
  obtain ⟨hge, v, hb, ho⟩ := h
  have hap : v.ownBlock ≠ some a.block := by
    obtain ⟨w0, ⟨_, v0, hb0, ho0⟩, hn0, hk0⟩ := hx
    have e := hk0 _ _ hb0 (Or.inl rfl)
    unfold Bk at hb
    rw [hb] at e
    injection e with e
    injection e with e
    have e2 : v = v0 := by
      injection e with e
      injection e with e _
    subst e2
    intro e3
    obtain ⟨cur, hc⟩ := ownsRow_block ho0 e3
    exact hn0 _ hc ⟨_, _, rfl⟩
  clear hx
  have hm := memL_len pre tail out
  obtain ⟨L, hL⟩ : ∃ L, L = (memL pre tail out).length := ⟨_, rfl⟩
  rw [← hL] at hm ho
  obtain ⟨A, cap, hv, hcap1, hcap2⟩ : ∃ A cap, v = .slice A L cap ∧ L ≤ cap ∧ cap ≤ maxLen := by
    rcases ho.2 with ⟨h1, h2⟩ | ⟨g, cap, cur, h1, _, _, h2, h3, _⟩
    · exact ⟨none, 0, by rw [h1, h2], by omega, by decide⟩
    · exact ⟨some ⟨g, 0, none⟩, cap, h1, h2, h3⟩
  subst hv
  obtain ⟨p, hp⟩ : ∃ p, p = pre.length + out.length := ⟨_, rfl⟩
  rw [← hp] at hm hb
  have HP := Lib.hid hp
  have HL := Lib.hid hL
  have HM := Lib.hid hm
  have hLp : p ≤ L := by omega
  have hL47 : p + n ≤ 140737488355328 ∧ L ≤ 140737488355328 := by omega
  clear hp hL
  have c0 := hb.cell 0
  have c1 := hb.cell 1
  simp at c0 c1
  have f0 := hb.frozen 0
  have f1 := hb.frozen 1
  have HO := Lib.hid ho
  have w1 : IntKind.i64.wrap ((p : Int) + (n : Int)) = (p : Int) + (n : Int) := by rw [IntKind.wrap_i64]; omega
  have w2 : IntKind.i64.wrap ((p : Int) + (n : Int) - (L : Int)) = (p : Int) + (n : Int) - (L : Int) := by rw [IntKind.wrap_i64]; omega
  clear hm ho
  have hout : bs.length = n := hl
  have hMP : memL pre tail (out ++ bs) = (memL pre tail out).take p ++ bs ++ (memL pre tail out).drop (p + n) := by
    rw [HP.out, ← hl]
    exact (memL_write pre tail out bs).symm
  have HMP := Lib.hid hMP
  clear hMP hout
  go_enter Tryz.func166, Tryz.ntmps166
  go_wp2_with fail
  go_quiet (fail)
  go_upto_if 21 with fail
  go_cut [4] (fun v wc => v = .int .i64 0 ∧ ∃ (g N cp : Nat) (xs : List Value), Bk wc mb 89 #[.slice (some ⟨g, 0, none⟩) N cp, .int .i64 (p : Int)] ∧ wc.ownsRow B 5 1 (.slice (some ⟨g, 0, none⟩) N cp) N xs ∧ p + n ≤ N ∧ N ≤ 140737488355328 ∧ xs.take p ++ bytesV bs ++ xs.drop (p + n) = bytesV (memL pre tail (out ++ bs)) ∧ Rd wc a bs ∧ Keep B (fun k => k = mb) w wc)
  case first =>
    by_cases hg : L < p + n
    · go_wp2_with (at_builtin; refine wpList_append_zeros _ rfl (.tmp 26) (.tmp 27) 23 3 rfl B 5 i0 (.int .u8 0) 1 .i64 .i64 Tryz.underlying23 Tryz.underlying3 hi hz0 hz1 hz2 rfl rfl _ L _ rfl HO.out (p + n - L) (congrArg (Value.int .i64) (show (p : Int) + (n : Int) - (L : Int) = ((p + n - L : Nat) : Int) by omega)) (by omega) (by unfold maxLen; omega) (by omega) (by simp; omega) ?_; intro v1 x1 hown1 hg1 hat1; have hg1 : World.grownBy _ x1 (Value.slice A L cap).ownBlock := hg1; refine Hid.out ?_)
      refine Lib.hid ?_
      rw [show L + (p + n - L) = p + n by omega] at hown1
      obtain ⟨g, cap2, rfl, hg2, hgl2, hnc2, hcm2, _⟩ := ownsRow_some hown1 (by omega)
      have hb1 : Bk x1 mb 89 #[.slice A L cap, .int .i64 (p : Int)] := Bk.grown (w := w.drewN _) hb hg1 (fun e => ownsRow_ne HO.out hb (by decide) e.symm)
      have K1 : Keep B (fun k => k = mb) w x1 := ((Keep.refl B _ w).same (Below.drewN' (Below.refl _ w) _) hB).grownRow HO.out (Nat.le_refl _) hB hg1
      have R1 : Rd x1 a bs := fun j b hj => hg1.cell (hr j b hj) (by rw [block_of_add]; exact fun e => hap e.symm)
      clear c0 c1 f0 f1
      have b0 := hb1.frozen 0
      have b1 := hb1.cell 0
      simp at b1
      go_wp2_with fail
      go_meet
      case rel =>
        refine ⟨rfl, g, p + n, cap2, _, by simpa using hb1.put 0 (.slice (some ⟨g, 0, none⟩) (p + n) cap2), ownsRow_setCell_other hown1 (a := ⟨mb, 0, none⟩) (ownsRow_ne hown1 hb1 (by decide)) _, by omega, by omega, ?_, R1.far ⟨mb, 0, none⟩ (fun e => ha e.symm) _, K1.setCell hge rfl _⟩
        have hml : (bytesV (memL pre tail out)).length = L := by rw [bytesV_len]; exact HL.out.symm
        rw [HMP.out]
        rw [List.take_append_of_le_length (by omega), List.drop_eq_nil_of_le (by simp; omega)]
        rw [List.drop_eq_nil_of_le (show (memL pre tail out).length ≤ p + n by have := HL.out; omega)]
        simp [bytesV]
    · go_wp2_with fail
      go_meet
      case rel =>
        rcases HO.out.2 with ⟨h1, h2⟩ | ⟨g, cap', cur, h1, _, _, h2, h3, _⟩
        · omega
        · injection h1 with h1 h4 h5
          subst h1 h5
          refine ⟨rfl, g, L, cap, _, hb, HO.out, by omega, by omega, ?_, hr, (Keep.refl B _ w).same (Below.drewN' (Below.refl _ w) _) hB⟩
          rw [HMP.out]
          simp [bytesV]
  case rest =>
  obtain ⟨rfl, g, N, cp, xs, hb1, ho1, hpN, hN47, hxs, R1, K1⟩ := hcut
  have d0 := hb1.cell 0
  have d1 := hb1.cell 1
  simp at d0 d1
  have e1 := hb1.frozen 1
  obtain ⟨cpN1, cpN2⟩ : N ≤ cp ∧ cp ≤ maxLen := by
    obtain ⟨g', c', h', _, _, h2, h3, _⟩ := ownsRow_some ho1 (by omega)
    injection h' with a1 a2 a3
    subst a3
    exact ⟨h2, h3⟩
  unfold maxLen at cpN2
  have hsa : ∀ W, (Instr.sliceAt 23 (.slice (some ⟨g, 0, none⟩) N cp) (some (.int .i64 (p : Int))) none none).run Tryz.prog W = .ok (.slice (some ⟨g, p, none⟩) (N - p) (cp - p)) W := by
    intro W
    have h1 : (p : Int) ≤ (cp : Int) := by omega
    have h2 : (p : Int) ≤ (N : Int) := by omega
    have h : ¬ cp = p := by omega
    go_simp
  obtain ⟨w6, hw6, ho6, hg6⟩ := copyOwn (w := wc.drew) ho1 p (N - p) (cp - p) n c a bs R1 hl (by omega) (by omega)
  rw [hxs] at ho6
  have HO6 := Lib.hid ho6
  have HG6 := Lib.hid hg6
  clear c0 c1 f0 f1 ho6 hg6 hxs
  have hbw := hb1
  go_wp2_with fail
  go_region
  have hb6 : Bk w6 mb 89 #[.slice (some ⟨g, 0, none⟩) N cp, .int .i64 (p : Int)] := Bk.grown (w := wc.drew) hbw HG6.out (fun e => ownsRow_ne ho1 hbw (by decide) e.symm)
  have K6 := (Keep.drew K1).grownRow (v := .slice (some ⟨g, 0, none⟩) N cp) (World.ownsRow.drew ho1) (Nat.le_refl _) (Nat.le_trans hB K1.below.size) HG6.out
  have hz : w.heap.size ≤ w6.heap.size := K6.below.size
  clear hw6 d0 d1 e1
  have d1 := hb6.cell 1
  simp at d1
  have e1 := hb6.frozen 1
  go_wp2_with fail
  go_ret2
  refine ⟨rfl, ⟨hge, .slice (some ⟨g, 0, none⟩) N cp, ?_, ?_⟩, K6.setCell hge rfl _⟩
  · have e := hb6.put 1 (.int .i64 ((p : Int) + (n : Int)))
    rw [HP.out] at e
    have e2 : ((pre.length + (out ++ bs).length : Nat) : Int) = ((pre.length + out.length : Nat) : Int) + (n : Int) := by
      rw [List.length_append, hl]
      omega
    rw [e2, ← HP.out]
    simpa [HP.out] using e
  · have e : (memL pre tail (out ++ bs)).length = N := by have := HO6.out.1; rw [bytesV_len] at this; omega
    rw [e]
    exact ownsRow_setCell_other HO6.out (a := ⟨mb, 1, none⟩) (ownsRow_ne HO6.out hb6 (by decide)) _
end Go.Proofs.YtlabcknoooaefaaGreatDoor

/-
  THE THIN PACKAGE's memory: a place to write to; a place sought.
-/
namespace Go.Proofs.YtlabcknoooaefaaGreatDoor
open Go.RowKit
set_option linter.unusedVariables false

def skMem (B mb : Nat) (pre tail : List UInt8) : Sk :=
  { own := fun k => k = mb, ty := 87, val := .pointer (some ⟨mb, 0, none⟩), cap := 140737488355328 - (pre.length + tail.length), inv := fun out w => MemAt B mb pre tail out w }

theorem skMem_ok (B mb : Nat) (pre tail : List UInt8) (hB : B ≤ mb) (hpt : pre.length + tail.length ≤ 140737488355328) : (skMem B mb pre tail).Ok Tryz.prog 429 B where
  call := ⟨166, .pointer (some ⟨mb, 0, none⟩), meth87 _, fun _ _ => by kernel_rfl, fun out bs a n c w h hr hl hn hnc hc ha hx hBw hcap =>
    memWrite B mb pre tail out bs a n c w h hr hl hn hnc hc ha hx hBw (by have : out.length + n ≤ 140737488355328 - (pre.length + tail.length) := hcap; omega)⟩
  stable := fun out w w' h hk => by
    obtain ⟨hge, v, hb, ho⟩ := h
    refine ⟨hge, v, hk _ _ hb (Or.inl rfl), ownsRow_stay ho fun k o hko hv => hk k o hko (Or.inr ?_)⟩
    obtain ⟨cur, hc⟩ := ownsRow_block ho hv
    unfold Bk at hc
    rw [hc] at hko
    injection hko with hko
    exact ⟨_, _, hko.symm⟩
  lt := fun out w k h hk => by
    obtain ⟨hge, v, hb, ho⟩ := h
    have e : k = mb := hk
    rw [e]
    exact hb.lt
  ge := fun k hk => by
    have e : k = mb := hk
    rw [e]
    exact hB

set_option maxRecDepth 100000 in
set_option maxHeartbeats 2000000 in
theorem memSeek (B mb : Nat) (pre tail out : List UInt8) (k : Nat) (w : World) (h : MemAt B mb pre tail out w) (hk : k ≤ (memL pre tail out).length) (hl : (memL pre tail out).length ≤ 140737488355328) (hB : B ≤ w.heap.size) :
    Calls Tryz.prog 165 #[.pointer (some ⟨mb, 0, none⟩), .int .i64 (k : Int), .int .i64 0] w fun e w' => e = .returned (.tuple #[.int .i64 (k : Int), .nilIface]) ∧ MemAt B mb ((memL pre tail out).take k) ((memL pre tail out).drop k) [] w' ∧ Keep B (fun k => k = mb) w w' := by
  obtain ⟨hge, v, hb, ho⟩ := h
  obtain ⟨A, cap, hv, hcap1, hcap2⟩ : ∃ A cap, v = .slice A (memL pre tail out).length cap ∧ (memL pre tail out).length ≤ cap ∧ cap ≤ maxLen := by
    rcases ho.2 with ⟨h1, h2⟩ | ⟨g, cap, cur, h1, _, _, h2, h3, _⟩
    · exact ⟨none, 0, by rw [h1, h2], by omega, by decide⟩
    · exact ⟨some ⟨g, 0, none⟩, cap, h1, h2, h3⟩
  subst hv
  obtain ⟨M, hM⟩ : ∃ M, M = memL pre tail out := ⟨_, rfl⟩
  rw [← hM] at hk hl hb ho hcap1 ⊢
  clear hM
  have c0 := hb.cell 0
  have c1 := hb.cell 1
  simp at c0 c1
  have f0 := hb.frozen 0
  have f1 := hb.frozen 1
  go_enter Tryz.func165, Tryz.ntmps165
  go_wp2
  go_ret2
  refine ⟨rfl, ⟨hge, .slice A M.length cap, ?_, ?_⟩, (Keep.refl B (fun k => k = mb) w).setCell hge rfl _⟩
  · have e : ((M.take k).length + ([] : List UInt8).length : Nat) = k := by simp; omega
    rw [e]
    simpa using hb.put 1 (.int .i64 (k : Int))
  · have e : memL (M.take k) (M.drop k) [] = M := by simp [memL]
    rw [e]
    exact ownsRow_setCell_other ho (a := ⟨mb, 1, none⟩) (ownsRow_ne ho hb (by decide)) _
end Go.Proofs.YtlabcknoooaefaaGreatDoor
