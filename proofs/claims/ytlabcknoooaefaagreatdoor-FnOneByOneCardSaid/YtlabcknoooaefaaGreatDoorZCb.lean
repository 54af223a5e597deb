/-
  Close: over the thin package's memory: STREAMINFO anew.
-/
import Derived.Test.YtlabcknoooaefaaGreatDoorZCa
import Derived.Test.YtlabcknoooaefaaGreatDoorZSm
import Derived.Test.YtlabcknoooaefaaGreatDoorZPj
import Derived.Test.YtlabcknoooaefaaGreatDoorZKd
import Derived.Deep.DeepCutAuto
import Derived.StillTailTactics
namespace Go.Proofs.YtlabcknoooaefaaGreatDoor
open Go.RowKit
set_option linter.unusedVariables false

theorem infoPut0 {w : World} {ib : Nat} {i : InfoD} (h : Bk w ib 123 i.cells) (x : Int) : Bk (w.setCell ⟨ib, 0, none⟩ (.int .u16 x)) ib 123 ({ i with bmin := x } : InfoD).cells := by
  have e := h.put 0 (.int .u16 x)
  have e2 : i.cells.setIfInBounds 0 (.int .u16 x) = ({ i with bmin := x } : InfoD).cells := by simp [InfoD.cells, InfoD.first]
  rw [e2] at e
  exact e
theorem infoPut1 {w : World} {ib : Nat} {i : InfoD} (h : Bk w ib 123 i.cells) (x : Int) : Bk (w.setCell ⟨ib, 1, none⟩ (.int .u16 x)) ib 123 ({ i with bmax := x } : InfoD).cells := by
  have e := h.put 1 (.int .u16 x)
  have e2 : i.cells.setIfInBounds 1 (.int .u16 x) = ({ i with bmax := x } : InfoD).cells := by simp [InfoD.cells, InfoD.first]
  rw [e2] at e
  exact e
theorem infoPut2 {w : World} {ib : Nat} {i : InfoD} (h : Bk w ib 123 i.cells) (x : Int) : Bk (w.setCell ⟨ib, 2, none⟩ (.int .u32 x)) ib 123 ({ i with fmin := x } : InfoD).cells := by
  have e := h.put 2 (.int .u32 x)
  have e2 : i.cells.setIfInBounds 2 (.int .u32 x) = ({ i with fmin := x } : InfoD).cells := by simp [InfoD.cells, InfoD.first]
  rw [e2] at e
  exact e
theorem infoPut3 {w : World} {ib : Nat} {i : InfoD} (h : Bk w ib 123 i.cells) (x : Int) : Bk (w.setCell ⟨ib, 3, none⟩ (.int .u32 x)) ib 123 ({ i with fmax := x } : InfoD).cells := by
  have e := h.put 3 (.int .u32 x)
  have e2 : i.cells.setIfInBounds 3 (.int .u32 x) = ({ i with fmax := x } : InfoD).cells := by simp [InfoD.cells, InfoD.first]
  rw [e2] at e
  exact e
theorem infoPut7 {w : World} {ib : Nat} {i : InfoD} (h : Bk w ib 123 i.cells) (x : Int) : Bk (w.setCell ⟨ib, 7, none⟩ (.int .u64 x)) ib 123 ({ i with nsam := x } : InfoD).cells := by
  have e := h.put 7 (.int .u64 x)
  have e2 : i.cells.setIfInBounds 7 (.int .u64 x) = ({ i with nsam := x } : InfoD).cells := by simp [InfoD.cells, InfoD.first]
  rw [e2] at e
  exact e
theorem infoPutS {w : World} {ib : Nat} {i : InfoD} (h : Bk w ib 123 i.cells) (j : Nat) (x : Int) (hx : 0 ≤ x ∧ x < 256) : Bk (w.setCell ⟨ib, 8 + j, none⟩ (.int .u8 x)) ib 123 ({ i with sum := i.sum.set j (UInt8.ofNat x.toNat) } : InfoD).cells := by
  have e := h.put (8 + j) (.int .u8 x)
  have e2 : i.cells.setIfInBounds (8 + j) (.int .u8 x) = ({ i with sum := i.sum.set j (UInt8.ofNat x.toNat) } : InfoD).cells := by
    have e3 : ((UInt8.ofNat x.toNat).toNat : Int) = x := by simp; omega
    have hl : i.first.length = 8 := rfl
    show (i.first ++ bytesV i.sum).toArray.setIfInBounds (8 + j) (.int .u8 x) = (i.first ++ bytesV (i.sum.set j (UInt8.ofNat x.toNat))).toArray
    rw [List.setIfInBounds_toArray, List.set_append, if_neg (by omega), hl, show 8 + j - 8 = j by omega]
    congr 2
    unfold bytesV
    rw [List.map_set, e3]
  rw [e2] at e
  exact e

structure ClSt (B eb : Nat) (s : Sk) (e : EncS) (ib : Nat) (i : InfoD) (m : MdS) (s' : Sk) (w0 w : World) : Prop where
  enc : Bk w eb 111 (e.cells s)
  str : Bk w e.sb 105 #[.pointer (some ⟨ib, 0, none⟩), .slice none 0 0, .nilIface]
  info : Bk w ib 123 i.cells
  md : Bk w e.md 170 m.cells
  inv : s'.inv [] w
  below : Below B w0 w

section
variable {B eb : Nat} {s : Sk} {e : EncS} {ib : Nat} {i i2 : InfoD} {m : MdS} {s' : Sk} {w0 w w' : World}
theorem ClSt.drew (h : ClSt B eb s e ib i m s' w0 w) (hs : s'.Ok Tryz.prog 429 B) : ClSt B eb s e ib i m s' w0 w.drew := ⟨h.enc, h.str, h.info, h.md, hs.drew h.inv, h.below.drew⟩
theorem ClSt.put (h : ClSt B eb s e ib i m s' w0 w) (hs : s'.Ok Tryz.prog 429 B) (hn : ¬ s'.own ib) (hB : B ≤ ib) (k : Nat) (u : Value) (hi : Bk (w.setCell ⟨ib, k, none⟩ u) ib 123 i2.cells) : ClSt B eb s e ib i2 m s' w0 (w.setCell ⟨ib, k, none⟩ u) :=
  ⟨h.enc.far (Bk.ne h.enc h.info (by decide)) u, h.str.far (Bk.ne h.str h.info (by decide)) u, hi, h.md.far (Bk.ne h.md h.info (by decide)) u, hs.far h.inv h.info (by decide) hn k u, h.below.setCell hB u⟩
theorem ClSt.same (h : ClSt B eb s e ib i m s' w0 w) (hs : s'.Ok Tryz.prog 429 B) (hb : Below w.heap.size w w') (hB : B ≤ w.heap.size) : ClSt B eb s e ib i m s' w0 w' :=
  ⟨h.enc.below hb h.enc.lt, h.str.below hb h.str.lt, h.info.below hb h.info.lt, h.md.below hb h.md.lt, hs.same h.inv hb, h.below.trans (hb.mono hB)⟩
theorem ClSt.cells (h : ClSt B eb s e ib i m s' w0 w) : w.cell? ⟨eb, 0, none⟩ = some (.pointer (some ⟨e.sb, 0, none⟩)) ∧ w.cell? ⟨eb, 1, none⟩ = some (.iface s.ty s.val) ∧ w.cell? ⟨eb, 2, none⟩ = some (.int .u16 e.bmin) ∧ w.cell? ⟨eb, 3, none⟩ = some (.int .u16 e.bmax) ∧ w.cell? ⟨eb, 4, none⟩ = some (.int .u32 0) ∧ w.cell? ⟨eb, 5, none⟩ = some (.int .u32 0) ∧ w.cell? ⟨eb, 6, none⟩ = some (.iface 106 (.pointer (some ⟨e.md, 0, none⟩))) ∧ w.cell? ⟨eb, 7, none⟩ = some (.int .u64 e.nsam) ∧ w.cell? ⟨e.sb, 0, none⟩ = some (.pointer (some ⟨ib, 0, none⟩)) ∧ w.cell? ⟨e.sb, 1, none⟩ = some (.slice none 0 0) := by
  refine ⟨?_, ?_, ?_, ?_, ?_, ?_, ?_, ?_, ?_, ?_⟩
  all_goals first
    | (rw [h.enc.cell]; rfl)
    | (rw [h.str.cell]; rfl)
end

theorem infoS8 {w : World} {ib : Nat} {i : InfoD} (h : Bk w ib 123 i.cells) (hs : i.sum.length = 16) (j : Nat) (hj : j < 16) : ∃ x : Int, w.cell? ⟨ib, 8 + j, none⟩ = some (.int .u8 x) := by
  obtain ⟨y, hy⟩ : ∃ y, i.sum[j]? = some y := ⟨i.sum[j], by simp [hs, hj]⟩
  refine ⟨(y.toNat : Int), ?_⟩
  rw [h.cell]
  have hl : i.first.length = 8 := rfl
  simp [InfoD.cells, bytesV, List.getElem?_append_right, hl, hy]

theorem infoLen (i : InfoD) (h16 : i.sum.length = 16) : (BS.info ⟨[], 0, 0⟩ true i).out.length + 32 ≤ 1000 ∧ (BS.info ⟨[], 0, 0⟩ true i).align.out.length = 38 := by
  obtain ⟨_, _, h3⟩ := BS.nums_len ⟨[], 0, 0⟩ (by simp [BS.ok]) rfl true i
  have e : (BS.info ⟨[], 0, 0⟩ true i).out.length = 38 := by
    unfold BS.info
    rw [List.length_append, h3, h16]
    rfl
  refine ⟨by omega, ?_⟩
  have e2 : (BS.info ⟨[], 0, 0⟩ true i).align = BS.info ⟨[], 0, 0⟩ true i := by
    unfold BS.align
    exact if_pos rfl
  rw [e2, e]

theorem meth87s (a : Addr) (w : World) : (method 429 87 (.pointer (some a)) "Seek").run Tryz.prog w = .ok (165, .pointer (some a)) w := by kernel_rfl
theorem meth106s (a : Addr) (w : World) : (method 429 106 (.pointer (some a)) "Sum").run Tryz.prog w = .ok (171, .pointer (some a)) w := by kernel_rfl

set_option maxRecDepth 100000 in
set_option maxHeartbeats 4000000 in
theorem closeMem (B eb ib mb : Nat) (e : EncS) (i : InfoD) (m : MdS) (out : List UInt8) (pt : Nat) (s : Sk) (hty : s.ty = 87) (hv : s.val = .pointer (some ⟨mb, 0, none⟩)) (hio : i.ok) (hm : m.ok) (hmf : m.fit) (w : World)
    (henc : Bk w eb 111 (e.cells s)) (hstr : Bk w e.sb 105 #[.pointer (some ⟨ib, 0, none⟩), .slice none 0 0, .nilIface]) (hinfo : Bk w ib 123 i.cells) (hmd : Bk w e.md 170 m.cells) (hmem : MemAt B mb [] [] out w)
    (hol : 42 ≤ out.length ∧ out.length ≤ 70368744177664) (hB : B ≤ w.heap.size) (hBi : B ≤ ib) (hBm : B ≤ mb) (hr : (0 ≤ e.bmin ∧ e.bmin < 65536) ∧ (0 ≤ e.bmax ∧ e.bmax < 65536) ∧ (0 ≤ e.nsam ∧ e.nsam < 18446744073709551616)) :
    Calls Tryz.prog 19 #[.pointer (some ⟨eb, 0, none⟩)] w fun x w' => x = .returned .nilIface ∧ Below B w w' ∧ ∃ out', out'.length = out.length ∧ out'.drop 42 = out.drop 42 ∧ ∃ v p, Bk w' mb 89 #[v, p] ∧ w'.ownsRow B 5 1 v out'.length (bytesV out') := by
  have c1 := encCell1 henc
  rw [hty, hv] at c1
  have ta := ta87a
  have tb := ta87b
  have m1 := meth87s
  have m2 := meth106s
  have hml : memL [] [] out = out := by simp [memL]
  have helt := henc.lt
  go_enter Tryz.func19, Tryz.ntmps19
  go_wp2_with fail
  refine (memSeek B mb [] [] out 4 _ hmem (by rw [hml]; omega) (by rw [hml]; omega) hB).mono ?_
  rintro x w1 ⟨rfl, h1, k1⟩
  rw [hml] at h1
  obtain ⟨s', hs'⟩ : ∃ s', s' = skMem B mb (out.take 4) (out.drop 4) := ⟨_, rfl⟩
  have ok' : s'.Ok Tryz.prog 429 B := by
    rw [hs']
    exact skMem_ok B mb _ _ hBm (by simp; omega)
  have hn' : ¬ s'.own ib := by
    rw [hs']
    obtain ⟨_, v1, hb1, _⟩ := h1
    intro e1
    have e1 : ib = mb := e1
    exact Bk.ne (k1.bk hinfo (fun e2 => by
      obtain ⟨_, v2, hb2, _⟩ := hmem
      exact Bk.ne hinfo hb2 (by decide) e2) (by decide)) hb1 (by decide) e1
  have C0 : ClSt B eb s e ib i m s' w w1 := by
    obtain ⟨_, v2, hb2, _⟩ := hmem
    exact ⟨k1.bk henc (Bk.ne henc hb2 (by decide)) (by decide), k1.bk hstr (Bk.ne hstr hb2 (by decide)) (by decide), k1.bk hinfo (Bk.ne hinfo hb2 (by decide)) (by decide), k1.bk hmd (Bk.ne hmd hb2 (by decide)) (by decide), by rw [hs']; exact h1, k1.below⟩
  have HS' := Lib.hid hs'
  have HML := Lib.hid hml
  have HR := Lib.hid hr
  clear hs' hml h1 k1 henc hstr hinfo hmd hmem c1 helt hr
  obtain ⟨a0, a1, a2, a3, a4, a5, a6, a7, a8, a9⟩ := C0.cells
  obtain ⟨d0, d1, d2, d3, d4, d5, d6, d7⟩ := infoCells C0.info
  have f0 := C0.info.frozen 0
  have l1 := C0.enc.lt
  have l2 := C0.str.lt
  have l3 := C0.info.lt
  go_upto_region 6 with fail
  go_still_tail 13, (by kernel_rfl)
  change wpList _ _ _ _ _ w1.drew
  go_wp2_with fail
  have C1 := (C0.put ok' hn' hBi 0 _ (infoPut0 C0.info e.bmin)).drew ok'
  obtain ⟨w2, hw⟩ : ∃ x, x = (w1.setCell ⟨ib, 0, none⟩ (.int .u16 e.bmin)).drew := ⟨_, rfl⟩
  rw [← hw] at C1 ⊢
  clear hw C0 a0 a1 a2 a3 a4 a5 a6 a7 a8 a9 d0 d1 d2 d3 d4 d5 d6 d7 f0 l1 l2 l3
  obtain ⟨a0, a1, a2, a3, a4, a5, a6, a7, a8, a9⟩ := C1.cells
  obtain ⟨d0, d1, d2, d3, d4, d5, d6, d7⟩ := infoCells C1.info
  have f1 := C1.info.frozen 1
  have l1 := C1.enc.lt
  have l2 := C1.str.lt
  have l3 := C1.info.lt
  go_upto_region 7 with fail
  go_still_tail 13, (by kernel_rfl)
  change wpList _ _ _ _ _ w2.drew
  go_wp2_with fail
  have C2 := (C1.put ok' hn' hBi 1 _ (infoPut1 C1.info e.bmax)).drew ok'
  obtain ⟨w3, hw⟩ : ∃ x, x = (w2.setCell ⟨ib, 1, none⟩ (.int .u16 e.bmax)).drew := ⟨_, rfl⟩
  rw [← hw] at C2 ⊢
  clear hw C1 a0 a1 a2 a3 a4 a5 a6 a7 a8 a9 d0 d1 d2 d3 d4 d5 d6 d7 f1 l1 l2 l3
  obtain ⟨a0, a1, a2, a3, a4, a5, a6, a7, a8, a9⟩ := C2.cells
  obtain ⟨d0, d1, d2, d3, d4, d5, d6, d7⟩ := infoCells C2.info
  have f2 := C2.info.frozen 2
  have l1 := C2.enc.lt
  have l2 := C2.str.lt
  have l3 := C2.info.lt
  go_upto_region 8 with fail
  go_still_tail 13, (by kernel_rfl)
  change wpList _ _ _ _ _ w3.drew
  go_wp2_with fail
  have C3 := (C2.put ok' hn' hBi 2 _ (infoPut2 C2.info 0)).drew ok'
  obtain ⟨w4, hw⟩ : ∃ x, x = (w3.setCell ⟨ib, 2, none⟩ (.int .u32 0)).drew := ⟨_, rfl⟩
  rw [← hw] at C3 ⊢
  clear hw C2 a0 a1 a2 a3 a4 a5 a6 a7 a8 a9 d0 d1 d2 d3 d4 d5 d6 d7 f2 l1 l2 l3
  obtain ⟨a0, a1, a2, a3, a4, a5, a6, a7, a8, a9⟩ := C3.cells
  obtain ⟨d0, d1, d2, d3, d4, d5, d6, d7⟩ := infoCells C3.info
  have f3 := C3.info.frozen 3
  have l1 := C3.enc.lt
  have l2 := C3.str.lt
  have l3 := C3.info.lt
  go_upto_region 9 with fail
  go_still_tail 13, (by kernel_rfl)
  change wpList _ _ _ _ _ w4.drew
  go_wp2_with fail
  have C4 := (C3.put ok' hn' hBi 3 _ (infoPut3 C3.info 0)).drew ok'
  obtain ⟨w5, hw⟩ : ∃ x, x = (w4.setCell ⟨ib, 3, none⟩ (.int .u32 0)).drew := ⟨_, rfl⟩
  rw [← hw] at C4 ⊢
  clear hw C3 a0 a1 a2 a3 a4 a5 a6 a7 a8 a9 d0 d1 d2 d3 d4 d5 d6 d7 f3 l1 l2 l3
  obtain ⟨a0, a1, a2, a3, a4, a5, a6, a7, a8, a9⟩ := C4.cells
  obtain ⟨d0, d1, d2, d3, d4, d5, d6, d7⟩ := infoCells C4.info
  have f4 := C4.info.frozen 7
  have l1 := C4.enc.lt
  have l2 := C4.str.lt
  have l3 := C4.info.lt
  go_upto_region 10 with fail
  go_still_tail 13, (by kernel_rfl)
  change wpList _ _ _ _ _ w5.drew
  go_wp2_with fail
  have C5 := (C4.put ok' hn' hBi 7 _ (infoPut7 C4.info e.nsam)).drew ok'
  obtain ⟨w6, hw⟩ : ∃ x, x = (w5.setCell ⟨ib, 7, none⟩ (.int .u64 e.nsam)).drew := ⟨_, rfl⟩
  rw [← hw] at C5 ⊢
  clear hw C4 a0 a1 a2 a3 a4 a5 a6 a7 a8 a9 d0 d1 d2 d3 d4 d5 d6 d7 f4 l1 l2 l3
  have z6 : B ≤ w6.heap.size := Nat.le_trans hB C5.below.size
  refine (sumP e.md m hm hmf w6 C5.md).mono ?_
  rintro x w7 ⟨v7, xs, rfl, hxl, hxr, ho7, hb7⟩
  have C6 := C5.same ok' hb7 z6
  obtain ⟨g, cp, rfl, hg1, hg2, hg3, hg4, hrow⟩ := ownsRow_some ho7 (by omega)
  obtain ⟨i6, C6, ok6⟩ : ∃ i6 : InfoD, ClSt B eb s e ib i6 m s' w w7 ∧ i6.ok :=
    ⟨_, C6, ⟨HR.out.1, HR.out.2.1, ⟨by show (0 : Int) ≤ 0; decide, by show (0 : Int) < 4294967296; decide⟩, ⟨by show (0 : Int) ≤ 0; decide, by show (0 : Int) < 4294967296; decide⟩, hio.rate, hio.nch, hio.bps, HR.out.2.2, hio.sum⟩⟩
  clear C5 z6 ho7 hb7
  unfold maxLen at hg4
  have HXR := Lib.hid hxr
  clear hxr
  go_wp2_with fail
  go_loopg [104] 16 (fun k v wr => ∃ (j : Nat) (i2 : InfoD), k + j = 16 ∧ v = .int .i64 (j : Int) ∧ ClSt B eb s e ib i2 m s' w wr ∧ i2.ok ∧ Row wr g 5 (u8V xs))
  case atStart => exact ⟨0, i6, by omega, rfl, C6, ok6, hrow⟩
  case round =>
    obtain ⟨j, i2, hgk, rfl, C7, ok7, row7⟩ := hrel
    have HGK := Lib.hid hgk
    have hj : j ≤ 16 := by omega
    clear hgk C6 ok6 hrow
    by_cases hlt : j < 16
    · obtain ⟨a0, a1, a2, a3, a4, a5, a6, a7, a8, a9⟩ := C7.cells
      obtain ⟨y, dj⟩ := infoS8 C7.info ok7.sum j hlt
      have fj := C7.info.frozen (8 + j)
      have l1 := C7.enc.lt
      have l2 := C7.str.lt
      have l3 := C7.info.lt
      have ck := row7.cell j _ (u8V_get (by omega))
      have hxj := HXR.out (xs.getD j 0) (by
        have : xs.getD j 0 = xs[j]'(by omega) := by simp [show j < xs.length by omega]
        rw [this]
        exact List.getElem_mem _)
      have HXJ := Lib.hid hxj
      generalize xs.getD j 0 = x at ck HXJ
      clear hxj
      go_upto_region 15 with fail
      go_still_tail 15, (by kernel_rfl)
      change wpList _ _ _ _ _ wr.drew
      go_wp2_with fail
      have C8 := (C7.put ok' hn' hBi (8 + j) _ (infoPutS C7.info j x HXJ.out)).drew ok'
      have row8 := rowFar row7 C7.info (by decide) (8 + j) (.int .u8 x)
      go_roundg (16 - (j + 1))
      case measure => have := HGK.out; omega
      case rel => exact ⟨j + 1, _, by omega, by simp, C8, ⟨ok7.bmin, ok7.bmax, ok7.fmin, ok7.fmax, ok7.rate, ok7.nch, ok7.bps, ok7.nsam, by simpa using ok7.sum⟩, row8⟩
    · obtain ⟨a0, a1, a2, a3, a4, a5, a6, a7, a8, a9⟩ := C7.cells
      go_upto_region 17 with fail
      have z7 : B ≤ wr.heap.size := Nat.le_trans hB C7.below.size
      go_wp2_with fail
      refine (newWriter _ _ _).mono ?_
      rintro x w8 ⟨rfl, rfl⟩
      have C8 := C7.same ok' ((Below.refl _ wr).alloc (Nat.le_refl _) (.cells #[.iface 87 (.pointer (some ⟨mb, 0, none⟩)), .int .u8 0, .int .u8 0] 172)) z7
      have bw0 : BWr s' wr.heap.size ⟨[], 0, 0⟩ (wr.alloc (.cells #[.iface 87 (.pointer (some ⟨mb, 0, none⟩)), .int .u8 0, .int .u8 0] 172)) := by
        refine ⟨?_, C8.inv, fun h => by have := ok'.lt _ _ _ C7.inv h; omega, by simp [BS.ok]⟩
        have e1 : s'.ty = 87 ∧ s'.val = .pointer (some ⟨mb, 0, none⟩) := by
          rw [HS'.out]
          exact ⟨rfl, rfl⟩
        rw [e1.1, e1.2]
        exact Bk.new wr 172 _
      obtain ⟨bwb, hbwb⟩ : ∃ bwb, bwb = wr.heap.size := ⟨_, rfl⟩
      rw [← hbwb] at bw0
      have hbB : B ≤ bwb := by omega
      obtain ⟨w9, hw9⟩ : ∃ w9, w9 = wr.alloc (.cells #[.iface 87 (.pointer (some ⟨mb, 0, none⟩)), .int .u8 0, .int .u8 0] 172) := ⟨_, rfl⟩
      rw [← hw9] at bw0 C8 ⊢
      rw [← hbwb]
      clear hw9 a0 a1 a2 a3 a4 a5 a6 a7 a8 a9 row7 z7
      obtain ⟨a0, a1, a2, a3, a4, a5, a6, a7, a8, a9⟩ := C8.cells
      have l1 := C8.enc.lt
      have l2 := C8.str.lt
      have nib : ib ≠ bwb := by have := C7.info.lt; omega
      clear C7 hbwb
      have hcp : s'.cap = 140737488355328 - out.length := by
        rw [HS'.out]
        show 140737488355328 - ((out.take 4).length + (out.drop 4).length) = _
        have : (out.take 4).length + (out.drop 4).length = out.length := by simp; omega
        rw [this]
      have HCP := Lib.hid hcp
      clear hcp
      go_upto_region 18 with fail
      go_still_tail 17, (by kernel_rfl)
      change wpList _ _ _ _ _ w9.drew
      have hcapx : ([] : List UInt8).length + 1000 ≤ s'.cap := by
        rw [HCP.out]
        show 0 + 1000 ≤ _
        omega
      have hnb : ¬ bwOwn s' bwb ib := fun h => h.elim hn' nib
      have bw9 : BWr s' bwb ⟨[], 0, 0⟩ w9.drew := ⟨bw0.blk, ok'.drew bw0.inv, bw0.own, bw0.ok⟩
      go_wp2_with fail
      refine (streamInfo s' B bwb ib ok' hbB ⟨[], 0, 0⟩ rfl true i2 ok7 w9.drew bw9 C8.info hnb hcapx).mono ?_
      rintro x wa ⟨rfl, bwa, ka⟩
      have KA := C8.below.drew.trans ka.below
      have hza : ({ out := [], c := 0, n := 0 } : BS).ok := bw0.ok
      have hbs := bwa.ok
      clear a0 a1 a2 a3 a4 a5 a6 a7 a8 a9 l1 l2
      have HSZ := Lib.hid (infoLen i2 ok7.sum)
      have hka : ∀ (t : TypeId) (cs : Array Value) (q : Nat), Bk w9 q t cs → t ≠ 89 → t ≠ 172 → t ≠ 5 → Bk wa q t cs := fun t cs q hb h1 h2 h3 =>
        ka.bk (w := w9.drew) hb (fun h => h.elim (fun e1 => by
          obtain ⟨_, v1, hb1, _⟩ : MemAt B mb (out.take 4) (out.drop 4) [] w9 := by
            have := C8.inv
            rw [HS'.out] at this
            exact this
          have e2 : q = mb := by
            rw [HS'.out] at e1
            exact e1
          exact Bk.ne hb hb1 h1 e2) (fun e1 => Bk.ne hb bw0.blk h2 e1)) h3
      have ce := hka 111 _ eb C8.enc (by decide) (by decide) (by decide)
      have c1 := encCell1 ce
      rw [hty, hv] at c1
      have l1 := ce.lt
      go_wp2_with (go_at_call 32; refine (align s' B bwb ok' hbB _ _ bwa (by rw [HCP.out]; have := (HSZ.out).1; omega)).mono ?_; rintro x wb ⟨⟨k, rfl⟩, bwc, kb⟩; refine Hid.out ?_)
      refine Lib.hid ?_
      have cf := kb.bk ce (fun h => h.elim (fun e1 => by
          obtain ⟨_, v1, hb1, _⟩ : MemAt B mb (out.take 4) (out.drop 4) (BS.info ⟨[], 0, 0⟩ true i2).out wa := by
            have := bwa.inv
            rw [HS'.out] at this
            exact this
          have e2 : eb = mb := by
            rw [HS'.out] at e1
            exact e1
          exact Bk.ne ce hb1 (by decide) e2) (fun e1 => Bk.ne ce bwa.blk (by decide) e1)) (by decide)
      clear c1 l1
      have c1 := encCell1 cf
      rw [hty, hv] at c1
      have l1 := cf.lt
      go_wp2_with fail
      go_ret
      obtain ⟨_, v1, hb1, ho1⟩ : MemAt B mb (out.take 4) (out.drop 4) (BS.info ⟨[], 0, 0⟩ true i2).align.out wb := by
        have := bwc.inv
        rw [HS'.out] at this
        exact this
      have hl38 := (HSZ.out).2
      have hlen : (memL (out.take 4) (out.drop 4) (BS.info ⟨[], 0, 0⟩ true i2).align.out).length = out.length := by
        rw [memL_len]
        simp
        omega
      refine ⟨rfl, KA.trans kb.below, memL (out.take 4) (out.drop 4) (BS.info ⟨[], 0, 0⟩ true i2).align.out, hlen, ?_, v1, _, hb1, ho1⟩
      unfold memL
      rw [hl38, List.drop_drop]
      have e4 : (out.take 4 ++ (BS.info ⟨[], 0, 0⟩ true i2).align.out).length = 42 := by
        simp
        omega
      rw [← e4, List.drop_left]
      simp [e4]
end Go.Proofs.YtlabcknoooaefaaGreatDoor
