/-
  A NEW ENCODER: md5.New, NewEncoder, EnablePredictionAnalysis.
-/
import Derived.Test.YtlabcknoooaefaaGreatDoorZBw
import Derived.Lib.SlBytesConst
namespace Go.Proofs.YtlabcknoooaefaaGreatDoor
open Go.RowKit
set_option linter.unusedVariables false

/-- The cells of a digest: four words, 64 bytes, how many of them are taken, how many there were. -/
structure MdS where
  a : Int
  b : Int
  c : Int
  d : Int
  xs : List Int
  nx : Nat
  ln : Int

def MdS.cells (m : MdS) : Array Value :=
  ([Value.int .u32 m.a, .int .u32 m.b, .int .u32 m.c, .int .u32 m.d] ++ m.xs.map (Value.int .u8) ++ [Value.int .i64 (m.nx : Int), .int .u64 m.ln]).toArray

structure MdS.ok (m : MdS) : Prop where
  a : 0 ≤ m.a ∧ m.a < 4294967296
  b : 0 ≤ m.b ∧ m.b < 4294967296
  c : 0 ≤ m.c ∧ m.c < 4294967296
  d : 0 ≤ m.d ∧ m.d < 4294967296
  xs : m.xs.length = 64
  xr : ∀ x ∈ m.xs, 0 ≤ x ∧ x < 256
  nx : m.nx < 64
  ln : 0 ≤ m.ln ∧ m.ln < 18446744073709551616

def mdNew : MdS := { a := 1732584193, b := 4023233417, c := 2562383102, d := 271733878, xs := List.replicate 64 0, nx := 0, ln := 0 }

theorem mdNew_ok : mdNew.ok := by
  constructor <;> (first | decide | (intro x hx; simp [mdNew] at hx; omega) | simp [mdNew])

set_option maxRecDepth 100000 in
theorem md5New (w : World) :
    Calls Tryz.prog 27 #[] w fun e w' => e = .returned (.pointer (some ⟨w.heap.size, 0, none⟩)) ∧ w.alloc (.cells mdNew.cells 170) = w' := by
  go_enter Tryz.func27, Tryz.ntmps27
  go_wp2
  go_end0
  go_wp2
  go_ret
  refine ⟨rfl, ?_⟩
  refine congrArg (fun x => w.alloc (.cells x 170)) ?_
  kernel_rfl

theorem enable (eb : Nat) (b : Bool) (cs : Array Value) (w : World) (h : Bk w eb 111 cs) (hc : cs.size = 10) :
    Calls Tryz.prog 15 #[.pointer (some ⟨eb, 0, none⟩), .bool b] w fun e w' => e = .returned (.tuple #[]) ∧ w.setCell ⟨eb, 9, none⟩ (.bool b) = w' := by
  have f := h.frozen 9
  obtain ⟨v, hv⟩ : ∃ v, w.cell? ⟨eb, 9, none⟩ = some v := by
    rw [h.cell]
    exact ⟨_, Array.getElem?_eq_getElem (by omega)⟩
  go_enter Tryz.func15, Tryz.ntmps15
  go_wp2
  go_end0
  exact ⟨rfl, rfl⟩

/-- An encoder as it is made: its stream, the place that it writes to, its sum, and its counts. -/
structure EncS where
  sb : Nat
  md : Nat
  bmin : Int
  bmax : Int
  nsam : Int
  cur : Int
  ana : Bool

def EncS.cells (e : EncS) (s : Sk) : Array Value :=
  #[.pointer (some ⟨e.sb, 0, none⟩), .iface s.ty s.val, .int .u16 e.bmin, .int .u16 e.bmax, .int .u32 0, .int .u32 0, .iface 106 (.pointer (some ⟨e.md, 0, none⟩)), .int .u64 e.nsam, .int .u64 e.cur, .bool e.ana]

theorem convConst (W : World) (C : Array Value) (N n c : Nat) (hN : N = W.heap.size) : (convert 23 23 (.slice (some ⟨N, 0, none⟩) n c)).run Tryz.prog (W.alloc (.cells C 5)) = .ok (.slice (some ⟨N, 0, none⟩) n c) (W.alloc (.cells C 5 (C.size, C.size + 1))) := by
  subst hN
  exact Lib.run_convert_bytes_const W 23 5 C n c Tryz.underlying23 Tryz.underlying5

theorem rdNew (W : World) (C : List UInt8) (f : Nat × Nat) (N : Nat) (hN : N = W.heap.size) : Rd (W.alloc (.cells (bytesV C).toArray 5 f)) ⟨N, 0, none⟩ C := by
  intro j b hj
  subst hN
  have e : (⟨W.heap.size, 0, none⟩ : Addr).add j = ⟨W.heap.size, j, none⟩ := by
    unfold Addr.add
    split
    · rename_i h; subst h; rfl
    · simp
  rw [e]
  have h1 : (W.alloc (.cells (bytesV C).toArray 5 f)).heap[W.heap.size]? = some (.cells (bytesV C).toArray 5 f) := heap_alloc_new W _
  rw [cell_of_row _ _ j _ 5 f h1]
  simp [bytesV, hj]

set_option maxRecDepth 100000 in
set_option maxHeartbeats 1000000 in
theorem newEncoder (s : Sk) (B ib : Nat) (hs : s.Ok Tryz.prog 429 B) (i : InfoD) (hio : i.ok) (out : List UInt8) (w : World) (hB : B ≤ w.heap.size) (hinv : s.inv out w) (hi : Bk w ib 123 i.cells) (hni : ¬ s.own ib) (hc : out.length + 2000 ≤ s.cap) :
    Calls Tryz.prog 13 #[.iface s.ty s.val, .pointer (some ⟨ib, 0, none⟩), .slice none 0 0] w fun e w' => ∃ eb sb md, e = .returned (.tuple #[.pointer (some ⟨eb, 0, none⟩), .nilIface]) ∧
      Bk w' eb 111 (EncS.cells ⟨sb, md, 0, 0, 0, 0, true⟩ s) ∧ Bk w' sb 105 #[.pointer (some ⟨ib, 0, none⟩), .slice none 0 0, .nilIface] ∧ Bk w' md 170 mdNew.cells ∧ w.heap.size ≤ eb ∧ w.heap.size ≤ sb ∧ w.heap.size ≤ md ∧ ¬ s.own eb ∧ ¬ s.own sb ∧ ¬ s.own md ∧
      s.inv ((BS.info ⟨out ++ [102, 76, 97, 67], 0, 0⟩ true i).align.out) w' ∧ Keep B s.own w w' := by
  have hnw : ∀ k, w.heap.size ≤ k → ¬ s.own k := fun k hk e => by have := hs.lt _ _ _ hinv e; omega
  have hcv := convConst
  go_enter Tryz.func13, Tryz.ntmps13
  go_wp2_with fail
  refine (md5New _).mono ?_
  rintro e w1 ⟨rfl, rfl⟩
  go_wp2_with fail
  refine (newWriter _ _ _).mono ?_
  rintro e w1 ⟨rfl, rfl⟩
  go_wp2_with fail
  have k1 : Keep B s.own w _ := ((((Keep.refl B s.own w).alloc hB (.cells #[.pointer (some ⟨ib, 0, none⟩), .slice none 0 0, .nilIface] 105)).alloc (by simp; omega) (.cells mdNew.cells 170)).alloc (by simp; omega) (.cells (EncS.cells ⟨w.heap.size, w.heap.size + 1, 0, 0, 0, 0, true⟩ s) 111)).alloc (by simp; omega) (.cells #[.iface s.ty s.val, .int .u8 0, .int .u8 0] 172)
  have i1 := hs.alloc (hs.alloc (hs.alloc (hs.alloc hinv (.cells #[.pointer (some ⟨ib, 0, none⟩), .slice none 0 0, .nilIface] 105)) (.cells mdNew.cells 170)) (.cells (EncS.cells ⟨w.heap.size, w.heap.size + 1, 0, 0, 0, 0, true⟩ s) 111)) (.cells #[.iface s.ty s.val, .int .u8 0, .int .u8 0] 172)
  have s1 := (((Bk.newAt w 105 #[.pointer (some ⟨ib, 0, none⟩), .slice none 0 0, .nilIface] w.heap.size rfl).alloc (.cells mdNew.cells 170)).alloc (.cells (EncS.cells ⟨w.heap.size, w.heap.size + 1, 0, 0, 0, 0, true⟩ s) 111)).alloc (.cells #[.iface s.ty s.val, .int .u8 0, .int .u8 0] 172)
  have m1 := ((Bk.newAt (w.alloc (.cells #[.pointer (some ⟨ib, 0, none⟩), .slice none 0 0, .nilIface] 105)) 170 mdNew.cells (w.heap.size + 1) (by simp)).alloc (.cells (EncS.cells ⟨w.heap.size, w.heap.size + 1, 0, 0, 0, 0, true⟩ s) 111)).alloc (.cells #[.iface s.ty s.val, .int .u8 0, .int .u8 0] 172)
  have e1 := (Bk.newAt ((w.alloc (.cells #[.pointer (some ⟨ib, 0, none⟩), .slice none 0 0, .nilIface] 105)).alloc (.cells mdNew.cells 170)) 111 (EncS.cells ⟨w.heap.size, w.heap.size + 1, 0, 0, 0, 0, true⟩ s) (w.heap.size + 1 + 1) (by simp)).alloc (.cells #[.iface s.ty s.val, .int .u8 0, .int .u8 0] 172)
  have b1 := Bk.newAt (((w.alloc (.cells #[.pointer (some ⟨ib, 0, none⟩), .slice none 0 0, .nilIface] 105)).alloc (.cells mdNew.cells 170)).alloc (.cells (EncS.cells ⟨w.heap.size, w.heap.size + 1, 0, 0, 0, 0, true⟩ s) 111)) 172 #[.iface s.ty s.val, .int .u8 0, .int .u8 0] (w.heap.size + 1 + 1 + 1) (by simp)
  have j1 := (((hi.alloc (.cells #[.pointer (some ⟨ib, 0, none⟩), .slice none 0 0, .nilIface] 105)).alloc (.cells mdNew.cells 170)).alloc (.cells (EncS.cells ⟨w.heap.size, w.heap.size + 1, 0, 0, 0, 0, true⟩ s) 111)).alloc (.cells #[.iface s.ty s.val, .int .u8 0, .int .u8 0] 172)
  refine (bwrite s B (w.heap.size + 1 + 1 + 1) hs (by omega) ⟨out, 0, 0⟩ rfl [102, 76, 97, 67] _ 4 4 _ ⟨b1.alloc _, hs.alloc i1 _, hnw _ (by omega), by simp [BS.ok]⟩ (rdNew _ [102, 76, 97, 67] _ _ (by simp)) rfl (by omega) (by omega) (by omega) (hnw _ (by simp only; omega)) (Sk.Apart.newAt i1 _ (by simp) _) (by simp only; omega)).mono ?_
  rintro e w2 ⟨rfl, hb2, hk2⟩
  obtain ⟨Q, hQ⟩ : ∃ Q : World, Q = w2 := ⟨_, rfl⟩
  have hk3 : Keep B (bwOwn s (w.heap.size + 1 + 1 + 1)) w w2 := ((k1.mono fun _ => Or.inl).alloc (by simp; omega) _).trans hk2
  have hnb : ∀ k, k ≠ w.heap.size + 1 + 1 + 1 → ¬ s.own k → ¬ bwOwn s (w.heap.size + 1 + 1 + 1) k := fun k h1 h2 e => e.elim h2 h1
  have hib : ib < w.heap.size := hi.lt
  have n1 := hnb ib (by omega) hni
  have n2 := hnb (w.heap.size) (by omega) (hnw _ (by omega))
  have n3 := hnb (w.heap.size + 1) (by omega) (hnw _ (by omega))
  have n4 := hnb (w.heap.size + 1 + 1) (by omega) (hnw _ (by omega))
  have s2 := hk2.bk (s1.alloc _) n2 (by decide)
  have m2 := hk2.bk (m1.alloc _) n3 (by decide)
  have e2 := hk2.bk (e1.alloc _) n4 (by decide)
  have j2 := hk2.bk (j1.alloc _) n1 (by decide)
  clear s1 m1 e1 j1 k1 i1 hk2 b1
  go_wp2_with fail
  have hz2 : ¬ (0 : Int) == 1 := by decide
  refine (streamInfo s B (w.heap.size + 1 + 1 + 1) ib hs (by omega) _ rfl true i hio _ hb2 j2 n1 (by simp; omega)).mono ?_
  rintro e w3 ⟨rfl, hb3, hk4⟩
  have s3 := hk4.bk s2 n2 (by decide)
  have m3 := hk4.bk m2 n3 (by decide)
  have e3 := hk4.bk e2 n4 (by decide)
  have hk5 := hk3.trans hk4
  clear s2 m2 e2 j2 hk3 hk4
  have hlen : (BS.info ⟨out ++ [102, 76, 97, 67], 0, 0⟩ true i).out.length = out.length + 4 + 22 + 16 := by
    have := (BS.nums_len ⟨out ++ [102, 76, 97, 67], 0, 0⟩ (by simp [BS.ok]) rfl true i).2.2
    simp only [BS.info, List.length_append, hio.sum, this, List.length_cons, List.length_nil]
  go_wp2_with fail
  refine wp_loop_once ?_
  go_wp2_with fail
  refine (align s B (w.heap.size + 1 + 1 + 1) hs (by omega) _ _ hb3 (by rw [hlen]; omega)).mono ?_
  rintro e w4 ⟨⟨kk, rfl⟩, hb4, hk6⟩
  have s4 := hk6.bk s3 n2 (by decide)
  have m4 := hk6.bk m3 n3 (by decide)
  have e4 := hk6.bk e3 n4 (by decide)
  have hk7 := hk5.trans hk6
  clear s3 m3 e3 hk5 hk6
  go_wp2_with fail
  go_ret2
  refine ⟨_, _, _, rfl, e4, s4, m4, by omega, by omega, by omega, hnw _ (by omega), hnw _ (by omega), hnw _ (by omega), hb4.inv, ?_⟩
  exact ⟨hk7.below, fun k o hk hs' hb => hk7.blk k o hk (fun e => e.elim hs' (fun e => by have := (Array.getElem?_eq_some_iff.1 hk).1; omega)) hb⟩
end Go.Proofs.YtlabcknoooaefaaGreatDoor
