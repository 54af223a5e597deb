/-
  NUMBERS CODED AS UTF-8 HAS THEM, through a bit writer that stands at a byte's border; numbers of one and of two bytes.
-/
import Derived.Test.YtlabcknoooaefaaGreatDoorZBw
import Derived.Deep.RegionWith
namespace Go.Proofs.YtlabcknoooaefaaGreatDoor
open Go.RowKit
set_option linter.unusedVariables false

theorem BWr.alloc {s : Sk} {B bw : Nat} {st : BS} {w : World} (hs : s.Ok Tryz.prog 429 B) (h : BWr s bw st w) (o : Obj) : BWr s bw st (w.alloc o) := ⟨h.blk.alloc o, hs.alloc h.inv o, h.own, h.ok⟩
theorem BWr.drew {s : Sk} {B bw : Nat} {st : BS} {w : World} (hs : s.Ok Tryz.prog 429 B) (h : BWr s bw st w) : BWr s bw st w.drew := ⟨h.blk.drew, hs.drew h.inv, h.own, h.ok⟩
theorem BWr.same {s : Sk} {B bw : Nat} {st : BS} {w w' : World} (hs : s.Ok Tryz.prog 429 B) (h : BWr s bw st w) (hb : Below w.heap.size w w') : BWr s bw st w' := ⟨Bk.below h.blk hb h.blk.lt, hs.same h.inv hb, h.own, h.ok⟩
theorem BWr.fresh {s : Sk} {B bw : Nat} {st : BS} {w : World} (hs : s.Ok Tryz.prog 429 B) (h : BWr s bw st w) {k : Nat} (hk : w.heap.size ≤ k) : ¬ bwOwn s bw k := fun e => e.elim (fun e => by have := hs.lt _ _ _ h.inv e; omega) (fun e => by have := h.blk.lt; omega)

theorem rdCells (W : World) (t : TypeId) (C : List UInt8) (f : Nat × Nat) (N : Nat) (hN : N = W.heap.size) : Rd (W.alloc (.cells (bytesV C).toArray t f)) ⟨N, 0, none⟩ C := by
  intro j b hj
  subst hN
  have e : (⟨W.heap.size, 0, none⟩ : Addr).add j = ⟨W.heap.size, j, none⟩ := by
    unfold Addr.add
    split
    · rename_i h; subst h; rfl
    · simp
  rw [e]
  have h1 : (W.alloc (.cells (bytesV C).toArray t f)).heap[W.heap.size]? = some (.cells (bytesV C).toArray t f) := heap_alloc_new W _
  rw [cell_of_row _ _ j _ t f h1]
  simp [bytesV, hj]

theorem byteV (b : Int) (hb : 0 ≤ b ∧ b < 256) : #[Value.int .u8 b] = (bytesV [UInt8.ofNat b.toNat]).toArray := by
  have e : ((UInt8.ofNat b.toNat).toNat : Int) = b := by simp; omega
  show _ = #[Value.int .u8 ((UInt8.ofNat b.toNat).toNat : Int)]
  rw [e]

theorem meth112 (a : Addr) (w : World) : (method 429 112 (.pointer (some a)) "Write").run Tryz.prog w = .ok (29, .pointer (some a)) w := by kernel_rfl
theorem nil112 (a : Addr) (w : World) : (nilAhead 429 112 (.pointer (some a)) "Write").run Tryz.prog w = .ok (some false) w := by kernel_rfl

set_option maxRecDepth 100000 in
set_option maxHeartbeats 1000000 in
theorem oneByte (s : Sk) (B bw : Nat) (hs : s.Ok Tryz.prog 429 B) (hB : B ≤ bw) (st : BS) (h0 : st.n = 0) (b : Int) (hb : 0 ≤ b ∧ b < 256) (w : World) (h : BWr s bw st w) (hc : st.out.length + 1 ≤ s.cap) :
    Calls Tryz.prog 99 #[.iface 112 (.pointer (some ⟨bw, 0, none⟩)), .int .u8 b] w fun e w' => e = .returned .nilIface ∧ BWr s bw ⟨st.out ++ [UInt8.ofNat b.toNat], st.c, 0⟩ w' ∧ Keep B (bwOwn s bw) w w' := by
  have m1 := meth112
  have n1 := nil112
  have hmf : ∀ (fn : Fn) (first cap : Array Value) (w : World), (Instr.makeFunc fn first cap).run Tryz.prog w = .ok (.func fn first cap) w := fun _ _ _ _ => rfl
  have hz : B ≤ w.heap.size := Nat.le_trans hB (Nat.le_of_lt h.blk.lt)
  go_enter Tryz.func99, Tryz.ntmps99
  go_wp2
  have hw1 := (h.alloc hs (.cells #[.int .u8 b] 266)).drew hs
  have hr1 : Rd (w.alloc (.cells #[.int .u8 b] 266)).drew ⟨w.heap.size, 0, none⟩ [UInt8.ofNat b.toNat] := by
    rw [byteV b hb]
    exact rdCells w 266 _ (0, 0) _ rfl
  have ho : ¬ s.own w.heap.size := fun e => by have := hs.lt _ _ _ h.inv e; omega
  go_region_with (go_at_call 29; refine (bwrite s B bw hs hB st h0 [UInt8.ofNat b.toNat] _ 1 1 _ hw1 hr1 rfl (by omega) (by omega) (by omega) ho ((Sk.Apart.alloc h.inv (.cells #[.int .u8 b] 266)).on fun _ _ hk _ => hk) hc).mono ?_; rintro e w' ⟨rfl, h1, h2⟩)
  go_wp2
  go_ret
  exact ⟨rfl, h1, (((Keep.refl B (bwOwn s bw) w).alloc hz _).drew).trans h2⟩

set_option maxRecDepth 100000 in
set_option maxHeartbeats 1000000 in
theorem utf8Short (s : Sk) (B bw : Nat) (hs : s.Ok Tryz.prog 429 B) (hB : B ≤ bw) (st : BS) (h0 : st.n = 0) (x : Int) (hx : 0 ≤ x ∧ x ≤ 127) (w : World) (h : BWr s bw st w) (hc : st.out.length + 8 ≤ s.cap) :
    Calls Tryz.prog 70 #[.iface 112 (.pointer (some ⟨bw, 0, none⟩)), .int .u64 x] w fun e w' => e = .returned .nilIface ∧ BWr s bw ⟨st.out ++ [UInt8.ofNat x.toNat], st.c, 0⟩ w' ∧ Keep B (bwOwn s bw) w w' := by
  go_enter Tryz.func70, Tryz.ntmps70
  go_wp2_with (go_at_call 99; refine (oneByte s B bw hs hB st h0 x (by omega) _ h (by omega)).mono ?_; rintro e w' ⟨rfl, h1, h2⟩)
  go_ret
  exact ⟨rfl, h1, h2⟩

/-- A number below 2048 as it is coded. -/
def utf8L (x : Int) : List UInt8 :=
  if x ≤ 127 then [UInt8.ofNat x.toNat] else [UInt8.ofNat (bits .or .u64 192 (bits .and .u64 (x / 64) 31) % 256).toNat, UInt8.ofNat (bits .or .u64 128 (bits .and .u64 x 63) % 256).toNat]

theorem utf8L_len (x : Int) : (utf8L x).length ≤ 2 := by unfold utf8L; split <;> simp

set_option maxRecDepth 100000 in
set_option maxHeartbeats 1000000 in
theorem utf8Any (s : Sk) (B bw : Nat) (hs : s.Ok Tryz.prog 429 B) (hB : B ≤ bw) (st : BS) (h0 : st.n = 0) (x : Int) (hx : 0 ≤ x ∧ x ≤ 2047) (w : World) (h : BWr s bw st w) (hc : st.out.length + 8 ≤ s.cap) :
    Calls Tryz.prog 70 #[.iface 112 (.pointer (some ⟨bw, 0, none⟩)), .int .u64 x] w fun e w' => e = .returned .nilIface ∧ BWr s bw ⟨st.out ++ utf8L x, st.c, 0⟩ w' ∧ Keep B (bwOwn s bw) w w' := by
  by_cases h127 : x ≤ 127
  · unfold utf8L
    rw [if_pos h127]
    exact utf8Short s B bw hs hB st h0 x ⟨hx.1, h127⟩ w h hc
  · have hx' : 128 ≤ x ∧ x ≤ 2047 := by omega
    unfold utf8L
    rw [if_neg h127]
    clear hx h127
    go_enter Tryz.func70, Tryz.ntmps70
    go_wp2_with fail
    refine (oneByte s B bw hs hB st h0 _ (by omega) _ h (by omega)).mono ?_
    rintro e w1 ⟨rfl, h1, h2⟩
    go_wp2_with fail
    refine wp_loop_rounds 2 ?_
    rw [rounds_succ]
    go_wp2_with fail
    refine (oneByte s B bw hs hB _ rfl _ (by omega) _ h1 (by simp; omega)).mono ?_
    rintro e w2 ⟨rfl, h3, h4⟩
    go_wp2_with fail
    rw [rounds_succ]
    go_wp2_with fail
    go_ret
    exact ⟨rfl, by simpa using h3, h2.trans h4⟩

theorem size16 (w : World) : Calls Tryz.prog 81 #[] w fun e w' => e = .returned (.int .i64 2) ∧ w = w' := by
  go_enter Tryz.func81, Tryz.ntmps81
  go_wp2_with fail
  refine wp_loop_rounds 3 ?_
  rw [rounds_succ]
  go_wp2_with fail
  rw [rounds_succ]
  go_wp2_with fail
  rw [rounds_succ]
  go_wp2_with fail
  go_ret
  exact ⟨rfl, rfl⟩

theorem size8 (w : World) : Calls Tryz.prog 100 #[] w fun e w' => e = .returned (.int .i64 1) ∧ w = w' := by
  go_enter Tryz.func100, Tryz.ntmps100
  go_wp2_with fail
  refine wp_loop_rounds 2 ?_
  rw [rounds_succ]
  go_wp2_with fail
  rw [rounds_succ]
  go_wp2_with fail
  go_ret
  exact ⟨rfl, rfl⟩

set_option maxRecDepth 100000 in
set_option maxHeartbeats 1000000 in
theorem write8 (s : Sk) (B : Nat) (hs : s.Ok Tryz.prog 429 B) (out : List UInt8) (x : Int) (hx : 0 ≤ x ∧ x < 256) (w : World) (h : s.inv out w) (hB : B ≤ w.heap.size) (hc : out.length + 1 ≤ s.cap) :
    Calls Tryz.prog 71 #[.iface s.ty s.val, .int .u8 x] w fun e w' => e = .returned .nilIface ∧ s.inv (out ++ [UInt8.ofNat x.toNat]) w' ∧ Keep B s.own w w' := by
  have hmk : ∀ w, (Instr.makeSlice 23 (.int .i64 1) (.int .i64 1)).run Tryz.prog w = .ok (.slice (some ⟨w.heap.size, 0, none⟩) 1 1) (w.alloc (.cells #[.int .u8 0] 5)) := fun _ => by kernel_rfl
  obtain ⟨fn, rv, hmeth, henter, hcall⟩ := hs.call
  have HC := Lib.hid hcall
  clear hcall
  go_enter Tryz.func71, Tryz.ntmps71
  go_wp2_with (go_at_call 100; refine (size8 _).mono ?_; rintro e w' ⟨rfl, rfl⟩)
  refine wp_loop_rounds 2 ?_
  rw [rounds_succ]
  go_wp2_with fail
  rw [rounds_succ]
  go_wp2_with fail
  have ho : ¬ s.own w.heap.size := fun e => by have := hs.lt _ _ _ h e; omega
  have hr1 : Rd (w.alloc (.cells #[.int .u8 x] 5)) ⟨w.heap.size, 0, none⟩ [UInt8.ofNat x.toNat] := by
    rw [byteV x hx]
    exact rdCells w 5 _ (0, 0) _ rfl
  refine (HC.out out [UInt8.ofNat x.toNat] _ 1 1 _ (hs.alloc h _) hr1 rfl (by omega) (by omega) (by omega) ho (Sk.Apart.alloc h _) (by simp; omega) hc).mono ?_
  rintro e w2 ⟨rfl, h1, h2⟩
  go_wp2_with fail
  go_ret
  exact ⟨rfl, h1, ((Keep.refl B s.own w).alloc hB _).trans h2⟩

/-- A number of two bytes, the higher one first. -/
def be16 (x : Int) : List UInt8 := [UInt8.ofNat (x / 256).toNat, UInt8.ofNat (x % 256).toNat]

set_option maxRecDepth 100000 in
set_option maxHeartbeats 1000000 in
theorem write16 (s : Sk) (B : Nat) (hs : s.Ok Tryz.prog 429 B) (out : List UInt8) (x : Int) (hx : 0 ≤ x ∧ x < 65536) (w : World) (h : s.inv out w) (hB : B ≤ w.heap.size) (hc : out.length + 2 ≤ s.cap) :
    Calls Tryz.prog 44 #[.iface s.ty s.val, .int .u16 x] w fun e w' => e = .returned .nilIface ∧ s.inv (out ++ be16 x) w' ∧ Keep B s.own w w' := by
  have hmk : ∀ w, (Instr.makeSlice 23 (.int .i64 2) (.int .i64 2)).run Tryz.prog w = .ok (.slice (some ⟨w.heap.size, 0, none⟩) 2 2) (w.alloc (.cells #[.int .u8 0, .int .u8 0] 5)) := fun _ => by kernel_rfl
  obtain ⟨fn, rv, hmeth, henter, hcall⟩ := hs.call
  have HC := Lib.hid hcall
  clear hcall
  go_enter Tryz.func44, Tryz.ntmps44
  go_wp2_with (go_at_call 81; refine (size16 _).mono ?_; rintro e w' ⟨rfl, rfl⟩)
  refine wp_loop_rounds 3 ?_
  rw [rounds_succ]
  go_wp2_with fail
  rw [rounds_succ]
  go_wp2_with fail
  rw [rounds_succ]
  go_wp2_with fail
  have ho : ¬ s.own w.heap.size := fun e => by have := hs.lt _ _ _ h e; omega
  have hr1 : Rd (w.alloc (.cells #[.int .u8 (x / 256), .int .u8 (x % 256)] 5)) ⟨w.heap.size, 0, none⟩ (be16 x) := by
    have e : #[Value.int .u8 (x / 256), .int .u8 (x % 256)] = (bytesV (be16 x)).toArray := by
      have e1 : ((UInt8.ofNat (x / 256).toNat).toNat : Int) = x / 256 := by simp; omega
      have e2 : ((UInt8.ofNat (x % 256).toNat).toNat : Int) = x % 256 := by simp; omega
      show _ = #[Value.int .u8 ((UInt8.ofNat (x / 256).toNat).toNat : Int), Value.int .u8 ((UInt8.ofNat (x % 256).toNat).toNat : Int)]
      rw [e1, e2]
    rw [e]
    exact rdCells w 5 _ (0, 0) _ rfl
  refine (HC.out out (be16 x) _ 2 2 _ (hs.alloc h _) hr1 rfl (by omega) (by omega) (by omega) ho (Sk.Apart.alloc h _) (by simp; omega) hc).mono ?_
  rintro e w2 ⟨rfl, h1, h2⟩
  go_wp2_with fail
  go_ret
  exact ⟨rfl, h1, ((Keep.refl B s.own w).alloc hB _).trans h2⟩
end Go.Proofs.YtlabcknoooaefaaGreatDoor

/-
  A FRAME's HEADER, in its parts: the size, the rate, the channels, the bits of a sample.
-/
namespace Go.Proofs.YtlabcknoooaefaaGreatDoor
open Go.RowKit
set_option linter.unusedVariables false

/-- A size's bits, and how many stand behind the header. -/
def szBits (z : Int) : Int := if z = 192 then 1 else if z = 256 then 8 else 6
def szMore (z : Int) : Int := if z = 192 then 0 else if z = 256 then 0 else 8

theorem bitsOne (w : World) : (callFunc 128 #[.float .f64 4607182418800017408]).run Tryz.prog w = .ok (.value (.int .u64 4607182418800017408)) w := by kernel_rfl
theorem floatOne (w : World) : (callFunc 129 #[.int .u64 (bits .andNot .u64 4607182418800017408 9223372036854775808)]).run Tryz.prog w = .ok (.value (.float .f64 4607182418800017408)) w := by kernel_rfl
theorem ord1 : (FloatKind.f64.format.order 4607182418800017408 0 == some Ordering.eq) = false := by kernel_rfl
theorem ord2 : (FloatKind.f64.format.order 4607182418800017408 4503599627370496 == some Ordering.lt) = false := by kernel_rfl
theorem ord3 : (FloatKind.f64.format.order 4607182418800017408 9218868437227405311 == some Ordering.gt) = false := by kernel_rfl
theorem ord4 : (FloatKind.f64.format.order 4607182418800017408 4607182418800017408 != some Ordering.eq) = false := by kernel_rfl
theorem fOne : floatOfInt FloatKind.f64 1 = 4607182418800017408 := by kernel_rfl
theorem fNought : floatOfInt FloatKind.f64 0 = 0 := by kernel_rfl
theorem convNought (w : World) : (convert 249 26 (.float .f64 0)).run Tryz.prog w = .ok (.int .u64 0) w := by kernel_rfl
theorem ord5 : (FloatKind.f64.format.order 4602678819172646912 4602678819172646912 == some Ordering.eq) = true := by kernel_rfl

set_option maxRecDepth 100000 in
theorem absOne (w : World) : Calls Tryz.prog 132 #[.float .f64 4607182418800017408] w fun e w' => e = .returned (.float .f64 4607182418800017408) ∧ w = w' := by
  have x1 := bitsOne
  have x2 := floatOne
  go_enter Tryz.func132, Tryz.ntmps132
  go_wp2
  go_ret
  exact ⟨rfl, rfl⟩

set_option maxRecDepth 100000 in
theorem isInfOne (w : World) : Calls Tryz.prog 125 #[.float .f64 4607182418800017408, .int .i64 0] w fun e w' => e = .returned (.bool false) ∧ w = w' := by
  have o3 := ord3
  go_enter Tryz.func125, Tryz.ntmps125
  go_wp2_with (go_at_call 132; refine (absOne _).mono ?_; rintro e w' ⟨rfl, rfl⟩)
  go_ret
  exact ⟨rfl, rfl⟩

set_option maxRecDepth 100000 in
theorem isNaNOne (w : World) : Calls Tryz.prog 126 #[.float .f64 4607182418800017408] w fun e w' => e = .returned (.bool false) ∧ w = w' := by
  have o4 := ord4
  go_enter Tryz.func126, Tryz.ntmps126
  go_wp2
  go_ret
  exact ⟨rfl, rfl⟩

set_option maxRecDepth 100000 in
theorem normOne (w : World) : Calls Tryz.prog 127 #[.float .f64 4607182418800017408] w fun e w' => e = .returned (.tuple #[.float .f64 4607182418800017408, .int .i64 0]) ∧ w = w' := by
  have o2 := ord2
  go_enter Tryz.func127, Tryz.ntmps127
  go_wp2_with (go_at_call 132; refine (absOne _).mono ?_; rintro e w' ⟨rfl, rfl⟩)
  go_ret2
  exact ⟨rfl, rfl⟩

theorem halfBits (w : World) : (callFunc 129 #[.int .u64 (bits .or .u64 (bits .andNot .u64 4607182418800017408 9218868437227405312) 4602678819172646912)]).run Tryz.prog w = .ok (.value (.float .f64 4602678819172646912)) w := by kernel_rfl

set_option maxRecDepth 100000 in
set_option maxHeartbeats 1000000 in
theorem frexpOne (w : World) : Calls Tryz.prog 122 #[.float .f64 4607182418800017408] w fun e w' => e = .returned (.tuple #[.float .f64 4602678819172646912, .int .i64 1]) ∧ w = w' := by
  have o1 := ord1
  have x1 := bitsOne
  have x3 := halfBits
  have x4 : bits .and .u64 1023 2047 = 1023 := by kernel_rfl
  go_enter Tryz.func122, Tryz.ntmps122
  go_wp2_with (first | (go_at_call 125; refine (isInfOne _).mono ?_; rintro e w' ⟨rfl, rfl⟩) | (go_at_call 126; refine (isNaNOne _).mono ?_; rintro e w' ⟨rfl, rfl⟩) | (go_at_call 127; refine (normOne _).mono ?_; rintro e w' ⟨rfl, rfl⟩))
  go_ret2
  exact ⟨rfl, rfl⟩

theorem frexp2One (w : World) : Calls Tryz.prog 118 #[.float .f64 4607182418800017408] w fun e w' => e = .returned (.tuple #[.float .f64 4602678819172646912, .int .i64 1]) ∧ w = w' := by
  go_enter Tryz.func118, Tryz.ntmps118
  go_wp2_with (go_at_call 122; refine (frexpOne _).mono ?_; rintro e w' ⟨rfl, rfl⟩)
  go_ret2
  exact ⟨rfl, rfl⟩

set_option maxRecDepth 100000 in
theorem log2b (w : World) : Calls Tryz.prog 114 #[.float .f64 4607182418800017408] w fun e w' => e = .returned (.float .f64 0) ∧ w = w' := by
  have o5 := ord5
  have f0 := fNought
  go_enter Tryz.func114, Tryz.ntmps114
  go_wp2_with (go_at_call 118; refine (frexp2One _).mono ?_; rintro e w' ⟨rfl, rfl⟩)
  go_ret
  exact ⟨rfl, rfl⟩

theorem log2One (w : World) : Calls Tryz.prog 98 #[.float .f64 4607182418800017408] w fun e w' => e = .returned (.float .f64 0) ∧ w = w' := by
  go_enter Tryz.func98, Tryz.ntmps98
  go_wp2_with (go_at_call 114; refine (log2b _).mono ?_; rintro e w' ⟨rfl, rfl⟩)
  go_ret
  exact ⟨rfl, rfl⟩

set_option maxRecDepth 100000 in
set_option maxHeartbeats 1000000 in
theorem encSize (s : Sk) (B bw : Nat) (hs : s.Ok Tryz.prog 429 B) (hB : B ≤ bw) (st : BS) (z : Int) (hz : 1 ≤ z ∧ z ≤ 256) (w : World) (h : BWr s bw st w) (hc : st.out.length + 32 ≤ s.cap) :
    Calls Tryz.prog 66 #[.pointer (some ⟨bw, 0, none⟩), .int .u16 z] w fun e w' => e = .returned (.tuple #[.int .u8 (szMore z), .nilIface]) ∧ BWr s bw (st.put (szBits z) 4) w' ∧ (st.put (szBits z) 4).out.length ≤ st.out.length + 32 ∧ Keep B (bwOwn s bw) w w' := by
  by_cases h1 : z = 192
  · subst h1
    go_enter Tryz.func66, Tryz.ntmps66
    go_wp2_with (go_at_call 55; refine (wbitsJ s B bw hs hB _ _ _ (by decide) (by decide) _ h hc).mono ?_; rintro e w' ⟨rfl, hb, hl, hk⟩)
    go_ret2
    exact ⟨rfl, hb, hl, hk⟩
  · by_cases h2 : z = 256
    · subst h2
      have f1 := fOne
      have cv := convNought
      go_enter Tryz.func66, Tryz.ntmps66
      go_wp2_with (first | (go_at_call 55; refine (wbitsJ s B bw hs hB _ _ _ (by decide) (by decide) _ h hc).mono ?_; rintro e w' ⟨rfl, hb, hl, hk⟩) | (go_at_call 98; refine (log2One _).mono ?_; rintro e w' ⟨rfl, rfl⟩))
      go_ret2
      exact ⟨rfl, hb, hl, hk⟩
    · have e1 : szBits z = 6 := by simp [szBits, h1, h2]
      have e2 : szMore z = 8 := by simp [szMore, h1, h2]
      rw [e1, e2]
      clear e1 e2
      go_enter Tryz.func66, Tryz.ntmps66
      go_wp2_with (go_at_call 55; refine (wbitsJ s B bw hs hB _ _ _ (by decide) (by decide) _ h hc).mono ?_; rintro e w' ⟨rfl, hb, hl, hk⟩)
      go_ret2
      exact ⟨rfl, hb, hl, hk⟩

def isRate (r : Int) : Prop := r = 44100 ∨ r = 8000 ∨ r = 12345 ∨ r = 96000 ∨ r = 48000 ∨ r = 655350 ∨ r = 176400
def rtBits (r : Int) : Int := if r = 44100 then 9 else if r = 8000 then 4 else if r = 12345 then 13 else if r = 96000 then 11 else if r = 48000 then 10 else if r = 655350 then 14 else 2
def rtSuf (r : Int) : Int := if r = 12345 then 12345 else if r = 655350 then 65535 else 0
def rtMore (r : Int) : Int := if r = 12345 then 16 else if r = 655350 then 16 else 0

set_option maxRecDepth 100000 in
set_option maxHeartbeats 2000000 in
theorem encRate (s : Sk) (B bw : Nat) (hs : s.Ok Tryz.prog 429 B) (hB : B ≤ bw) (st : BS) (r : Int) (hr : isRate r) (w : World) (h : BWr s bw st w) (hc : st.out.length + 32 ≤ s.cap) :
    Calls Tryz.prog 67 #[.pointer (some ⟨bw, 0, none⟩), .int .u32 r] w fun e w' => e = .returned (.tuple #[.int .u64 (rtSuf r), .int .u8 (rtMore r), .nilIface]) ∧ BWr s bw (st.put (rtBits r) 4) w' ∧ (st.put (rtBits r) 4).out.length ≤ st.out.length + 32 ∧ Keep B (bwOwn s bw) w w' := by
  rcases hr with rfl | rfl | rfl | rfl | rfl | rfl | rfl
  all_goals
    go_enter Tryz.func67, Tryz.ntmps67
    go_wp2_with (go_at_call 55; refine (wbitsJ s B bw hs hB _ _ _ (by decide) (by decide) _ h hc).mono ?_; rintro e w' ⟨rfl, hb, hl, hk⟩)
    go_ret3
    exact ⟨rfl, hb, hl, hk⟩

/-- The table of how many channels an assignment has, as far as it is asked. -/
def NCh (w : World) : Prop := ∀ i : Nat, i < 8 → w.cell? ⟨0, i, none⟩ = some (.int .i64 ((i : Int) + 1))

theorem NCh.below {B : Nat} {w w' : World} (h : NCh w) (hB : 0 < B) (hb : Below B w w') : NCh w' := fun i hi => (hb.cell (p := ⟨0, i, none⟩) hB).trans (h i hi)

theorem count (ch : Int) (hch : 0 ≤ ch ∧ ch < 8) (w : World) (hn : NCh w) : Calls Tryz.prog 35 #[.int .u8 ch] w fun e w' => e = .returned (.int .i64 (ch + 1)) ∧ w = w' := by
  have hc := hn ch.toNat (by omega)
  have e : ((ch.toNat : Nat) : Int) = ch := by omega
  rw [e] at hc
  clear e
  go_enter Tryz.func35, Tryz.ntmps35
  go_wp2
  go_ret
  exact ⟨rfl, rfl⟩

set_option maxRecDepth 100000 in
set_option maxHeartbeats 2000000 in
theorem encChans (s : Sk) (B bw : Nat) (hs : s.Ok Tryz.prog 429 B) (hB : B ≤ bw) (st : BS) (ch : Int) (hch : 0 ≤ ch ∧ ch < 8) (w : World) (hn : NCh w) (h : BWr s bw st w) (hc : st.out.length + 32 ≤ s.cap) :
    Calls Tryz.prog 68 #[.pointer (some ⟨bw, 0, none⟩), .int .u8 ch] w fun e w' => e = .returned .nilIface ∧ BWr s bw (st.put ch 4) w' ∧ (st.put ch 4).out.length ≤ st.out.length + 32 ∧ Keep B (bwOwn s bw) w w' := by
  have hcases : ch = 0 ∨ ch = 1 ∨ ch = 2 ∨ ch = 3 ∨ ch = 4 ∨ ch = 5 ∨ ch = 6 ∨ ch = 7 := by omega
  have hN := Lib.hid hn
  clear hn
  rcases hcases with rfl | rfl | rfl | rfl | rfl | rfl | rfl | rfl
  all_goals
    go_enter Tryz.func68, Tryz.ntmps68
    go_wp2_with (first | (go_at_call 35; refine (count _ (by decide) _ hN.out).mono ?_; rintro e w' ⟨rfl, rfl⟩) | (go_at_call 55; refine (wbitsJ s B bw hs hB _ _ _ (by decide) (by decide) _ h hc).mono ?_; rintro e w' ⟨rfl, hb, hl, hk⟩))
    go_ret
    exact ⟨rfl, hb, hl, hk⟩

def isBits (b : Int) : Prop := b = 16 ∨ b = 8 ∨ b = 24 ∨ b = 20 ∨ b = 12
def bpBits (b : Int) : Int := if b = 16 then 4 else if b = 8 then 1 else if b = 24 then 6 else if b = 20 then 5 else 2

set_option maxRecDepth 100000 in
set_option maxHeartbeats 2000000 in
theorem encBps (s : Sk) (B bw : Nat) (hs : s.Ok Tryz.prog 429 B) (hB : B ≤ bw) (st : BS) (b : Int) (hb : isBits b) (w : World) (h : BWr s bw st w) (hc : st.out.length + 32 ≤ s.cap) :
    Calls Tryz.prog 69 #[.pointer (some ⟨bw, 0, none⟩), .int .u8 b] w fun e w' => e = .returned .nilIface ∧ BWr s bw (st.put (bpBits b) 3) w' ∧ (st.put (bpBits b) 3).out.length ≤ st.out.length + 32 ∧ Keep B (bwOwn s bw) w w' := by
  rcases hb with rfl | rfl | rfl | rfl | rfl
  all_goals
    go_enter Tryz.func69, Tryz.ntmps69
    go_wp2_with (go_at_call 55; refine (wbitsJ s B bw hs hB _ _ _ (by decide) (by decide) _ h hc).mono ?_; rintro e w' ⟨rfl, hb, hl, hk⟩)
    go_ret
    exact ⟨rfl, hb, hl, hk⟩
end Go.Proofs.YtlabcknoooaefaaGreatDoor
