/-
  md5: Write.
-/
import Derived.Test.YtlabcknoooaefaaGreatDoorZMc
import Derived.Laws.CopyOwn
import Derived.Test.YtlabcknoooaefaaGreatDoorZCs
import Derived.Test.YtlabcknoooaefaaGreatDoorZGn
namespace Go.Proofs.YtlabcknoooaefaaGreatDoor
open Go.RowKit
set_option linter.unusedVariables false

/-- Bytes laid over others from number off on. -/
def spl (xs : List Int) (off : Nat) (l : List UInt8) : List Int := xs.take off ++ l.map (fun b => (b.toNat : Int)) ++ xs.drop (off + l.length)

theorem spl_len {xs : List Int} {off : Nat} {l : List UInt8} (h : off + l.length ≤ xs.length) : (spl xs off l).length = xs.length := by
  simp [spl]
  omega

theorem spl_range {xs : List Int} (off : Nat) (l : List UInt8) (h : ∀ x ∈ xs, 0 ≤ x ∧ x < 256) : ∀ x ∈ spl xs off l, 0 ≤ x ∧ x < 256 := by
  intro x hx
  simp only [spl, List.mem_append, List.mem_map] at hx
  rcases hx with (hx | ⟨b, _, rfl⟩) | hx
  · exact h x (List.mem_of_mem_take hx)
  · have := b.toNat_lt
    omega
  · exact h x (List.mem_of_mem_drop hx)

def MdS.withX (m : MdS) (xs : List Int) : MdS := { m with xs := xs }
def MdS.withN (m : MdS) (n : Nat) : MdS := { m with nx := n }
def MdS.withL (m : MdS) (l : Int) : MdS := { m with ln := l }

theorem md68 {w : World} {md : Nat} {m : MdS} (h : Bk w md 170 m.cells) (hx : m.xs.length = 64) : w.cell? ⟨md, 68, none⟩ = some (.int .i64 m.nx) := by rw [h.cell]; simp [MdS.cells, hx]
theorem md69 {w : World} {md : Nat} {m : MdS} (h : Bk w md 170 m.cells) (hx : m.xs.length = 64) : w.cell? ⟨md, 69, none⟩ = some (.int .u64 m.ln) := by rw [h.cell]; simp [MdS.cells, hx]

theorem mdX {w : World} {md : Nat} {m : MdS} (h : Bk w md 170 m.cells) (hx : m.xs.length = 64) (hr : ∀ x ∈ m.xs, 0 ≤ x ∧ x < 256) : HB md 4 w := by
  intro j hj
  have hj' : j < m.xs.length := by omega
  refine ⟨m.xs[j], ?_, hr _ (List.getElem_mem _)⟩
  rw [h.cell]
  simp [MdS.cells, List.getElem?_append, hx, hj, Nat.add_comm 4]

theorem md68put {w : World} {md : Nat} {m : MdS} (h : Bk w md 170 m.cells) (hx : m.xs.length = 64) (n : Nat) : Bk (w.setCell ⟨md, 68, none⟩ (.int .i64 n)) md 170 (m.withN n).cells := by
  have := h.put 68 (.int .i64 n)
  have e : (m.cells).setIfInBounds 68 (.int .i64 n) = (m.withN n).cells := by
    apply Array.ext'
    simp [MdS.cells, MdS.withN, hx]
  rw [e] at this
  exact this

theorem md69put {w : World} {md : Nat} {m : MdS} (h : Bk w md 170 m.cells) (hx : m.xs.length = 64) (l : Int) : Bk (w.setCell ⟨md, 69, none⟩ (.int .u64 l)) md 170 (m.withL l).cells := by
  have := h.put 69 (.int .u64 l)
  have e : (m.cells).setIfInBounds 69 (.int .u64 l) = (m.withL l).cells := by
    apply Array.ext'
    simp [MdS.cells, MdS.withL, hx]
  rw [e] at this
  exact this

theorem info5 : (Tryz.prog.info? 5).map (·.size) = some 1 := by kernel_rfl

/-- Bytes copied into the block of a digest. -/
theorem copyRun {w : World} {md : Nat} {m : MdS} (h : Bk w md 170 m.cells) (hx : m.xs.length = 64) (off dl dc : Nat) (a : Addr) (n c k : Nat) (bs : List UInt8) (hr : Rd w a bs) (hl : bs.length = n) (hk : k = Nat.min n dl) (hof : off + k ≤ 64) :
    (Builtin.copy_ #[23, 23] 3 #[.slice (some ⟨md, 4 + off, none⟩) dl dc, .slice (some a) n c]).run Tryz.prog w = .ok (.int .i64 (k : Int)) (w.setRow md (m.withX (spl m.xs off (bs.take k))).cells) := by
  have hkl : k ≤ bs.length := by rw [hk, hl]; exact Nat.min_le_left _ _
  have e := run_copy_row (P := Tryz.prog) w 23 23 3 5 md (4 + off) dl dc a n c m.cells 170 ((bs.take k).map fun b => .int .u8 (b.toNat : Int)) Tryz.underlying23 info5 h (by simp [hk, hl] <;> omega) ?_ (by simp [MdS.cells, hx] <;> omega) (fun v hv => ?_)
  · rw [e]
    have hlen : ((bs.take k).map fun b => Value.int .u8 (b.toNat : Int)).length = k := by simp; omega
    rw [hlen]
    refine congrArg (fun z => Result.ok (Value.int .i64 (k : Int)) (w.setRow md z)) ?_
    apply Array.ext'
    have h5 : List.take (4 + off) (m.cells.toList) = [.int .u32 m.a, .int .u32 m.b, .int .u32 m.c, .int .u32 m.d] ++ (m.xs.take off).map (Value.int .u8) := by
      simp [MdS.cells, Nat.add_comm 4, List.take_append, hx]
      omega
    have h6 : List.drop (4 + off + k) (m.cells.toList) = (m.xs.drop (off + k)).map (Value.int .u8) ++ [.int .i64 (m.nx : Int), .int .u64 m.ln] := by
      have : 4 + off + k = (off + k) + 4 := by omega
      rw [this]
      simp [MdS.cells, List.drop_append, hx]
      have h0 : off + k - 64 = 0 := by omega
      simp [h0]
    have hle : (bs.take k).length = k := by simp; omega
    simp only [h5, h6]
    simp [MdS.cells, MdS.withX, spl, hle]
    rfl
  · intro j v hj
    simp only [List.getElem?_map, Option.map_eq_some_iff] at hj
    obtain ⟨b, hb, rfl⟩ := hj
    rw [List.getElem?_take] at hb
    split at hb
    · exact hr j b hb
    · simp at hb
  · simp only [List.mem_map] at hv
    obtain ⟨b, _, rfl⟩ := hv
    rfl

theorem setRow_Bk {w : World} {g : Nat} {t : TypeId} {cs cs' : Array Value} (h : Bk w g t cs) : Bk (w.setRow g cs') g t cs' := setRow_heap w g cs cs' t (0, 0) h

theorem Only.setRow {md : Nat} {a b : World} (h : Only md a b) (cs : Array Value) : Only md a (b.setRow md cs) :=
  ⟨h.os, h.tape, h.output, by simp [World.setRow]; exact h.size, fun k hk => (setRow_other b md k cs hk).trans (h.blk k hk)⟩
end Go.Proofs.YtlabcknoooaefaaGreatDoor

/-
  md5: Write, case by case.
-/
namespace Go.Proofs.YtlabcknoooaefaaGreatDoor
open Go.RowKit
set_option linter.unusedVariables false

/-- What Write leaves: the digest whole, its count gone on, nothing else turned. -/
def MdTo (md : Nat) (m : MdS) (n : Nat) (w w' : World) : Prop :=
  Only md w w' ∧ ∃ m' : MdS, m'.ok ∧ Bk w' md 170 m'.cells ∧ m'.nx = (m.nx + n) % 64 ∧ m'.ln = IntKind.u64.wrap (m.ln + n)

theorem sliceX (md off : Nat) (h : off < 64) (w : World) : (Instr.sliceAt 168 (.pointer (some ⟨md, 4, none⟩)) (some (.int .i64 (off : Int))) none none).run Tryz.prog w = .ok (.slice (some ⟨md, 4 + off, none⟩) (64 - off) (64 - off)) w := by
  have h1 : (off : Int) ≤ 64 := by omega
  have h2 : ¬ 64 = off := by omega
  go_simp

set_option maxRecDepth 100000 in
set_option maxHeartbeats 4000000 in
theorem mdWriteA1 (md : Nat) (m : MdS) (hm : m.ok) (bs : List UInt8) (a : Addr) (n c : Nat) (w : World) (hmd : Bk w md 170 m.cells) (hr : Rd w a bs) (hl : bs.length = n) (hn : 0 < n) (hnc : n ≤ c) (hc : c ≤ 4096) (ha : a.block ≠ md) (h0 : 0 < m.nx) (h1 : m.nx + n < 64) :
    Calls Tryz.prog 172 #[.pointer (some ⟨md, 0, none⟩), .slice (some a) n c] w fun e w' => e = .returned (.tuple #[.int .i64 (n : Int), .nilIface]) ∧ MdTo md m n w w' := by
  obtain ⟨ra, rb, rc, rd, hxl, hxr, rn, rl⟩ := hm
  have c68 := md68 hmd hxl
  have c69 := md69 hmd hxl
  have f69 := hmd.frozen 69
  have hmd1 := md69put hmd hxl (IntKind.u64.wrap (m.ln + n))
  have hr1 : Rd (w.setCell ⟨md, 69, none⟩ (.int .u64 (IntKind.u64.wrap (m.ln + n)))) a bs := hr.far ⟨md, 69, none⟩ (fun e => ha e.symm) _
  have hO := (Only.drewN (md := md) w 0).setCell 69 (.int .u64 (IntKind.u64.wrap (m.ln + n)))
  go_enter Tryz.func172, Tryz.ntmps172
  go_wp2
  have hO' : Only md w (w.setCell ⟨md, 69, none⟩ (.int .u64 (IntKind.u64.wrap (m.ln + n)))) := hO
  clear hO c69 f69 c68
  generalize w.setCell ⟨md, 69, none⟩ (.int .u64 (IntKind.u64.wrap (m.ln + n))) = W at *
  generalize hm1 : m.withL (IntKind.u64.wrap (m.ln + n)) = m1 at *
  have e1 : m1.xs = m.xs ∧ m1.nx = m.nx ∧ m1.a = m.a ∧ m1.b = m.b ∧ m1.c = m.c ∧ m1.d = m.d ∧ m1.ln = IntKind.u64.wrap (m.ln + n) := by subst hm1; exact ⟨rfl, rfl, rfl, rfl, rfl, rfl, rfl⟩
  obtain ⟨ex, en, ea, eb, ec, ed, el⟩ := e1
  have hxl1 : m1.xs.length = 64 := by rw [ex]; exact hxl
  have c68 : W.cell? ⟨md, 68, none⟩ = some (.int .i64 m.nx) := by rw [← en]; exact md68 hmd1 hxl1
  have hsl := sliceX md m.nx (by omega) W.drew
  have hcp := copyRun (w := W.drew) hmd1 hxl1 m.nx (64 - m.nx) (64 - m.nx) a n c n bs hr1 hl (by show n = Nat.min _ _; simp only [Nat.min_def]; split <;> omega) (by omega)
  have hE := Lib.hid (And.intro en el)
  clear en el ex ea eb ec ed
  go_region
  have hmd2 : Bk (W.drew.setRow md (m1.withX (spl m1.xs m.nx (bs.take n))).cells) md 170 (m1.withX (spl m1.xs m.nx (bs.take n))).cells := setRow_Bk (w := W.drew) hmd1
  have hO2 : Only md w (W.drew.setRow md (m1.withX (spl m1.xs m.nx (bs.take n))).cells) := (hO'.trans (Only.drewN W 1)).setRow _
  have hxl2 : (spl m1.xs m.nx (bs.take n)).length = 64 := by rw [spl_len (by simp; omega)]; exact hxl1
  clear hcp hsl c68
  generalize hX : W.drew.setRow md (m1.withX (spl m1.xs m.nx (bs.take n))).cells = W2 at *
  have c68 : W2.cell? ⟨md, 68, none⟩ = some (.int .i64 m.nx) := by rw [← hE.out.1]; exact md68 (m := m1.withX (spl m1.xs m.nx (bs.take n))) hmd2 hxl2
  have f68 := hmd2.frozen 68
  have hfin : MdTo md m n w (W2.setCell ⟨md, 68, none⟩ (.int .i64 ((m.nx : Int) + n))) := by
    refine ⟨hO2.setCell 68 _, (m1.withX (spl m1.xs m.nx (bs.take n))).withN (m.nx + n), ?_, ?_, ?_, hE.out.2⟩
    · subst hm1
      refine ⟨ra, rb, rc, rd, hxl2, spl_range _ _ hxr, h1, ?_⟩
      show 0 ≤ IntKind.u64.wrap (m.ln + n) ∧ IntKind.u64.wrap (m.ln + n) < 18446744073709551616
      simp only [IntKind.wrap_u64]
      omega
    · have := md68put hmd2 hxl2 (m.nx + n)
      simpa using this
    · show m.nx + n = _
      omega
  have HF := Lib.hid hfin
  clear hfin
  go_wp2
  all_goals
    go_ret2
    exact ⟨rfl, HF.out⟩
end Go.Proofs.YtlabcknoooaefaaGreatDoor

/-
  md5: Write, the other cases.
-/
namespace Go.Proofs.YtlabcknoooaefaaGreatDoor
open Go.RowKit
set_option linter.unusedVariables false

theorem Rd.only {md : Nat} {w w' : World} {a : Addr} {bs : List UInt8} (h : Rd w a bs) (hO : Only md w w') (ha : a.block ≠ md) : Rd w' a bs := by
  intro j b hj
  rw [← h j b hj]
  have e : (a.add j).block = a.block := by
    unfold Addr.add
    split <;> rfl
  exact World.cell?_of_block (by rw [e]; exact hO.blk _ ha)

theorem Addr.add_add (a : Addr) (i j : Nat) : (a.add i).add j = a.add (i + j) := by
  unfold Addr.add
  by_cases hi : i = 0
  · subst hi; simp
  · by_cases hj : j = 0
    · subst hj; simp
    · simp [hi, hj, Nat.add_assoc]

theorem Rd.drop {w : World} {a : Addr} {bs : List UInt8} (h : Rd w a bs) (k : Nat) : Rd w (a.add k) (bs.drop k) := by
  intro j b hj
  rw [Addr.add_add]
  exact h (k + j) b (by simpa using hj)

set_option maxRecDepth 100000 in
set_option maxHeartbeats 4000000 in
theorem mdWriteA2 (md : Nat) (m : MdS) (hm : m.ok) (bs : List UInt8) (a : Addr) (n : Nat) (c : Nat) (w : World) (hmd : Bk w md 170 m.cells) (hr : Rd w a bs) (hl : bs.length = n) (hnc : n ≤ c) (hc : c ≤ 4096) (ha : (a : Addr).block ≠ md) (h0 : 0 < m.nx) (h1 : m.nx + n = 64) (hn0 : 0 < n) :
    Calls Tryz.prog 172 #[.pointer (some ⟨md, 0, none⟩), .slice (some a) (n) c] w fun e w' => e = .returned (.tuple #[.int .i64 ((n : Nat) : Int), .nilIface]) ∧ MdTo md m (n) w w' := by
  obtain ⟨ra, rb, rc, rd, hxl, hxr, rn, rl⟩ := hm
  have c68 := md68 hmd hxl
  have c69 := md69 hmd hxl
  have f69 := hmd.frozen 69
  have hmd1 := md69put hmd hxl (IntKind.u64.wrap (m.ln + (n : Int)))
  have hr1 : Rd (w.setCell ⟨md, 69, none⟩ (.int .u64 (IntKind.u64.wrap (m.ln + (n : Int))))) a bs := hr.far ⟨md, 69, none⟩ (fun e => ha e.symm) _
  have hO := (Only.drewN (md := md) w 0).setCell 69 (.int .u64 (IntKind.u64.wrap (m.ln + (n : Int))))
  have hO' : Only md w (w.setCell ⟨md, 69, none⟩ (.int .u64 (IntKind.u64.wrap (m.ln + (n : Int))))) := hO
  have hln : 0 ≤ IntKind.u64.wrap (m.ln + (n : Int)) ∧ IntKind.u64.wrap (m.ln + (n : Int)) < 18446744073709551616 := by simp only [IntKind.wrap_u64]; omega
  have eX : (m.withL (IntKind.u64.wrap (m.ln + (n : Int)))).xs.length = 64 := hxl
  go_enter Tryz.func172, Tryz.ntmps172
  go_wp2
  clear hO c69 f69 c68
  generalize w.setCell ⟨md, 69, none⟩ (.int .u64 (IntKind.u64.wrap (m.ln + (n : Int)))) = W at *
  generalize hm1 : m.withL (IntKind.u64.wrap (m.ln + (n : Int))) = m1 at *
  have e1 : m1.xs = m.xs ∧ m1.nx = m.nx ∧ m1.ln = IntKind.u64.wrap (m.ln + (n : Int)) := by subst hm1; exact ⟨rfl, rfl, rfl⟩
  obtain ⟨ex, en, el⟩ := e1
  have hxl1 : m1.xs.length = 64 := by rw [ex]; exact hxl
  have hxr1 : ∀ x ∈ m1.xs, 0 ≤ x ∧ x < 256 := by rw [ex]; exact hxr
  have hw1 : (0 ≤ m1.a ∧ m1.a < 4294967296) ∧ (0 ≤ m1.b ∧ m1.b < 4294967296) ∧ (0 ≤ m1.c ∧ m1.c < 4294967296) ∧ (0 ≤ m1.d ∧ m1.d < 4294967296) := by subst hm1; exact ⟨ra, rb, rc, rd⟩
  have c68 : W.cell? ⟨md, 68, none⟩ = some (.int .i64 m.nx) := by rw [← en]; exact md68 hmd1 hxl1
  have hsl := sliceX md m.nx (by omega) W.drew
  have hcp := copyRun (w := W.drew) hmd1 hxl1 m.nx (64 - m.nx) (64 - m.nx) a n c n bs hr1 hl (by show n = Nat.min _ _; simp only [Nat.min_def]; split <;> omega) (by omega)
  have hE := Lib.hid (And.intro en el)
  clear en el ex
  go_region
  have hmd2 : Bk (W.drew.setRow md (m1.withX (spl m1.xs m.nx (bs.take n))).cells) md 170 (m1.withX (spl m1.xs m.nx (bs.take n))).cells := setRow_Bk (w := W.drew) hmd1
  have hO2 : Only md w (W.drew.setRow md (m1.withX (spl m1.xs m.nx (bs.take n))).cells) := (hO'.trans (Only.drewN W 1)).setRow _
  have hOW : Only md W (W.drew.setRow md (m1.withX (spl m1.xs m.nx (bs.take n))).cells) := (Only.drewN W 1).setRow _
  have hxl2 : (spl m1.xs m.nx (bs.take n)).length = 64 := by rw [spl_len (by simp; omega)]; exact hxl1
  have hxr2 := spl_range m.nx (bs.take n) hxr1
  clear hcp hsl c68
  generalize hX : W.drew.setRow md (m1.withX (spl m1.xs m.nx (bs.take n))).cells = W2 at *
  generalize hx2 : spl m1.xs m.nx (bs.take n) = xs2 at *
  have c68 : W2.cell? ⟨md, 68, none⟩ = some (.int .i64 m.nx) := by rw [← hE.out.1]; exact md68 (m := m1.withX xs2) hmd2 hxl2
  have f68 := hmd2.frozen 68
  have hmd3 := md68put (m := m1.withX xs2) hmd2 hxl2 64
  have hO3 := hO2.setCell 68 (.int .i64 ((64 : Nat) : Int))
  have hO3W := hOW.setCell 68 (.int .i64 ((64 : Nat) : Int))
  have hz : ((m.nx : Int) + (n : Int)) = 64 := by omega
  go_wp2_with fail
  clear c68 f68 hz
  refine (blockG md ((m1.withX xs2).withN 64) hw1 md 4 64 (by omega) _ hmd3 (mdX (m := (m1.withX xs2).withN 64) hmd3 hxl2 hxr2)).mono ?_
  rintro e W4 ⟨rfl, hO4, x4, x5, x6, x7, hwr, hmd4⟩
  have hO5 := hO3.trans hO4
  have hO5W := hO3W.trans hO4
  have c68 : W4.cell? ⟨md, 68, none⟩ = some (.int .i64 64) := md68 (m := ((m1.withX xs2).withN 64).with4 x4 x5 x6 x7) hmd4 hxl2
  have f68 := hmd4.frozen 68
  have hmd5 := md68put (m := ((m1.withX xs2).withN 64).with4 x4 x5 x6 x7) hmd4 hxl2 0
  have hO6 := hO5.setCell 68 (.int .i64 ((0 : Nat) : Int))
  have hO6W := hO5W.setCell 68 (.int .i64 ((0 : Nat) : Int))
  generalize hm5 : ((((m1.withX xs2).withN 64).with4 x4 x5 x6 x7).withN 0) = m5 at *
  have e5 : m5.xs = xs2 ∧ m5.nx = 0 ∧ m5.ln = m1.ln ∧ m5.a = x4 ∧ m5.b = x5 ∧ m5.c = x6 ∧ m5.d = x7 := by subst hm5; exact ⟨rfl, rfl, rfl, rfl, rfl, rfl, rfl⟩
  obtain ⟨q1, q2, q3, q4, q5, q6, q7⟩ := e5
  have hok5 : m5.ok := ⟨q4 ▸ hwr.1, q5 ▸ hwr.2.1, q6 ▸ hwr.2.2.1, q7 ▸ hwr.2.2.2, q1 ▸ hxl2, q1 ▸ hxr2, by omega, by rw [q3, hE.out.2]; exact hln⟩
  have hr5 : Rd (W4.setCell ⟨md, 68, none⟩ (.int .i64 ((0 : Nat) : Int))) a bs := hr1.only hO6W ha
  have hfin : MdTo md m n w (W4.setCell ⟨md, 68, none⟩ (.int .i64 0)) := ⟨hO6, m5, hok5, hmd5, by rw [q2]; omega, by rw [q3]; exact hE.out.2⟩
  have HF := Lib.hid hfin
  clear hfin q1 q2 q3 q4 q5 q6 q7
  go_wp2
  all_goals
    go_ret2
    exact ⟨rfl, HF.out⟩

set_option maxRecDepth 100000 in
set_option maxHeartbeats 4000000 in
theorem mdWriteA3 (md : Nat) (m : MdS) (hm : m.ok) (bs : List UInt8) (a : Addr) (n k : Nat) (c : Nat) (w : World) (hmd : Bk w md 170 m.cells) (hr : Rd w a bs) (hl : bs.length = n) (hnc : n ≤ c) (hc : c ≤ 4096) (ha : (a : Addr).block ≠ md) (h0 : 0 < m.nx) (h1 : m.nx + k = 64) (hk : k < n) (hk2 : n < k + 64) (hk0 : 0 < k) :
    Calls Tryz.prog 172 #[.pointer (some ⟨md, 0, none⟩), .slice (some a) (n) c] w fun e w' => e = .returned (.tuple #[.int .i64 ((n : Nat) : Int), .nilIface]) ∧ MdTo md m (n) w w' := by
  obtain ⟨ra, rb, rc, rd, hxl, hxr, rn, rl⟩ := hm
  have c68 := md68 hmd hxl
  have c69 := md69 hmd hxl
  have f69 := hmd.frozen 69
  have hmd1 := md69put hmd hxl (IntKind.u64.wrap (m.ln + (n : Int)))
  have hr1 : Rd (w.setCell ⟨md, 69, none⟩ (.int .u64 (IntKind.u64.wrap (m.ln + (n : Int))))) a bs := hr.far ⟨md, 69, none⟩ (fun e => ha e.symm) _
  have hO := (Only.drewN (md := md) w 0).setCell 69 (.int .u64 (IntKind.u64.wrap (m.ln + (n : Int))))
  have hO' : Only md w (w.setCell ⟨md, 69, none⟩ (.int .u64 (IntKind.u64.wrap (m.ln + (n : Int))))) := hO
  have hln : 0 ≤ IntKind.u64.wrap (m.ln + (n : Int)) ∧ IntKind.u64.wrap (m.ln + (n : Int)) < 18446744073709551616 := by simp only [IntKind.wrap_u64]; omega
  have eX : (m.withL (IntKind.u64.wrap (m.ln + (n : Int)))).xs.length = 64 := hxl
  go_enter Tryz.func172, Tryz.ntmps172
  go_wp2
  clear hO c69 f69 c68
  generalize w.setCell ⟨md, 69, none⟩ (.int .u64 (IntKind.u64.wrap (m.ln + (n : Int)))) = W at *
  generalize hm1 : m.withL (IntKind.u64.wrap (m.ln + (n : Int))) = m1 at *
  have e1 : m1.xs = m.xs ∧ m1.nx = m.nx ∧ m1.ln = IntKind.u64.wrap (m.ln + (n : Int)) := by subst hm1; exact ⟨rfl, rfl, rfl⟩
  obtain ⟨ex, en, el⟩ := e1
  have hxl1 : m1.xs.length = 64 := by rw [ex]; exact hxl
  have hxr1 : ∀ x ∈ m1.xs, 0 ≤ x ∧ x < 256 := by rw [ex]; exact hxr
  have hw1 : (0 ≤ m1.a ∧ m1.a < 4294967296) ∧ (0 ≤ m1.b ∧ m1.b < 4294967296) ∧ (0 ≤ m1.c ∧ m1.c < 4294967296) ∧ (0 ≤ m1.d ∧ m1.d < 4294967296) := by subst hm1; exact ⟨ra, rb, rc, rd⟩
  have c68 : W.cell? ⟨md, 68, none⟩ = some (.int .i64 m.nx) := by rw [← en]; exact md68 hmd1 hxl1
  have hsl := sliceX md m.nx (by omega) W.drew
  have hcp := copyRun (w := W.drew) hmd1 hxl1 m.nx (64 - m.nx) (64 - m.nx) a n c k bs hr1 hl (by show k = Nat.min _ _; simp only [Nat.min_def]; split <;> omega) (by omega)
  have hE := Lib.hid (And.intro en el)
  clear en el ex
  go_region
  have hmd2 : Bk (W.drew.setRow md (m1.withX (spl m1.xs m.nx (bs.take k))).cells) md 170 (m1.withX (spl m1.xs m.nx (bs.take k))).cells := setRow_Bk (w := W.drew) hmd1
  have hO2 : Only md w (W.drew.setRow md (m1.withX (spl m1.xs m.nx (bs.take k))).cells) := (hO'.trans (Only.drewN W 1)).setRow _
  have hOW : Only md W (W.drew.setRow md (m1.withX (spl m1.xs m.nx (bs.take k))).cells) := (Only.drewN W 1).setRow _
  have hxl2 : (spl m1.xs m.nx (bs.take k)).length = 64 := by rw [spl_len (by simp; omega)]; exact hxl1
  have hxr2 := spl_range m.nx (bs.take k) hxr1
  clear hcp hsl c68
  generalize hX : W.drew.setRow md (m1.withX (spl m1.xs m.nx (bs.take k))).cells = W2 at *
  generalize hx2 : spl m1.xs m.nx (bs.take k) = xs2 at *
  have c68 : W2.cell? ⟨md, 68, none⟩ = some (.int .i64 m.nx) := by rw [← hE.out.1]; exact md68 (m := m1.withX xs2) hmd2 hxl2
  have f68 := hmd2.frozen 68
  have hmd3 := md68put (m := m1.withX xs2) hmd2 hxl2 64
  have hO3 := hO2.setCell 68 (.int .i64 ((64 : Nat) : Int))
  have hO3W := hOW.setCell 68 (.int .i64 ((64 : Nat) : Int))
  have hz : ((m.nx : Int) + (k : Int)) = 64 := by omega
  go_wp2_with fail
  clear c68 f68 hz
  refine (blockG md ((m1.withX xs2).withN 64) hw1 md 4 64 (by omega) _ hmd3 (mdX (m := (m1.withX xs2).withN 64) hmd3 hxl2 hxr2)).mono ?_
  rintro e W4 ⟨rfl, hO4, x4, x5, x6, x7, hwr, hmd4⟩
  have hO5 := hO3.trans hO4
  have hO5W := hO3W.trans hO4
  have c68 : W4.cell? ⟨md, 68, none⟩ = some (.int .i64 64) := md68 (m := ((m1.withX xs2).withN 64).with4 x4 x5 x6 x7) hmd4 hxl2
  have f68 := hmd4.frozen 68
  have hmd5 := md68put (m := ((m1.withX xs2).withN 64).with4 x4 x5 x6 x7) hmd4 hxl2 0
  have hO6 := hO5.setCell 68 (.int .i64 ((0 : Nat) : Int))
  have hO6W := hO5W.setCell 68 (.int .i64 ((0 : Nat) : Int))
  generalize hm5 : ((((m1.withX xs2).withN 64).with4 x4 x5 x6 x7).withN 0) = m5 at *
  have e5 : m5.xs = xs2 ∧ m5.nx = 0 ∧ m5.ln = m1.ln ∧ m5.a = x4 ∧ m5.b = x5 ∧ m5.c = x6 ∧ m5.d = x7 := by subst hm5; exact ⟨rfl, rfl, rfl, rfl, rfl, rfl, rfl⟩
  obtain ⟨q1, q2, q3, q4, q5, q6, q7⟩ := e5
  have hok5 : m5.ok := ⟨q4 ▸ hwr.1, q5 ▸ hwr.2.1, q6 ▸ hwr.2.2.1, q7 ▸ hwr.2.2.2, q1 ▸ hxl2, q1 ▸ hxr2, by omega, by rw [q3, hE.out.2]; exact hln⟩
  have hr5 : Rd (W4.setCell ⟨md, 68, none⟩ (.int .i64 ((0 : Nat) : Int))) a bs := hr1.only hO6W ha
  have q1l : m5.xs.length = 64 := by rw [q1]; exact hxl2
  have hcp := copyRun hmd5 q1l 0 64 64 (a.add k) (n - k) (c - k) (n - k) (bs.drop k) (hr5.drop k) (by simp; omega) (by show n - k = Nat.min _ _; simp only [Nat.min_def]; split <;> omega) (by omega)
  simp only [Nat.add_zero] at hcp
  have ht : (bs.drop k).take (n - k) = bs.drop k := List.take_of_length_le (by simp; omega)
  rw [ht] at hcp
  have hmd6 := setRow_Bk (cs' := (m5.withX (spl m5.xs 0 (bs.drop k))).cells) hmd5
  have hO7 := hO6.setRow (m5.withX (spl m5.xs 0 (bs.drop k))).cells
  have hxl6 : (spl m5.xs 0 (bs.drop k)).length = 64 := by rw [spl_len (by simp; omega)]; exact q1l
  have hxr6 := spl_range 0 (bs.drop k) hok5.xr
  have g68 : ((W4.setCell ⟨md, 68, none⟩ (.int .i64 ((0 : Nat) : Int))).setRow md (m5.withX (spl m5.xs 0 (bs.drop k))).cells).cell? ⟨md, 68, none⟩ = some (.int .i64 0) := by
    have := md68 (m := m5.withX (spl m5.xs 0 (bs.drop k))) hmd6 hxl6
    rw [this]
    show some (Value.int .i64 (m5.nx : Int)) = _
    rw [q2]
    rfl
  have gf68 := hmd6.frozen 68
  have hfin : MdTo md m n w (((W4.setCell ⟨md, 68, none⟩ (.int .i64 0)).setRow md (m5.withX (spl m5.xs 0 (bs.drop k))).cells).setCell ⟨md, 68, none⟩ (.int .i64 ((n - k : Nat) : Int))) :=
    ⟨hO7.setCell 68 _, (m5.withX (spl m5.xs 0 (bs.drop k))).withN (n - k), ⟨hok5.a, hok5.b, hok5.c, hok5.d, hxl6, hxr6, (by show n - k < 64; omega), hok5.ln⟩, md68put hmd6 hxl6 (n - k), by show n - k = _; omega, by show m5.ln = _; rw [q3]; exact hE.out.2⟩
  have HF := Lib.hid hfin
  clear hfin q1 q2 q3 q4 q5 q6 q7
  have z0 : ((0 : Nat) : Int) = 0 := rfl
  simp only [z0] at hcp g68 gf68
  clear z0
  go_wp2
  all_goals
    go_ret2
    exact ⟨rfl, HF.out⟩
end Go.Proofs.YtlabcknoooaefaaGreatDoor

/-
  md5: Write, over a border and a whole block behind it.
-/
namespace Go.Proofs.YtlabcknoooaefaaGreatDoor
open Go.RowKit
set_option linter.unusedVariables false

theorem rdHB {xb xo : Nat} {w : World} {bs : List UInt8} (h : Rd w ⟨xb, xo, none⟩ bs) (hl : 64 ≤ bs.length) : HB xb xo w := by
  intro j hj
  have hj' : j < bs.length := by omega
  have h1 := h j bs[j] (by simp [hj'])
  have e : (⟨xb, xo, none⟩ : Addr).add j = ⟨xb, xo + j, none⟩ := by
    unfold Addr.add
    split
    · rename_i h; subst h; rfl
    · rfl
  rw [e] at h1
  have := bs[j].toNat_lt
  exact ⟨_, h1, by omega, by omega⟩

set_option maxRecDepth 100000 in
set_option maxHeartbeats 4000000 in
theorem mdWriteA4 (md : Nat) (m : MdS) (hm : m.ok) (bs : List UInt8) (ab ao : Nat) (n k : Nat) (c : Nat) (w : World) (hmd : Bk w md 170 m.cells) (hr : Rd w ⟨ab, ao, none⟩ bs) (hl : bs.length = n) (hnc : n ≤ c) (hc : c ≤ 4096) (ha : (⟨ab, ao, none⟩ : Addr).block ≠ md) (h0 : 0 < m.nx) (h1 : m.nx + k = 64) (hk : k + 64 ≤ n) (hk2 : n ≤ k + 64) (hk0 : 0 < k) :
    Calls Tryz.prog 172 #[.pointer (some ⟨md, 0, none⟩), .slice (some ⟨ab, ao, none⟩) (n) c] w fun e w' => e = .returned (.tuple #[.int .i64 ((n : Nat) : Int), .nilIface]) ∧ MdTo md m (n) w w' := by
  obtain ⟨ra, rb, rc, rd, hxl, hxr, rn, rl⟩ := hm
  have c68 := md68 hmd hxl
  have c69 := md69 hmd hxl
  have f69 := hmd.frozen 69
  have hmd1 := md69put hmd hxl (IntKind.u64.wrap (m.ln + (n : Int)))
  have hr1 : Rd (w.setCell ⟨md, 69, none⟩ (.int .u64 (IntKind.u64.wrap (m.ln + (n : Int))))) ⟨ab, ao, none⟩ bs := hr.far ⟨md, 69, none⟩ (fun e => ha e.symm) _
  have hO := (Only.drewN (md := md) w 0).setCell 69 (.int .u64 (IntKind.u64.wrap (m.ln + (n : Int))))
  have hO' : Only md w (w.setCell ⟨md, 69, none⟩ (.int .u64 (IntKind.u64.wrap (m.ln + (n : Int))))) := hO
  have hln : 0 ≤ IntKind.u64.wrap (m.ln + (n : Int)) ∧ IntKind.u64.wrap (m.ln + (n : Int)) < 18446744073709551616 := by simp only [IntKind.wrap_u64]; omega
  have eX : (m.withL (IntKind.u64.wrap (m.ln + (n : Int)))).xs.length = 64 := hxl
  go_enter Tryz.func172, Tryz.ntmps172
  go_wp2
  clear hO c69 f69 c68
  generalize w.setCell ⟨md, 69, none⟩ (.int .u64 (IntKind.u64.wrap (m.ln + (n : Int)))) = W at *
  generalize hm1 : m.withL (IntKind.u64.wrap (m.ln + (n : Int))) = m1 at *
  have e1 : m1.xs = m.xs ∧ m1.nx = m.nx ∧ m1.ln = IntKind.u64.wrap (m.ln + (n : Int)) := by subst hm1; exact ⟨rfl, rfl, rfl⟩
  obtain ⟨ex, en, el⟩ := e1
  have hxl1 : m1.xs.length = 64 := by rw [ex]; exact hxl
  have hxr1 : ∀ x ∈ m1.xs, 0 ≤ x ∧ x < 256 := by rw [ex]; exact hxr
  have hw1 : (0 ≤ m1.a ∧ m1.a < 4294967296) ∧ (0 ≤ m1.b ∧ m1.b < 4294967296) ∧ (0 ≤ m1.c ∧ m1.c < 4294967296) ∧ (0 ≤ m1.d ∧ m1.d < 4294967296) := by subst hm1; exact ⟨ra, rb, rc, rd⟩
  have c68 : W.cell? ⟨md, 68, none⟩ = some (.int .i64 m.nx) := by rw [← en]; exact md68 hmd1 hxl1
  have hsl := sliceX md m.nx (by omega) W.drew
  have hcp := copyRun (w := W.drew) hmd1 hxl1 m.nx (64 - m.nx) (64 - m.nx) ⟨ab, ao, none⟩ n c k bs hr1 hl (by show k = Nat.min _ _; simp only [Nat.min_def]; split <;> omega) (by omega)
  have hE := Lib.hid (And.intro en el)
  clear en el ex
  go_region
  have hmd2 : Bk (W.drew.setRow md (m1.withX (spl m1.xs m.nx (bs.take k))).cells) md 170 (m1.withX (spl m1.xs m.nx (bs.take k))).cells := setRow_Bk (w := W.drew) hmd1
  have hO2 : Only md w (W.drew.setRow md (m1.withX (spl m1.xs m.nx (bs.take k))).cells) := (hO'.trans (Only.drewN W 1)).setRow _
  have hOW : Only md W (W.drew.setRow md (m1.withX (spl m1.xs m.nx (bs.take k))).cells) := (Only.drewN W 1).setRow _
  have hxl2 : (spl m1.xs m.nx (bs.take k)).length = 64 := by rw [spl_len (by simp; omega)]; exact hxl1
  have hxr2 := spl_range m.nx (bs.take k) hxr1
  clear hcp hsl c68
  generalize hX : W.drew.setRow md (m1.withX (spl m1.xs m.nx (bs.take k))).cells = W2 at *
  generalize hx2 : spl m1.xs m.nx (bs.take k) = xs2 at *
  have c68 : W2.cell? ⟨md, 68, none⟩ = some (.int .i64 m.nx) := by rw [← hE.out.1]; exact md68 (m := m1.withX xs2) hmd2 hxl2
  have f68 := hmd2.frozen 68
  have hmd3 := md68put (m := m1.withX xs2) hmd2 hxl2 64
  have hO3 := hO2.setCell 68 (.int .i64 ((64 : Nat) : Int))
  have hO3W := hOW.setCell 68 (.int .i64 ((64 : Nat) : Int))
  have hz : ((m.nx : Int) + (k : Int)) = 64 := by omega
  go_wp2_with fail
  clear c68 f68 hz
  refine (blockG md ((m1.withX xs2).withN 64) hw1 md 4 64 (by omega) _ hmd3 (mdX (m := (m1.withX xs2).withN 64) hmd3 hxl2 hxr2)).mono ?_
  rintro e W4 ⟨rfl, hO4, x4, x5, x6, x7, hwr, hmd4⟩
  have hO5 := hO3.trans hO4
  have hO5W := hO3W.trans hO4
  have c68 : W4.cell? ⟨md, 68, none⟩ = some (.int .i64 64) := md68 (m := ((m1.withX xs2).withN 64).with4 x4 x5 x6 x7) hmd4 hxl2
  have f68 := hmd4.frozen 68
  have hmd5 := md68put (m := ((m1.withX xs2).withN 64).with4 x4 x5 x6 x7) hmd4 hxl2 0
  have hO6 := hO5.setCell 68 (.int .i64 ((0 : Nat) : Int))
  have hO6W := hO5W.setCell 68 (.int .i64 ((0 : Nat) : Int))
  generalize hm5 : ((((m1.withX xs2).withN 64).with4 x4 x5 x6 x7).withN 0) = m5 at *
  have e5 : m5.xs = xs2 ∧ m5.nx = 0 ∧ m5.ln = m1.ln ∧ m5.a = x4 ∧ m5.b = x5 ∧ m5.c = x6 ∧ m5.d = x7 := by subst hm5; exact ⟨rfl, rfl, rfl, rfl, rfl, rfl, rfl⟩
  obtain ⟨q1, q2, q3, q4, q5, q6, q7⟩ := e5
  have hok5 : m5.ok := ⟨q4 ▸ hwr.1, q5 ▸ hwr.2.1, q6 ▸ hwr.2.2.1, q7 ▸ hwr.2.2.2, q1 ▸ hxl2, q1 ▸ hxr2, by omega, by rw [q3, hE.out.2]; exact hln⟩
  have hr5 : Rd (W4.setCell ⟨md, 68, none⟩ (.int .i64 ((0 : Nat) : Int))) ⟨ab, ao, none⟩ bs := hr1.only hO6W ha
  have hnk : n - k = 64 := by omega
  have han : bits .andNot .i64 64 63 = 64 := by kernel_rfl
  have hr6 := hr5.drop k
  have eadd : (⟨ab, ao, none⟩ : Addr).add k = ⟨ab, ao + k, none⟩ := by unfold Addr.add; rw [if_neg (by omega)]
  rw [eadd] at hr6
  have hHB := rdHB hr6 (by simp; omega)
  clear eadd
  have z0 : ((0 : Nat) : Int) = 0 := rfl
  simp only [z0] at hHB hmd5
  clear z0
  have hw5 : (0 ≤ m5.a ∧ m5.a < 4294967296) ∧ (0 ≤ m5.b ∧ m5.b < 4294967296) ∧ (0 ≤ m5.c ∧ m5.c < 4294967296) ∧ (0 ≤ m5.d ∧ m5.d < 4294967296) := ⟨hok5.a, hok5.b, hok5.c, hok5.d⟩
  have HQ := Lib.hid (And.intro q1 (And.intro q2 q3))
  clear q1 q2 q3 q4 q5 q6 q7
  go_wp2_with fail
  refine (blockG md m5 hw5 ab (ao + k) (c - k) (by omega) _ hmd5 hHB).mono ?_
  rintro e W6 ⟨rfl, hO7, y4, y5, y6, y7, hyr, hmd6⟩
  have hfin : MdTo md m n w W6 := ⟨hO6.trans hO7, m5.with4 y4 y5 y6 y7, ⟨hyr.1, hyr.2.1, hyr.2.2.1, hyr.2.2.2, hok5.xs, hok5.xr, hok5.nx, hok5.ln⟩, hmd6, by show m5.nx = _; rw [HQ.out.2.1]; omega, by show m5.ln = _; rw [HQ.out.2.2]; exact hE.out.2⟩
  have HF := Lib.hid hfin
  clear hfin
  go_wp2
  all_goals
    go_ret2
    exact ⟨rfl, HF.out⟩

set_option maxRecDepth 100000 in
set_option maxHeartbeats 4000000 in
theorem mdWriteB1 (md : Nat) (m : MdS) (hm : m.ok) (bs : List UInt8) (a : Addr) (n : Nat) (c : Nat) (w : World) (hmd : Bk w md 170 m.cells) (hr : Rd w a bs) (hl : bs.length = n) (hnc : n ≤ c) (hc : c ≤ 4096) (ha : (a : Addr).block ≠ md) (h0 : m.nx = 0) (hn0 : 0 < n) (hn64 : n < 64) :
    Calls Tryz.prog 172 #[.pointer (some ⟨md, 0, none⟩), .slice (some a) (n) c] w fun e w' => e = .returned (.tuple #[.int .i64 ((n : Nat) : Int), .nilIface]) ∧ MdTo md m (n) w w' := by
  obtain ⟨ra, rb, rc, rd, hxl, hxr, rn, rl⟩ := hm
  have c68 := md68 hmd hxl
  have c69 := md69 hmd hxl
  have f69 := hmd.frozen 69
  have hmd1 := md69put hmd hxl (IntKind.u64.wrap (m.ln + (n : Int)))
  have hr1 : Rd (w.setCell ⟨md, 69, none⟩ (.int .u64 (IntKind.u64.wrap (m.ln + (n : Int))))) a bs := hr.far ⟨md, 69, none⟩ (fun e => ha e.symm) _
  have hO := (Only.drewN (md := md) w 0).setCell 69 (.int .u64 (IntKind.u64.wrap (m.ln + (n : Int))))
  have hO' : Only md w (w.setCell ⟨md, 69, none⟩ (.int .u64 (IntKind.u64.wrap (m.ln + (n : Int))))) := hO
  have hln : 0 ≤ IntKind.u64.wrap (m.ln + (n : Int)) ∧ IntKind.u64.wrap (m.ln + (n : Int)) < 18446744073709551616 := by simp only [IntKind.wrap_u64]; omega
  have eX : (m.withL (IntKind.u64.wrap (m.ln + (n : Int)))).xs.length = 64 := hxl
  clear hO c68
  generalize hW : w.setCell ⟨md, 69, none⟩ (.int .u64 (IntKind.u64.wrap (m.ln + (n : Int)))) = W at *
  generalize hm1 : m.withL (IntKind.u64.wrap (m.ln + (n : Int))) = m1 at *
  have e1 : m1.xs = m.xs ∧ m1.nx = m.nx ∧ m1.ln = IntKind.u64.wrap (m.ln + (n : Int)) := by subst hm1; exact ⟨rfl, rfl, rfl⟩
  obtain ⟨ex, en, el⟩ := e1
  have hxl1 : m1.xs.length = 64 := by rw [ex]; exact hxl
  have hxr1 : ∀ x ∈ m1.xs, 0 ≤ x ∧ x < 256 := by rw [ex]; exact hxr
  have hw1 : (0 ≤ m1.a ∧ m1.a < 4294967296) ∧ (0 ≤ m1.b ∧ m1.b < 4294967296) ∧ (0 ≤ m1.c ∧ m1.c < 4294967296) ∧ (0 ≤ m1.d ∧ m1.d < 4294967296) := by subst hm1; exact ⟨ra, rb, rc, rd⟩
  have hE := Lib.hid (And.intro en el)
  have c68 : W.cell? ⟨md, 68, none⟩ = some (.int .i64 0) := by rw [md68 hmd1 hxl1, en, h0]; rfl
  clear en el ex
  have hcp := copyRun hmd1 hxl1 0 64 64 a n c n bs hr1 hl (by show n = Nat.min _ _; simp only [Nat.min_def]; split <;> omega) (by omega)
  simp only [Nat.add_zero] at hcp
  have ht : bs.take n = bs := List.take_of_length_le (by omega)
  rw [ht] at hcp
  have hmd6 := setRow_Bk (cs' := (m1.withX (spl m1.xs 0 bs)).cells) hmd1
  have hO7 := hO'.setRow (m1.withX (spl m1.xs 0 bs)).cells
  have hxl6 : (spl m1.xs 0 bs).length = 64 := by rw [spl_len (by omega)]; exact hxl1
  have hxr6 := spl_range 0 bs hxr1
  have g68 : (W.setRow md (m1.withX (spl m1.xs 0 bs)).cells).cell? ⟨md, 68, none⟩ = some (.int .i64 m1.nx) := md68 (m := m1.withX (spl m1.xs 0 bs)) hmd6 hxl6
  have gf68 := hmd6.frozen 68
  have hfin : MdTo md m n w ((W.setRow md (m1.withX (spl m1.xs 0 bs)).cells).setCell ⟨md, 68, none⟩ (.int .i64 n)) :=
    ⟨hO7.setCell 68 _, (m1.withX (spl m1.xs 0 bs)).withN n, ⟨hw1.1, hw1.2.1, hw1.2.2.1, hw1.2.2.2, hxl6, hxr6, hn64, by show 0 ≤ m1.ln ∧ m1.ln < 18446744073709551616; rw [hE.out.2]; exact hln⟩, md68put hmd6 hxl6 n, by show n = _; omega, by show m1.ln = _; exact hE.out.2⟩
  have HF := Lib.hid hfin
  clear hfin
  go_enter Tryz.func172, Tryz.ntmps172
  go_wp2
  all_goals
    go_ret2
    exact ⟨rfl, HF.out⟩

set_option maxRecDepth 100000 in
set_option maxHeartbeats 4000000 in
theorem mdWriteB2 (md : Nat) (m : MdS) (hm : m.ok) (bs : List UInt8) (ab ao : Nat) (c : Nat) (w : World) (hmd : Bk w md 170 m.cells) (hr : Rd w ⟨ab, ao, none⟩ bs) (hl : bs.length = 64) (hnc : 64 ≤ c) (hc : c ≤ 4096) (ha : (⟨ab, ao, none⟩ : Addr).block ≠ md) (h0 : m.nx = 0) :
    Calls Tryz.prog 172 #[.pointer (some ⟨md, 0, none⟩), .slice (some ⟨ab, ao, none⟩) (64) c] w fun e w' => e = .returned (.tuple #[.int .i64 ((64 : Nat) : Int), .nilIface]) ∧ MdTo md m (64) w w' := by
  obtain ⟨ra, rb, rc, rd, hxl, hxr, rn, rl⟩ := hm
  have c68 := md68 hmd hxl
  have c69 := md69 hmd hxl
  have f69 := hmd.frozen 69
  have hmd1 := md69put hmd hxl (IntKind.u64.wrap (m.ln + (64 : Int)))
  have hr1 : Rd (w.setCell ⟨md, 69, none⟩ (.int .u64 (IntKind.u64.wrap (m.ln + (64 : Int))))) ⟨ab, ao, none⟩ bs := hr.far ⟨md, 69, none⟩ (fun e => ha e.symm) _
  have hO := (Only.drewN (md := md) w 0).setCell 69 (.int .u64 (IntKind.u64.wrap (m.ln + (64 : Int))))
  have hO' : Only md w (w.setCell ⟨md, 69, none⟩ (.int .u64 (IntKind.u64.wrap (m.ln + (64 : Int))))) := hO
  have hln : 0 ≤ IntKind.u64.wrap (m.ln + (64 : Int)) ∧ IntKind.u64.wrap (m.ln + (64 : Int)) < 18446744073709551616 := by simp only [IntKind.wrap_u64]; omega
  have eX : (m.withL (IntKind.u64.wrap (m.ln + (64 : Int)))).xs.length = 64 := hxl
  clear hO c68
  generalize hW : w.setCell ⟨md, 69, none⟩ (.int .u64 (IntKind.u64.wrap (m.ln + (64 : Int)))) = W at *
  generalize hm1 : m.withL (IntKind.u64.wrap (m.ln + (64 : Int))) = m1 at *
  have e1 : m1.xs = m.xs ∧ m1.nx = m.nx ∧ m1.ln = IntKind.u64.wrap (m.ln + (64 : Int)) := by subst hm1; exact ⟨rfl, rfl, rfl⟩
  obtain ⟨ex, en, el⟩ := e1
  have hxl1 : m1.xs.length = 64 := by rw [ex]; exact hxl
  have hxr1 : ∀ x ∈ m1.xs, 0 ≤ x ∧ x < 256 := by rw [ex]; exact hxr
  have hw1 : (0 ≤ m1.a ∧ m1.a < 4294967296) ∧ (0 ≤ m1.b ∧ m1.b < 4294967296) ∧ (0 ≤ m1.c ∧ m1.c < 4294967296) ∧ (0 ≤ m1.d ∧ m1.d < 4294967296) := by subst hm1; exact ⟨ra, rb, rc, rd⟩
  have hE := Lib.hid (And.intro en el)
  have c68 : W.cell? ⟨md, 68, none⟩ = some (.int .i64 0) := by rw [md68 hmd1 hxl1, en, h0]; rfl
  clear en el ex
  have han : bits .andNot .i64 64 63 = 64 := by kernel_rfl
  have hHB := rdHB hr1 (by omega)
  go_enter Tryz.func172, Tryz.ntmps172
  go_wp2_with fail
  refine (blockG md m1 hw1 ab ao c (by omega) _ hmd1 hHB).mono ?_
  rintro e W6 ⟨rfl, hO7, y4, y5, y6, y7, hyr, hmd6⟩
  have hfin : MdTo md m 64 w W6 := ⟨hO'.trans hO7, m1.with4 y4 y5 y6 y7, ⟨hyr.1, hyr.2.1, hyr.2.2.1, hyr.2.2.2, hxl1, hxr1, by show m1.nx < 64; rw [hE.out.1]; omega, by show 0 ≤ m1.ln ∧ m1.ln < 18446744073709551616; rw [hE.out.2]; exact hln⟩, hmd6, by show m1.nx = _; rw [hE.out.1]; omega, by show m1.ln = _; exact hE.out.2⟩
  have HF := Lib.hid hfin
  clear hfin
  go_wp2
  all_goals
    go_ret2
    exact ⟨rfl, HF.out⟩
end Go.Proofs.YtlabcknoooaefaaGreatDoor

/-
  md5: Write, as it is called: three bytes at the most, or so many that a block ends.
-/
namespace Go.Proofs.YtlabcknoooaefaaGreatDoor
open Go.RowKit
set_option linter.unusedVariables false

theorem mdWriteS (md : Nat) (m : MdS) (hm : m.ok) (bs : List UInt8) (a : Addr) (n c : Nat) (w : World) (hmd : Bk w md 170 m.cells) (hr : Rd w a bs) (hl : bs.length = n) (hnc : n ≤ c) (hc : c ≤ 4096) (ha : a.block ≠ md) (hn : 0 < n ∧ n ≤ 3) :
    Calls Tryz.prog 172 #[.pointer (some ⟨md, 0, none⟩), .slice (some a) n c] w fun e w' => e = .returned (.tuple #[.int .i64 (n : Int), .nilIface]) ∧ MdTo md m n w w' := by
  have hx := hm.nx
  by_cases h0 : m.nx = 0
  · exact mdWriteB1 md m hm bs a n c w hmd hr hl hnc hc ha h0 hn.1 (by omega)
  · rcases Nat.lt_trichotomy (m.nx + n) 64 with h | h | h
    · exact mdWriteA1 md m hm bs a n c w hmd hr hl hn.1 hnc hc ha (by omega) h
    · exact mdWriteA2 md m hm bs a n c w hmd hr hl hnc hc ha (by omega) h hn.1
    · exact mdWriteA3 md m hm bs a n (64 - m.nx) c w hmd hr hl hnc hc ha (by omega) (by omega) (by omega) (by omega) (by omega)

theorem mdWriteE (md : Nat) (m : MdS) (hm : m.ok) (bs : List UInt8) (ab ao : Nat) (n c : Nat) (w : World) (hmd : Bk w md 170 m.cells) (hr : Rd w ⟨ab, ao, none⟩ bs) (hl : bs.length = n) (hnc : n ≤ c) (hc : c ≤ 4096) (ha : ab ≠ md) (hn : 0 < n ∧ n ≤ 72) (he : (m.nx + n) % 64 = 0) :
    Calls Tryz.prog 172 #[.pointer (some ⟨md, 0, none⟩), .slice (some ⟨ab, ao, none⟩) n c] w fun e w' => e = .returned (.tuple #[.int .i64 (n : Int), .nilIface]) ∧ MdTo md m n w w' := by
  have hx := hm.nx
  by_cases h0 : m.nx = 0
  · have hn64 : n = 64 := by omega
    subst hn64
    exact mdWriteB2 md m hm bs ab ao c w hmd hr hl hnc hc ha h0
  · rcases Nat.lt_or_ge 64 (m.nx + n) with h | h
    · exact mdWriteA4 md m hm bs ab ao n (64 - m.nx) c w hmd hr hl hnc hc ha (by omega) (by omega) (by omega) (by omega) (by omega)
    · exact mdWriteA2 md m hm bs ⟨ab, ao, none⟩ n c w hmd hr hl hnc hc ha (by omega) (by omega) hn.1

/-- A digest whose count and whose place agree. -/
def MdS.fit (m : MdS) : Prop := (m.nx : Int) = m.ln % 64

theorem MdTo.fit {md : Nat} {m : MdS} {n : Nat} {w w' : World} (h : MdTo md m n w w') (hf : m.fit) : Only md w w' ∧ ∃ m' : MdS, m'.ok ∧ Bk w' md 170 m'.cells ∧ m'.nx = (m.nx + n) % 64 ∧ m'.fit := by
  obtain ⟨h1, m', h2, h3, h4, h5⟩ := h
  refine ⟨h1, m', h2, h3, h4, ?_⟩
  unfold MdS.fit at *
  rw [h4, h5]
  simp only [IntKind.wrap_u64]
  omega
end Go.Proofs.YtlabcknoooaefaaGreatDoor

/-
  md5: numbers put into bytes.
-/
namespace Go.Proofs.YtlabcknoooaefaaGreatDoor
open Go.RowKit
set_option linter.unusedVariables false

/-- A block of bytes, whatever its type. -/
def By (w : World) (b : Nat) (t : TypeId) (n : Nat) : Prop := ∃ xs : List Int, xs.length = n ∧ (∀ x ∈ xs, 0 ≤ x ∧ x < 256) ∧ Bk w b t (u8V xs).toArray

theorem By.get {w : World} {b n : Nat} {t : TypeId} (h : By w b t n) (i : Nat) (hi : i < n) : ∃ x : Int, (0 ≤ x ∧ x < 256) ∧ w.cell? ⟨b, i, none⟩ = some (.int .u8 x) := by
  obtain ⟨xs, hl, hr, hb⟩ := h
  refine ⟨xs[i], hr _ (List.getElem_mem _), ?_⟩
  rw [hb.cell]
  simp [u8V, hl, hi]

theorem By.free {w : World} {b n : Nat} {t : TypeId} (h : By w b t n) (i : Nat) : w.frozen? ⟨b, i, none⟩ = false := by
  obtain ⟨xs, hl, hr, hb⟩ := h
  exact hb.frozen i

theorem By.put {w : World} {b n : Nat} {t : TypeId} (h : By w b t n) (i : Nat) (x : Int) (hx : 0 ≤ x ∧ x < 256) : By (w.setCell ⟨b, i, none⟩ (.int .u8 x)) b t n := by
  obtain ⟨xs, hl, hr, hb⟩ := h
  refine ⟨xs.set i x, by simpa using hl, fun y hy => ?_, ?_⟩
  · rcases List.mem_or_eq_of_mem_set hy with h1 | h1
    · exact hr y h1
    · rw [h1]; exact hx
  · have e := hb.put i (.int .u8 x)
    have e2 : ((u8V xs).toArray.setIfInBounds i (.int .u8 x)) = (u8V (xs.set i x)).toArray := by
      rw [← u8V_set]
      simp
    rw [e2] at e
    exact e

theorem By.lt {w : World} {b n : Nat} {t : TypeId} (h : By w b t n) : b < w.heap.size := by
  obtain ⟨xs, hl, hr, hb⟩ := h
  exact hb.lt

set_option maxRecDepth 100000 in
set_option maxHeartbeats 1000000 in
theorem put32 (b N : Nat) (t : TypeId) (o n c : Nat) (v : Int) (hv : 0 ≤ v ∧ v < 4294967296) (w : World) (h : By w b t N) (ho : o + 4 ≤ N) (hn : 4 ≤ n ∧ n ≤ c ∧ c ≤ 4096) :
    Calls Tryz.prog 177 #[.slice (some ⟨b, o, none⟩) n c, .int .u32 v] w fun e w' => e = .returned (.tuple #[]) ∧ By w' b t N ∧ Only b w w' := by
  obtain ⟨x0, _, c0⟩ := h.get o (by omega)
  obtain ⟨x1, _, c1⟩ := h.get (o + 1) (by omega)
  obtain ⟨x2, _, c2⟩ := h.get (o + 2) (by omega)
  obtain ⟨x3, _, c3⟩ := h.get (o + 3) (by omega)
  have f0 := h.free o
  have f1 := h.free (o + 1)
  have f2 := h.free (o + 2)
  have f3 := h.free (o + 3)
  go_enter Tryz.func177, Tryz.ntmps177
  go_wp2_with fail
  go_end0
  have m256 : ∀ y : Int, 0 ≤ y % 256 ∧ y % 256 < 256 := fun y => ⟨Int.emod_nonneg _ (by decide), Int.emod_lt_of_pos _ (by decide)⟩
  exact ⟨rfl, (((h.put _ _ (m256 _)).put _ _ (m256 _)).put _ _ (m256 _)).put _ _ (by omega), ((((Only.drewN w 0).setCell _ _).setCell _ _).setCell _ _).setCell _ _⟩

set_option maxRecDepth 100000 in
set_option maxHeartbeats 1000000 in
theorem put64 (b N : Nat) (t : TypeId) (o n c : Nat) (v : Int) (hv : 0 ≤ v ∧ v < 18446744073709551616) (w : World) (h : By w b t N) (ho : o + 8 ≤ N) (hn : 8 ≤ n ∧ n ≤ c ∧ c ≤ 4096) :
    Calls Tryz.prog 176 #[.slice (some ⟨b, o, none⟩) n c, .int .u64 v] w fun e w' => e = .returned (.tuple #[]) ∧ By w' b t N ∧ Only b w w' := by
  have m256 : ∀ y : Int, 0 ≤ y % 256 ∧ y % 256 < 256 := fun y => ⟨Int.emod_nonneg _ (by decide), Int.emod_lt_of_pos _ (by decide)⟩
  have M256 := Lib.hid m256
  clear m256
  obtain ⟨x7, _, c7⟩ := h.get (o + 7) (by omega)
  go_enter Tryz.func176, Tryz.ntmps176
  go_wp2_with fail
  go_loopg [4] 8 (fun k i wr => ∃ j : Nat, k + j = 8 ∧ i = .int .i64 (j : Int) ∧ By wr b t N ∧ Only b w wr)
  case atStart => exact ⟨0, by omega, rfl, h, Only.drewN w 0⟩
  case round =>
    obtain ⟨j, hgk, rfl, h1, ho1⟩ := hrel
    have HGK := Lib.hid hgk
    have hj : j ≤ 8 := by omega
    clear hgk
    by_cases hlt : j < 8
    · obtain ⟨x, _, cj⟩ := h1.get (o + j) (by omega)
      have fj := h1.free (o + j)
      go_wp2_with fail
      go_roundg (8 - (j + 1))
      case measure => have := HGK.out; omega
      case rel => exact ⟨j + 1, by omega, by simp, h1.put _ _ (M256.out _), ho1.setCell _ _⟩
    · go_wp2_with fail
      go_end0
      exact ⟨rfl, h1, ho1⟩
end Go.Proofs.YtlabcknoooaefaaGreatDoor
