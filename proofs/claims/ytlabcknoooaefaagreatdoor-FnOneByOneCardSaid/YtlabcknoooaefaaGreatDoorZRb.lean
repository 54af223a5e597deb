/-
  RESTS OF A POLYNOMIAL: FixedCoeffs, getLPCResiduals.
-/
import Derived.Test.YtlabcknoooaefaaGreatDoorZBw
import Derived.Test.YtlabcknoooaefaaGreatDoorZCs
namespace Go.Proofs.YtlabcknoooaefaaGreatDoor
open Go.RowKit
set_option linter.unusedVariables false

/-- Block b of type t begins with the values l. -/
def Row (w : World) (b : Nat) (t : TypeId) (l : List Value) : Prop := ∃ cur : Array Value, Bk w b t cur ∧ ∀ (j : Nat) (v : Value), l[j]? = some v → cur[j]? = some v

theorem Row.cell {w : World} {b : Nat} {t : TypeId} {l : List Value} (h : Row w b t l) (j : Nat) (v : Value) (hj : l[j]? = some v) : w.cell? ⟨b, j, none⟩ = some v := by
  obtain ⟨cur, hb, hv⟩ := h
  exact (hb.cell j).trans (hv j v hj)
theorem Row.lt {w : World} {b : Nat} {t : TypeId} {l : List Value} (h : Row w b t l) : b < w.heap.size := by
  obtain ⟨cur, hb, hv⟩ := h
  exact hb.lt
theorem Row.keep {B : Nat} {S : Nat → Prop} {w w' : World} {b : Nat} {t : TypeId} {l : List Value} (h : Row w b t l) (hk : Keep B S w w') (hS : ¬ S b) (ht : t ≠ 5) : Row w' b t l := by
  obtain ⟨cur, hb, hv⟩ := h
  exact ⟨cur, hk.bk hb hS ht, hv⟩
theorem Row.below {B : Nat} {w w' : World} {b : Nat} {t : TypeId} {l : List Value} (h : Row w b t l) (hk : Below B w w') (hS : b < B) : Row w' b t l := by
  obtain ⟨cur, hb, hv⟩ := h
  exact ⟨cur, hb.below hk hS, hv⟩
theorem Row.alloc {w : World} {b : Nat} {t : TypeId} {l : List Value} (h : Row w b t l) (o : Obj) : Row (w.alloc o) b t l := by
  obtain ⟨cur, hb, hv⟩ := h
  exact ⟨cur, hb.alloc o, hv⟩

/-- Samples as they lie in memory. -/
def i32V (l : List Int) : List Value := l.map (.int .i32 ·)

theorem i32V_get {l : List Int} {j : Nat} (hj : j < l.length) : (i32V l)[j]? = some (.int .i32 (l.getD j 0)) := by
  simp [i32V, hj]

def coefL (o : Nat) : List Int := match o with | 0 => [] | 1 => [1] | 2 => [2, -1] | 3 => [3, -3, 1] | _ => [4, -6, 4, -1]

def coefV (o g : Nat) : Value := match o with | 0 => .slice none 0 0 | 1 => .slice (some ⟨g, 0, none⟩) 1 1 | 2 => .slice (some ⟨g + 1, 0, none⟩) 2 2 | 3 => .slice (some ⟨g + 2, 0, none⟩) 3 3 | _ => .slice (some ⟨g + 3, 0, none⟩) 4 4

def coefW (w : World) : World :=
  (((w.alloc (.cells #[.int .i32 1] 21)).alloc (.cells #[.int .i32 2, .int .i32 (-1)] 21)).alloc (.cells #[.int .i32 3, .int .i32 (-3), .int .i32 1] 21)).alloc (.cells #[.int .i32 4, .int .i32 (-6), .int .i32 4, .int .i32 (-1)] 21)

theorem ix0 (a b c d e : Value) (w : World) : (Instr.index 267 (.agg #[a, b, c, d, e]) (.int .i64 0)).run Tryz.prog w = .ok a w := by kernel_rfl
theorem ix1 (a b c d e : Value) (w : World) : (Instr.index 267 (.agg #[a, b, c, d, e]) (.int .i64 1)).run Tryz.prog w = .ok b w := by kernel_rfl
theorem ix2 (a b c d e : Value) (w : World) : (Instr.index 267 (.agg #[a, b, c, d, e]) (.int .i64 2)).run Tryz.prog w = .ok c w := by kernel_rfl
theorem ix3 (a b c d e : Value) (w : World) : (Instr.index 267 (.agg #[a, b, c, d, e]) (.int .i64 3)).run Tryz.prog w = .ok d w := by kernel_rfl
theorem ix4 (a b c d e : Value) (w : World) : (Instr.index 267 (.agg #[a, b, c, d, e]) (.int .i64 4)).run Tryz.prog w = .ok e w := by kernel_rfl

set_option maxRecDepth 100000 in
set_option maxHeartbeats 2000000 in
theorem fixedCoeffs (o : Nat) (ho : o ≤ 4) (w : World) : Calls Tryz.prog 105 #[.int .i64 o] w fun e w' => e = .returned (coefV o w.heap.size) ∧ coefW w = w' := by
  have hcs : o = 0 ∨ o = 1 ∨ o = 2 ∨ o = 3 ∨ o = 4 := by omega
  have x0 := ix0
  have x1 := ix1
  have x2 := ix2
  have x3 := ix3
  have x4 := ix4
  rcases hcs with rfl | rfl | rfl | rfl | rfl
  all_goals
    go_enter Tryz.func105, Tryz.ntmps105
    go_wp2
    go_ret
    exact ⟨rfl, rfl⟩
end Go.Proofs.YtlabcknoooaefaaGreatDoor

/-
  RESTS OF A POLYNOMIAL: getLPCResiduals.
-/
namespace Go.Proofs.YtlabcknoooaefaaGreatDoor
open Go.RowKit
set_option linter.unusedVariables false

/-- What is foreseen of sample i. -/
def predL (o : Nat) (l : List Int) (i : Nat) : Int :=
  match o with
  | 0 => 0
  | 1 => l.getD (i - 1) 0
  | 2 => 2 * l.getD (i - 1) 0 - l.getD (i - 2) 0
  | 3 => 3 * l.getD (i - 1) 0 - 3 * l.getD (i - 2) 0 + l.getD (i - 3) 0
  | _ => 4 * l.getD (i - 1) 0 - 6 * l.getD (i - 2) 0 + 4 * l.getD (i - 3) 0 - l.getD (i - 4) 0

def restL (o : Nat) (l : List Int) (i : Nat) : Int := IntKind.wrap .i32 (l.getD i 0 - IntKind.wrap .i32 (predL o l i))

/-- The first k rests. -/
def restsL (o : Nat) (l : List Int) : Nat → List Int
  | 0 => []
  | k + 1 => restsL o l k ++ [restL o l (o + k)]

theorem restsL_len (o : Nat) (l : List Int) (k : Nat) : (restsL o l k).length = k := by
  induction k with
  | zero => rfl
  | succ k ih => simp [restsL, ih]

theorem restsL_range (o : Nat) (l : List Int) (k : Nat) : ∀ v ∈ restsL o l k, -2147483648 ≤ v ∧ v < 2147483648 := by
  induction k with
  | zero => intro v hv; simp [restsL] at hv
  | succ k ih =>
    intro v hv
    simp only [restsL, List.mem_append, List.mem_singleton] at hv
    rcases hv with hv | rfl
    · exact ih v hv
    · unfold restL
      simp only [IntKind.wrap_i32]
      omega

theorem info21 : (Tryz.prog.info? 21).map (fun i => (i.zero, i.size, i.bytes)) = some (some (.int .i32 0), 1, 4) := by kernel_rfl

theorem coefRow (o : Nat) (ho : o ≤ 4) (h1 : 0 < o) (w : World) : ∃ g, coefV o w.heap.size = .slice (some ⟨g, 0, none⟩) o o ∧ w.heap.size ≤ g ∧ Row (coefW w) g 21 (i32V (coefL o)) := by
  have hcs : o = 1 ∨ o = 2 ∨ o = 3 ∨ o = 4 := by omega
  unfold coefW
  rcases hcs with rfl | rfl | rfl | rfl
  · refine ⟨_, rfl, by omega, _, (((Bk.newAt _ _ _ _ rfl).alloc _).alloc _).alloc _, ?_⟩
    intro j v hj
    simpa [i32V, coefL] using hj
  · refine ⟨_, rfl, by omega, _, ((Bk.newAt _ _ _ _ (by simp)).alloc _).alloc _, ?_⟩
    intro j v hj
    simpa [i32V, coefL] using hj
  · refine ⟨_, rfl, by omega, _, (Bk.newAt _ _ _ _ (by simp)).alloc _, ?_⟩
    intro j v hj
    simpa [i32V, coefL] using hj
  · refine ⟨_, rfl, by omega, _, Bk.newAt _ _ _ _ (by simp), ?_⟩
    intro j v hj
    simpa [i32V, coefL] using hj

set_option maxRecDepth 100000 in
set_option maxHeartbeats 4000000 in
theorem lpc0 (w : World) (sb mb g : Nat) (l : List Int) (hl : 1 ≤ l.length ∧ l.length ≤ 256) (ho : 0 < l.length) (hr : ∀ j, -2147483648 ≤ l.getD j 0 ∧ l.getD j 0 < 2147483648) (kd m p s : Int) (cf rp : Value) (scap : Nat) (hsc : l.length ≤ scap ∧ scap ≤ maxLen)
    (hsb : Bk w sb 130 #[.int .u8 kd, .int .i64 (0 : Nat), .int .u64 0, .int .u8 m, .int .u64 p, .int .i32 s, cf, rp, .slice (some ⟨mb, 0, none⟩) l.length scap, .int .i64 l.length]) (hmb : Row w mb 21 (i32V l)) :
    Calls Tryz.prog 104 #[.pointer (some ⟨sb, 0, none⟩), .slice none 0 0, .int .i32 0] w fun e w' => ∃ v, e = .returned (.tuple #[v, .nilIface]) ∧ w'.ownsRow w.heap.size 21 1 v (l.length - 0) (i32V (restsL 0 l (l.length - 0))) ∧ Below w.heap.size w w' := by
  obtain ⟨i0, hi, hz0, hz1, hz2⟩ := info_parts info21
  have c1 := hsb.cell 1
  have c8 := hsb.cell 8
  have c9 := hsb.cell 9
  simp at c1 c8 c9
  have HR := Lib.hid hr
  clear hr
  go_enter Tryz.func104, Tryz.ntmps104
  go_wp2
  go_region
  go_wp2
  go_loopw [8, 9] (fun v i wr => ∃ k : Nat, k ≤ l.length - 0 ∧ i = .int .i64 ((0 + k : Nat) : Int) ∧ wr.ownsRow w.heap.size 21 1 v k (i32V (restsL 0 l k)) ∧ Below w.heap.size w wr) (fun _ i _ => l.length - (intOf i).toNat)
  case atStart => exact ⟨0, by omega, rfl, World.ownsRow_nil _ _ _ _, (Below.refl _ _).drew⟩
  case round =>
    obtain ⟨k, hk, rfl, hown, hbl⟩ := hrel
    have hsb' := hsb.below hbl hsb.lt
    have c8 := hsb'.cell 8
    have c9 := hsb'.cell 9
    simp at c8 c9
    by_cases hlt : 0 + k < l.length
    · have hm := hmb.below hbl hmb.lt
      have cs0 := hm.cell (k) _ (i32V_get (by omega))
      have r0 := HR.out (k)
      have hrest : restL 0 l (0 + k) = IntKind.wrap .i32 (l.getD (k) 0 - IntKind.wrap .i32 (0)) := by
        simp only [restL, predL]
        rw [Nat.zero_add]
      have HRS := Lib.hid hrest
      clear hrest
      generalize hxs : restL 0 l (0 + k) = xr at HRS
      generalize l.getD (k) 0 = x0 at *
      have HO := Lib.hid hown
      have hsz := hbl.size
      clear hown
      go_wp2_with fail
      refine wp_loop_rounds 1 ?_
      rw [rounds_succ]
      go_wp2_with (at_builtin; refine wpList_append_own _ rfl (.tmp 87) (.tmp 89) 39 rfl w.heap.size 21 i0 (.int .i32 0) 1 4 Tryz.underlying39 hi hz0 hz1 hz2 rfl (by decide) _ _ _ rfl (HO.out.alloc _) ⟨wr.heap.size, 0, none⟩ 1 1 [_] rfl rfl (cell_one_new _ _ _) (fun x hx => by simp at hx; subst hx; rfl) (by unfold maxLen; omega) (by omega) (by simp; omega) ?_; intro v1 w3 hown3 hgrow3 hnil3)
      have hb4 := (hbl.alloc hsz _).grown hgrow3 (by simp; omega) (fun q hq => (HO.out.lt q hq).1)
      have hoN : w3.ownsRow w.heap.size 21 1 v1 (k + 1) (i32V (restsL 0 l (k + 1))) := by
        simp only [restsL, i32V, List.map_append, List.map_cons, List.map_nil]
        rw [hxs]
        have e := HRS.out
        simp only [IntKind.wrap_i32] at e
        rw [e]
        refine Eq.mp ?_ hown3
        congr 3
        congr 1
        try unfold wrap32
        omega
      exact ⟨⟨k + 1, by omega, by simp <;> omega, hoN, hb4⟩, by simp [intOf] <;> omega⟩
    · go_wp2
      go_ret2
      have hke : k = l.length - 0 := by omega
      subst hke
      exact ⟨_, rfl, hown, hbl⟩

set_option maxRecDepth 100000 in
set_option maxHeartbeats 4000000 in
theorem lpc1 (w : World) (sb mb g : Nat) (l : List Int) (hl : 1 ≤ l.length ∧ l.length ≤ 256) (ho : 1 < l.length) (hr : ∀ j, -2147483648 ≤ l.getD j 0 ∧ l.getD j 0 < 2147483648) (kd m p s : Int) (cf rp : Value) (scap : Nat) (hsc : l.length ≤ scap ∧ scap ≤ maxLen)
    (hsb : Bk w sb 130 #[.int .u8 kd, .int .i64 (1 : Nat), .int .u64 0, .int .u8 m, .int .u64 p, .int .i32 s, cf, rp, .slice (some ⟨mb, 0, none⟩) l.length scap, .int .i64 l.length]) (hmb : Row w mb 21 (i32V l)) (hco : Row w g 21 (i32V (coefL 1))) :
    Calls Tryz.prog 104 #[.pointer (some ⟨sb, 0, none⟩), .slice (some ⟨g, 0, none⟩) 1 1, .int .i32 0] w fun e w' => ∃ v, e = .returned (.tuple #[v, .nilIface]) ∧ w'.ownsRow w.heap.size 21 1 v (l.length - 1) (i32V (restsL 1 l (l.length - 1))) ∧ Below w.heap.size w w' := by
  obtain ⟨i0, hi, hz0, hz1, hz2⟩ := info_parts info21
  have c1 := hsb.cell 1
  have c8 := hsb.cell 8
  have c9 := hsb.cell 9
  simp at c1 c8 c9
  have HR := Lib.hid hr
  clear hr
  go_enter Tryz.func104, Tryz.ntmps104
  go_wp2
  go_region
  go_wp2
  go_loopw [8, 9] (fun v i wr => ∃ k : Nat, k ≤ l.length - 1 ∧ i = .int .i64 ((1 + k : Nat) : Int) ∧ wr.ownsRow w.heap.size 21 1 v k (i32V (restsL 1 l k)) ∧ Below w.heap.size w wr) (fun _ i _ => l.length - (intOf i).toNat)
  case atStart => exact ⟨0, by omega, rfl, World.ownsRow_nil _ _ _ _, (Below.refl _ _).drew⟩
  case round =>
    obtain ⟨k, hk, rfl, hown, hbl⟩ := hrel
    have hsb' := hsb.below hbl hsb.lt
    have c8 := hsb'.cell 8
    have c9 := hsb'.cell 9
    simp at c8 c9
    by_cases hlt : 1 + k < l.length
    · have hm := hmb.below hbl hmb.lt
      have hc := hco.below hbl hco.lt
      have cs0 := hm.cell (1 + k) _ (i32V_get (by omega))
      have cs1 := hm.cell (k) _ (i32V_get (by omega))
      have co0 := hc.cell 0 (.int .i32 (1)) rfl
      have r0 := HR.out (1 + k)
      have r1 := HR.out (k)
      have hrest : restL 1 l (1 + k) = IntKind.wrap .i32 (l.getD (1 + k) 0 - IntKind.wrap .i32 ((1) * l.getD (k) 0)) := by
        simp only [restL, predL]
        rw [show 1 + k - 1 = k from by omega]
        congr 2; congr 1; omega
      have HRS := Lib.hid hrest
      clear hrest
      generalize hxs : restL 1 l (1 + k) = xr at HRS
      generalize l.getD (1 + k) 0 = x0 at *
      generalize l.getD (k) 0 = x1 at *
      have HO := Lib.hid hown
      have hsz := hbl.size
      clear hown
      go_wp2_with fail
      refine wp_loop_rounds 2 ?_
      rw [rounds_succ]
      go_wp2_with fail
      rw [rounds_succ]
      go_wp2_with (at_builtin; refine wpList_append_own _ rfl (.tmp 87) (.tmp 89) 39 rfl w.heap.size 21 i0 (.int .i32 0) 1 4 Tryz.underlying39 hi hz0 hz1 hz2 rfl (by decide) _ _ _ rfl (HO.out.alloc _) ⟨wr.heap.size, 0, none⟩ 1 1 [_] rfl rfl (cell_one_new _ _ _) (fun x hx => by simp at hx; subst hx; rfl) (by unfold maxLen; omega) (by omega) (by simp; omega) ?_; intro v1 w3 hown3 hgrow3 hnil3)
      have hb4 := (hbl.alloc hsz _).grown hgrow3 (by simp; omega) (fun q hq => (HO.out.lt q hq).1)
      have hoN : w3.ownsRow w.heap.size 21 1 v1 (k + 1) (i32V (restsL 1 l (k + 1))) := by
        simp only [restsL, i32V, List.map_append, List.map_cons, List.map_nil]
        rw [hxs]
        have e := HRS.out
        simp only [IntKind.wrap_i32] at e
        rw [e]
        refine Eq.mp ?_ hown3
        congr 3
        congr 1
        try unfold wrap32
        omega
      exact ⟨⟨k + 1, by omega, by simp <;> omega, hoN, hb4⟩, by simp [intOf] <;> omega⟩
    · go_wp2
      go_ret2
      have hke : k = l.length - 1 := by omega
      subst hke
      exact ⟨_, rfl, hown, hbl⟩

set_option maxRecDepth 100000 in
set_option maxHeartbeats 4000000 in
theorem lpc2 (w : World) (sb mb g : Nat) (l : List Int) (hl : 1 ≤ l.length ∧ l.length ≤ 256) (ho : 2 < l.length) (hr : ∀ j, -2147483648 ≤ l.getD j 0 ∧ l.getD j 0 < 2147483648) (kd m p s : Int) (cf rp : Value) (scap : Nat) (hsc : l.length ≤ scap ∧ scap ≤ maxLen)
    (hsb : Bk w sb 130 #[.int .u8 kd, .int .i64 (2 : Nat), .int .u64 0, .int .u8 m, .int .u64 p, .int .i32 s, cf, rp, .slice (some ⟨mb, 0, none⟩) l.length scap, .int .i64 l.length]) (hmb : Row w mb 21 (i32V l)) (hco : Row w g 21 (i32V (coefL 2))) :
    Calls Tryz.prog 104 #[.pointer (some ⟨sb, 0, none⟩), .slice (some ⟨g, 0, none⟩) 2 2, .int .i32 0] w fun e w' => ∃ v, e = .returned (.tuple #[v, .nilIface]) ∧ w'.ownsRow w.heap.size 21 1 v (l.length - 2) (i32V (restsL 2 l (l.length - 2))) ∧ Below w.heap.size w w' := by
  obtain ⟨i0, hi, hz0, hz1, hz2⟩ := info_parts info21
  have c1 := hsb.cell 1
  have c8 := hsb.cell 8
  have c9 := hsb.cell 9
  simp at c1 c8 c9
  have HR := Lib.hid hr
  clear hr
  go_enter Tryz.func104, Tryz.ntmps104
  go_wp2
  go_region
  go_wp2
  go_loopw [8, 9] (fun v i wr => ∃ k : Nat, k ≤ l.length - 2 ∧ i = .int .i64 ((2 + k : Nat) : Int) ∧ wr.ownsRow w.heap.size 21 1 v k (i32V (restsL 2 l k)) ∧ Below w.heap.size w wr) (fun _ i _ => l.length - (intOf i).toNat)
  case atStart => exact ⟨0, by omega, rfl, World.ownsRow_nil _ _ _ _, (Below.refl _ _).drew⟩
  case round =>
    obtain ⟨k, hk, rfl, hown, hbl⟩ := hrel
    have hsb' := hsb.below hbl hsb.lt
    have c8 := hsb'.cell 8
    have c9 := hsb'.cell 9
    simp at c8 c9
    by_cases hlt : 2 + k < l.length
    · have hm := hmb.below hbl hmb.lt
      have hc := hco.below hbl hco.lt
      have cs0 := hm.cell (2 + k) _ (i32V_get (by omega))
      have cs1 := hm.cell (1 + k) _ (i32V_get (by omega))
      have cs2 := hm.cell (k) _ (i32V_get (by omega))
      have co0 := hc.cell 0 (.int .i32 (2)) rfl
      have co1 := hc.cell 1 (.int .i32 (-1)) rfl
      have r0 := HR.out (2 + k)
      have r1 := HR.out (1 + k)
      have r2 := HR.out (k)
      have hrest : restL 2 l (2 + k) = IntKind.wrap .i32 (l.getD (2 + k) 0 - IntKind.wrap .i32 ((2) * l.getD (1 + k) 0 + (-1) * l.getD (k) 0)) := by
        simp only [restL, predL]
        rw [show 2 + k - 1 = 1 + k from by omega]
        rw [show 2 + k - 2 = k from by omega]
        congr 2; congr 1; omega
      have HRS := Lib.hid hrest
      clear hrest
      generalize hxs : restL 2 l (2 + k) = xr at HRS
      generalize l.getD (2 + k) 0 = x0 at *
      generalize l.getD (1 + k) 0 = x1 at *
      generalize l.getD (k) 0 = x2 at *
      have HO := Lib.hid hown
      have hsz := hbl.size
      clear hown
      go_wp2_with fail
      refine wp_loop_rounds 3 ?_
      rw [rounds_succ]
      go_wp2_with fail
      rw [rounds_succ]
      go_wp2_with fail
      rw [rounds_succ]
      go_wp2_with (at_builtin; refine wpList_append_own _ rfl (.tmp 87) (.tmp 89) 39 rfl w.heap.size 21 i0 (.int .i32 0) 1 4 Tryz.underlying39 hi hz0 hz1 hz2 rfl (by decide) _ _ _ rfl (HO.out.alloc _) ⟨wr.heap.size, 0, none⟩ 1 1 [_] rfl rfl (cell_one_new _ _ _) (fun x hx => by simp at hx; subst hx; rfl) (by unfold maxLen; omega) (by omega) (by simp; omega) ?_; intro v1 w3 hown3 hgrow3 hnil3)
      have hb4 := (hbl.alloc hsz _).grown hgrow3 (by simp; omega) (fun q hq => (HO.out.lt q hq).1)
      have hoN : w3.ownsRow w.heap.size 21 1 v1 (k + 1) (i32V (restsL 2 l (k + 1))) := by
        simp only [restsL, i32V, List.map_append, List.map_cons, List.map_nil]
        rw [hxs]
        have e := HRS.out
        simp only [IntKind.wrap_i32] at e
        rw [e]
        refine Eq.mp ?_ hown3
        congr 3
        congr 1
        try unfold wrap32
        omega
      exact ⟨⟨k + 1, by omega, by simp <;> omega, hoN, hb4⟩, by simp [intOf] <;> omega⟩
    · go_wp2
      go_ret2
      have hke : k = l.length - 2 := by omega
      subst hke
      exact ⟨_, rfl, hown, hbl⟩

set_option maxRecDepth 100000 in
set_option maxHeartbeats 4000000 in
theorem lpc3 (w : World) (sb mb g : Nat) (l : List Int) (hl : 1 ≤ l.length ∧ l.length ≤ 256) (ho : 3 < l.length) (hr : ∀ j, -2147483648 ≤ l.getD j 0 ∧ l.getD j 0 < 2147483648) (kd m p s : Int) (cf rp : Value) (scap : Nat) (hsc : l.length ≤ scap ∧ scap ≤ maxLen)
    (hsb : Bk w sb 130 #[.int .u8 kd, .int .i64 (3 : Nat), .int .u64 0, .int .u8 m, .int .u64 p, .int .i32 s, cf, rp, .slice (some ⟨mb, 0, none⟩) l.length scap, .int .i64 l.length]) (hmb : Row w mb 21 (i32V l)) (hco : Row w g 21 (i32V (coefL 3))) :
    Calls Tryz.prog 104 #[.pointer (some ⟨sb, 0, none⟩), .slice (some ⟨g, 0, none⟩) 3 3, .int .i32 0] w fun e w' => ∃ v, e = .returned (.tuple #[v, .nilIface]) ∧ w'.ownsRow w.heap.size 21 1 v (l.length - 3) (i32V (restsL 3 l (l.length - 3))) ∧ Below w.heap.size w w' := by
  obtain ⟨i0, hi, hz0, hz1, hz2⟩ := info_parts info21
  have c1 := hsb.cell 1
  have c8 := hsb.cell 8
  have c9 := hsb.cell 9
  simp at c1 c8 c9
  have HR := Lib.hid hr
  clear hr
  go_enter Tryz.func104, Tryz.ntmps104
  go_wp2
  go_region
  go_wp2
  go_loopw [8, 9] (fun v i wr => ∃ k : Nat, k ≤ l.length - 3 ∧ i = .int .i64 ((3 + k : Nat) : Int) ∧ wr.ownsRow w.heap.size 21 1 v k (i32V (restsL 3 l k)) ∧ Below w.heap.size w wr) (fun _ i _ => l.length - (intOf i).toNat)
  case atStart => exact ⟨0, by omega, rfl, World.ownsRow_nil _ _ _ _, (Below.refl _ _).drew⟩
  case round =>
    obtain ⟨k, hk, rfl, hown, hbl⟩ := hrel
    have hsb' := hsb.below hbl hsb.lt
    have c8 := hsb'.cell 8
    have c9 := hsb'.cell 9
    simp at c8 c9
    by_cases hlt : 3 + k < l.length
    · have hm := hmb.below hbl hmb.lt
      have hc := hco.below hbl hco.lt
      have cs0 := hm.cell (3 + k) _ (i32V_get (by omega))
      have cs1 := hm.cell (2 + k) _ (i32V_get (by omega))
      have cs2 := hm.cell (1 + k) _ (i32V_get (by omega))
      have cs3 := hm.cell (k) _ (i32V_get (by omega))
      rw [show (k) = 3 + k - 2 - 1 from by omega] at cs3
      have ce3 : 3 + k - 2 - 1 = (k) := by omega
      have co0 := hc.cell 0 (.int .i32 (3)) rfl
      have co1 := hc.cell 1 (.int .i32 (-3)) rfl
      have co2 := hc.cell 2 (.int .i32 (1)) rfl
      have r0 := HR.out (3 + k)
      have r1 := HR.out (2 + k)
      have r2 := HR.out (1 + k)
      have r3 := HR.out (k)
      have hrest : restL 3 l (3 + k) = IntKind.wrap .i32 (l.getD (3 + k) 0 - IntKind.wrap .i32 ((3) * l.getD (2 + k) 0 + (-3) * l.getD (1 + k) 0 + (1) * l.getD (k) 0)) := by
        simp only [restL, predL]
        rw [show 3 + k - 1 = 2 + k from by omega]
        rw [show 3 + k - 2 = 1 + k from by omega]
        rw [show 3 + k - 3 = k from by omega]
        congr 2; congr 1; omega
      have HRS := Lib.hid hrest
      clear hrest
      generalize hxs : restL 3 l (3 + k) = xr at HRS
      generalize l.getD (3 + k) 0 = x0 at *
      generalize l.getD (2 + k) 0 = x1 at *
      generalize l.getD (1 + k) 0 = x2 at *
      rw [ce3] at cs3
      have cf3 : wr.cell? ⟨mb, 3 + k - 2 - 1, none⟩ = some (.int .i32 (l.getD (k) 0)) := by rw [ce3]; exact cs3
      clear ce3
      generalize l.getD (k) 0 = x3 at *
      have HO := Lib.hid hown
      have hsz := hbl.size
      clear hown
      go_wp2_with fail
      refine wp_loop_rounds 4 ?_
      rw [rounds_succ]
      go_wp2_with fail
      rw [rounds_succ]
      go_wp2_with fail
      rw [rounds_succ]
      go_wp2_with fail
      rw [rounds_succ]
      go_wp2_with (at_builtin; refine wpList_append_own _ rfl (.tmp 87) (.tmp 89) 39 rfl w.heap.size 21 i0 (.int .i32 0) 1 4 Tryz.underlying39 hi hz0 hz1 hz2 rfl (by decide) _ _ _ rfl (HO.out.alloc _) ⟨wr.heap.size, 0, none⟩ 1 1 [_] rfl rfl (cell_one_new _ _ _) (fun x hx => by simp at hx; subst hx; rfl) (by unfold maxLen; omega) (by omega) (by simp; omega) ?_; intro v1 w3 hown3 hgrow3 hnil3)
      have hb4 := (hbl.alloc hsz _).grown hgrow3 (by simp; omega) (fun q hq => (HO.out.lt q hq).1)
      have hoN : w3.ownsRow w.heap.size 21 1 v1 (k + 1) (i32V (restsL 3 l (k + 1))) := by
        simp only [restsL, i32V, List.map_append, List.map_cons, List.map_nil]
        rw [hxs]
        have e := HRS.out
        simp only [IntKind.wrap_i32] at e
        rw [e]
        refine Eq.mp ?_ hown3
        congr 3
        congr 1
        try unfold wrap32
        omega
      exact ⟨⟨k + 1, by omega, by simp <;> omega, hoN, hb4⟩, by simp [intOf] <;> omega⟩
    · go_wp2
      go_ret2
      have hke : k = l.length - 3 := by omega
      subst hke
      exact ⟨_, rfl, hown, hbl⟩

set_option maxRecDepth 100000 in
set_option maxHeartbeats 4000000 in
theorem lpc4 (w : World) (sb mb g : Nat) (l : List Int) (hl : 1 ≤ l.length ∧ l.length ≤ 256) (ho : 4 < l.length) (hr : ∀ j, -2147483648 ≤ l.getD j 0 ∧ l.getD j 0 < 2147483648) (kd m p s : Int) (cf rp : Value) (scap : Nat) (hsc : l.length ≤ scap ∧ scap ≤ maxLen)
    (hsb : Bk w sb 130 #[.int .u8 kd, .int .i64 (4 : Nat), .int .u64 0, .int .u8 m, .int .u64 p, .int .i32 s, cf, rp, .slice (some ⟨mb, 0, none⟩) l.length scap, .int .i64 l.length]) (hmb : Row w mb 21 (i32V l)) (hco : Row w g 21 (i32V (coefL 4))) :
    Calls Tryz.prog 104 #[.pointer (some ⟨sb, 0, none⟩), .slice (some ⟨g, 0, none⟩) 4 4, .int .i32 0] w fun e w' => ∃ v, e = .returned (.tuple #[v, .nilIface]) ∧ w'.ownsRow w.heap.size 21 1 v (l.length - 4) (i32V (restsL 4 l (l.length - 4))) ∧ Below w.heap.size w w' := by
  obtain ⟨i0, hi, hz0, hz1, hz2⟩ := info_parts info21
  have c1 := hsb.cell 1
  have c8 := hsb.cell 8
  have c9 := hsb.cell 9
  simp at c1 c8 c9
  have HR := Lib.hid hr
  clear hr
  go_enter Tryz.func104, Tryz.ntmps104
  go_wp2
  go_region
  go_wp2
  go_loopw [8, 9] (fun v i wr => ∃ k : Nat, k ≤ l.length - 4 ∧ i = .int .i64 ((4 + k : Nat) : Int) ∧ wr.ownsRow w.heap.size 21 1 v k (i32V (restsL 4 l k)) ∧ Below w.heap.size w wr) (fun _ i _ => l.length - (intOf i).toNat)
  case atStart => exact ⟨0, by omega, rfl, World.ownsRow_nil _ _ _ _, (Below.refl _ _).drew⟩
  case round =>
    obtain ⟨k, hk, rfl, hown, hbl⟩ := hrel
    have hsb' := hsb.below hbl hsb.lt
    have c8 := hsb'.cell 8
    have c9 := hsb'.cell 9
    simp at c8 c9
    by_cases hlt : 4 + k < l.length
    · have hm := hmb.below hbl hmb.lt
      have hc := hco.below hbl hco.lt
      have cs0 := hm.cell (4 + k) _ (i32V_get (by omega))
      have cs1 := hm.cell (3 + k) _ (i32V_get (by omega))
      have cs2 := hm.cell (2 + k) _ (i32V_get (by omega))
      have cs3 := hm.cell (1 + k) _ (i32V_get (by omega))
      rw [show (1 + k) = 4 + k - 2 - 1 from by omega] at cs3
      have ce3 : 4 + k - 2 - 1 = (1 + k) := by omega
      have cs4 := hm.cell (k) _ (i32V_get (by omega))
      rw [show (k) = 4 + k - 3 - 1 from by omega] at cs4
      have ce4 : 4 + k - 3 - 1 = (k) := by omega
      have co0 := hc.cell 0 (.int .i32 (4)) rfl
      have co1 := hc.cell 1 (.int .i32 (-6)) rfl
      have co2 := hc.cell 2 (.int .i32 (4)) rfl
      have co3 := hc.cell 3 (.int .i32 (-1)) rfl
      have r0 := HR.out (4 + k)
      have r1 := HR.out (3 + k)
      have r2 := HR.out (2 + k)
      have r3 := HR.out (1 + k)
      have r4 := HR.out (k)
      have hrest : restL 4 l (4 + k) = IntKind.wrap .i32 (l.getD (4 + k) 0 - IntKind.wrap .i32 ((4) * l.getD (3 + k) 0 + (-6) * l.getD (2 + k) 0 + (4) * l.getD (1 + k) 0 + (-1) * l.getD (k) 0)) := by
        simp only [restL, predL]
        rw [show 4 + k - 1 = 3 + k from by omega]
        rw [show 4 + k - 2 = 2 + k from by omega]
        rw [show 4 + k - 3 = 1 + k from by omega]
        rw [show 4 + k - 4 = k from by omega]
        congr 2; congr 1; omega
      have HRS := Lib.hid hrest
      clear hrest
      generalize hxs : restL 4 l (4 + k) = xr at HRS
      generalize l.getD (4 + k) 0 = x0 at *
      generalize l.getD (3 + k) 0 = x1 at *
      generalize l.getD (2 + k) 0 = x2 at *
      rw [ce3] at cs3
      have cf3 : wr.cell? ⟨mb, 4 + k - 2 - 1, none⟩ = some (.int .i32 (l.getD (1 + k) 0)) := by rw [ce3]; exact cs3
      clear ce3
      generalize l.getD (1 + k) 0 = x3 at *
      rw [ce4] at cs4
      have cf4 : wr.cell? ⟨mb, 4 + k - 3 - 1, none⟩ = some (.int .i32 (l.getD (k) 0)) := by rw [ce4]; exact cs4
      clear ce4
      generalize l.getD (k) 0 = x4 at *
      have HO := Lib.hid hown
      have hsz := hbl.size
      clear hown
      go_wp2_with fail
      refine wp_loop_rounds 5 ?_
      rw [rounds_succ]
      go_wp2_with fail
      rw [rounds_succ]
      go_wp2_with fail
      rw [rounds_succ]
      go_wp2_with fail
      rw [rounds_succ]
      go_wp2_with fail
      rw [rounds_succ]
      go_wp2_with (at_builtin; refine wpList_append_own _ rfl (.tmp 87) (.tmp 89) 39 rfl w.heap.size 21 i0 (.int .i32 0) 1 4 Tryz.underlying39 hi hz0 hz1 hz2 rfl (by decide) _ _ _ rfl (HO.out.alloc _) ⟨wr.heap.size, 0, none⟩ 1 1 [_] rfl rfl (cell_one_new _ _ _) (fun x hx => by simp at hx; subst hx; rfl) (by unfold maxLen; omega) (by omega) (by simp; omega) ?_; intro v1 w3 hown3 hgrow3 hnil3)
      have hb4 := (hbl.alloc hsz _).grown hgrow3 (by simp; omega) (fun q hq => (HO.out.lt q hq).1)
      have hoN : w3.ownsRow w.heap.size 21 1 v1 (k + 1) (i32V (restsL 4 l (k + 1))) := by
        simp only [restsL, i32V, List.map_append, List.map_cons, List.map_nil]
        rw [hxs]
        have e := HRS.out
        simp only [IntKind.wrap_i32] at e
        rw [e]
        refine Eq.mp ?_ hown3
        congr 3
        congr 1
        try unfold wrap32
        omega
      exact ⟨⟨k + 1, by omega, by simp <;> omega, hoN, hb4⟩, by simp [intOf] <;> omega⟩
    · go_wp2
      go_ret2
      have hke : k = l.length - 4 := by omega
      subst hke
      exact ⟨_, rfl, hown, hbl⟩

/-- A subframe's numbers. -/
structure SubD where
  kind : Int
  order : Nat
  part : Nat
  params : List Int
  samples : List Int

structure SubD.ok (d : SubD) : Prop where
  kind : d.kind = 0 ∨ d.kind = 1 ∨ d.kind = 2
  order : d.order ≤ 4
  part : d.part ≤ 2
  np : d.params.length = 2 ^ d.part
  par : ∀ v ∈ d.params, 4 ≤ v ∧ v ≤ 14
  len : 1 ≤ d.samples.length ∧ d.samples.length ≤ 256
  more : d.order < d.samples.length / 2 ^ d.part
  div : d.samples.length % 2 ^ d.part = 0
  rng : ∀ j, -2147483648 ≤ d.samples.getD j 0 ∧ d.samples.getD j 0 < 2147483648
  same : d.kind = 0 → ∀ v ∈ d.samples, v = d.samples.getD 0 0

/-- Parts' numbers as they lie in memory, two cells each. -/
def partV (l : List Int) : List Value := l.flatMap fun p => [.int .u64 p, .int .u64 0]

/-- A subframe as it lies in memory. -/
structure SubAt (d : SubD) (sb rb mb pb : Nat) (prec : Int) (cf : Value) (scap pcap : Nat) (w : World) : Prop where
  sub : Bk w sb 130 #[.int .u8 d.kind, .int .i64 d.order, .int .u64 0, .int .u8 0, .int .u64 prec, .int .i32 0, cf, .pointer (some ⟨rb, 0, none⟩), .slice (some ⟨mb, 0, none⟩) d.samples.length scap, .int .i64 d.samples.length]
  rice : Bk w rb 134 #[.int .i64 d.part, .slice (some ⟨pb, 0, none⟩) d.params.length pcap]
  smp : Row w mb 21 (i32V d.samples)
  prt : Row w pb 136 (partV d.params)
  scap : d.samples.length ≤ scap ∧ scap ≤ maxLen
  pcap : d.params.length ≤ pcap ∧ pcap ≤ maxLen

/-- The rests of a subframe. -/
theorem lpcAny (d : SubD) (hd : d.ok) (sb rb mb pb : Nat) (prec : Int) (cf : Value) (scap pcap : Nat) (w : World) (h : SubAt d sb rb mb pb prec cf scap pcap w) (w0 : World) (hb : Below w0.heap.size w0 w) (hlt : sb < w0.heap.size ∧ mb < w0.heap.size) (hw : w = coefW w0) :
    Calls Tryz.prog 104 #[.pointer (some ⟨sb, 0, none⟩), coefV d.order w0.heap.size, .int .i32 0] w fun e w' => ∃ v, e = .returned (.tuple #[v, .nilIface]) ∧ w'.ownsRow w.heap.size 21 1 v (d.samples.length - d.order) (i32V (restsL d.order d.samples (d.samples.length - d.order))) ∧ Below w.heap.size w w' := by
  have ho := hd.order
  have hm : d.order < d.samples.length := Nat.lt_of_lt_of_le hd.more (Nat.div_le_self _ _)
  have hcs : d.order = 0 ∨ 0 < d.order := by omega
  have hs := h.sub
  rcases hcs with e | e
  · rw [e] at hs hm ⊢
    exact lpc0 w sb mb 0 d.samples hd.len hm hd.rng _ _ _ _ cf _ scap h.scap hs h.smp
  · obtain ⟨g, hg, hge, hrow⟩ := coefRow d.order ho e w0
    rw [hg]
    rw [← hw] at hrow
    have h5 : d.order = 1 ∨ d.order = 2 ∨ d.order = 3 ∨ d.order = 4 := by omega
    rcases h5 with e | e | e | e
    · rw [e] at hs hm hrow ⊢
      exact lpc1 w sb mb g d.samples hd.len hm hd.rng _ _ _ _ cf _ scap h.scap hs h.smp hrow
    · rw [e] at hs hm hrow ⊢
      exact lpc2 w sb mb g d.samples hd.len hm hd.rng _ _ _ _ cf _ scap h.scap hs h.smp hrow
    · rw [e] at hs hm hrow ⊢
      exact lpc3 w sb mb g d.samples hd.len hm hd.rng _ _ _ _ cf _ scap h.scap hs h.smp hrow
    · rw [e] at hs hm hrow ⊢
      exact lpc4 w sb mb g d.samples hd.len hm hd.rng _ _ _ _ cf _ scap h.scap hs h.smp hrow
end Go.Proofs.YtlabcknoooaefaaGreatDoor
