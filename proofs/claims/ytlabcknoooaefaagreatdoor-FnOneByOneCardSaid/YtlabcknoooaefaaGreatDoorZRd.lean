/-
  PARTS OF RESTS WRITTEN: encodeRicePart, encodeResiduals.
-/
import Derived.Test.YtlabcknoooaefaaGreatDoorZRb
import Derived.Test.YtlabcknoooaefaaGreatDoorZUt
namespace Go.Proofs.YtlabcknoooaefaaGreatDoor
open Go.RowKit
set_option linter.unusedVariables false

theorem SubAt.keep {d : SubD} {sb rb mb pb : Nat} {prec : Int} {cf : Value} {scap pcap : Nat} {w w' : World} (h : SubAt d sb rb mb pb prec cf scap pcap w) {B : Nat} {S : Nat → Prop} (hk : Keep B S w w') (n1 : ¬ S sb) (n2 : ¬ S rb) (n3 : ¬ S mb) (n4 : ¬ S pb) : SubAt d sb rb mb pb prec cf scap pcap w' :=
  ⟨hk.bk h.sub n1 (by decide), hk.bk h.rice n2 (by decide), h.smp.keep hk n3 (by decide), h.prt.keep hk n4 (by decide), h.scap, h.pcap⟩

theorem SubAt.below {d : SubD} {sb rb mb pb : Nat} {prec : Int} {cf : Value} {scap pcap : Nat} {w w' : World} (h : SubAt d sb rb mb pb prec cf scap pcap w) (hk : Below w.heap.size w w') : SubAt d sb rb mb pb prec cf scap pcap w' :=
  ⟨h.sub.below hk h.sub.lt, h.rice.below hk h.rice.lt, h.smp.below hk h.smp.lt, h.prt.below hk h.prt.lt, h.scap, h.pcap⟩

/-- j rests from the one of number c on. -/
def BS.run (s : BS) (k : Int) (rs : List Int) (c : Nat) : Nat → BS
  | 0 => s
  | j + 1 => (s.run k rs c j).rest k (rs.getD (c + j) 0)

/-- How many rests stand in part i, and how many ahead of it. -/
def partN (d : SubD) (i : Nat) : Nat := if i = 0 then d.samples.length / 2 ^ d.part - d.order else d.samples.length / 2 ^ d.part
def partCur (d : SubD) : Nat → Nat
  | 0 => 0
  | i + 1 => partCur d i + partN d i

/-- The first i parts. -/
def BS.parts (s : BS) (d : SubD) (rs : List Int) : Nat → BS
  | 0 => s
  | i + 1 => ((s.parts d rs i).put (d.params.getD i 0) 4).run (d.params.getD i 0) rs (partCur d i) (partN d i)

theorem BS.rest_ok {s : BS} (h : s.ok) (k x : Int) : (s.rest k x).ok := BS.put_ok (BS.unary_grow h _ (hiV_range k x).2).1 _ _

theorem BS.run_ok {s : BS} (h : s.ok) (k : Int) (rs : List Int) (c j : Nat) : (s.run k rs c j).ok := by
  induction j with
  | zero => exact h
  | succ j ih => exact BS.rest_ok ih _ _

theorem BS.parts_ok {s : BS} (h : s.ok) (d : SubD) (rs : List Int) (i : Nat) : (s.parts d rs i).ok := by
  induction i with
  | zero => exact h
  | succ i ih => exact BS.run_ok (BS.put_ok ih _ _) _ _ _ _

theorem partCur_le (d : SubD) (hd : d.ok) (i : Nat) (hi : i ≤ 2 ^ d.part) : partCur d i ≤ d.samples.length - d.order ∧ (0 < i → partCur d i + d.order = i * (d.samples.length / 2 ^ d.part)) := by
  have h1 := hd.more
  have h2 := Nat.div_mul_le_self d.samples.length (2 ^ d.part)
  obtain ⟨q, hq⟩ : ∃ q, d.samples.length / 2 ^ d.part = q := ⟨_, rfl⟩
  rw [hq] at h1 h2 ⊢
  induction i with
  | zero => exact ⟨by simp [partCur], by omega⟩
  | succ i ih =>
    have ih := ih (by omega)
    have hm : (i + 1) * q ≤ 2 ^ d.part * q := Nat.mul_le_mul_right q hi
    rw [Nat.mul_comm q] at h2
    have e : partCur d (i + 1) + d.order = (i + 1) * q := by
      unfold partCur partN
      rcases i with _ | i
      · simp only [partCur, if_true, hq]
        omega
      · have := ih.2 (by omega)
        rw [if_neg (by omega), Nat.succ_mul (i + 1) q, hq]
        omega
    exact ⟨by omega, fun _ => e⟩
theorem partV_get {l : List Int} {j : Nat} (hj : j < l.length) : (partV l)[2 * j]? = some (.int .u64 (l.getD j 0)) := by
  induction l generalizing j with
  | nil => simp at hj
  | cons x xs ih =>
    rcases j with _ | j
    · simp [partV]
    · have := ih (j := j) (by simpa using hj)
      simpa [partV, Nat.mul_add] using this

theorem BS.run_grow {s : BS} (h : s.ok) (k : Int) (rs : List Int) (c j : Nat) (hk : 0 ≤ k ∧ k ≤ 14) : (s.run k rs c j).out.length ≤ s.out.length + j * 1073741824 := by
  induction j with
  | zero => exact Nat.le_add_right _ _
  | succ j ih =>
    have h0 := BS.run_ok h k rs c j
    have h1 := BS.unary_grow h0 (hiV k (rs.getD (c + j) 0)) (hiV_range k _).2
    have h2 := BS.put_grow _ h1.1 (loV k (rs.getD (c + j) 0)) k.toNat
    have e : s.run k rs c (j + 1) = ((s.run k rs c j).unary (hiV k (rs.getD (c + j) 0))).put (loV k (rs.getD (c + j) 0)) k.toNat := rfl
    rw [e]
    generalize (((s.run k rs c j).unary (hiV k (rs.getD (c + j) 0))).put (loV k (rs.getD (c + j) 0)) k.toNat) = y at *
    generalize ((s.run k rs c j).unary (hiV k (rs.getD (c + j) 0))) = z at *
    generalize (s.run k rs c j) = u at *
    have := h1.2
    omega

theorem BS.parts_grow {s : BS} (h : s.ok) (d : SubD) (hd : d.ok) (rs : List Int) (i : Nat) (hi : i ≤ d.params.length) : (s.parts d rs i).out.length ≤ s.out.length + i + partCur d i * 1073741824 := by
  induction i with
  | zero => simp [BS.parts]
  | succ i ih =>
    have ih := ih (by omega)
    have h0 := BS.parts_ok h d rs i
    have h1 := BS.put_grow _ h0 (d.params.getD i 0) 4
    have hp := hd.par (d.params.getD i 0) (by have hl : i < d.params.length := hi; simp [hl])
    have h2 := BS.run_grow (BS.put_ok h0 (d.params.getD i 0) 4) (d.params.getD i 0) rs (partCur d i) (partN d i) (by omega)
    have e : s.parts d rs (i + 1) = ((s.parts d rs i).put (d.params.getD i 0) 4).run (d.params.getD i 0) rs (partCur d i) (partN d i) := rfl
    rw [e]
    have e2 : partCur d (i + 1) = partCur d i + partN d i := rfl
    rw [e2]
    generalize (((s.parts d rs i).put (d.params.getD i 0) 4).run (d.params.getD i 0) rs (partCur d i) (partN d i)) = y at *
    generalize ((s.parts d rs i).put (d.params.getD i 0) 4) = z at *
    generalize (s.parts d rs i) = u at *
    omega

attribute [local irreducible] BS.put BS.rest

set_option maxRecDepth 100000 in
set_option maxHeartbeats 4000000 in
theorem ricePart (s : Sk) (B bw : Nat) (hs : s.Ok Tryz.prog 429 B) (hB : B ≤ bw) (st : BS) (d : SubD) (hd : d.ok) (sb rb mb pb : Nat) (prec : Int) (cf : Value) (scap pcap : Nat) (rs : List Int) (g gcap : Nat) (w : World) (h : BWr s bw st w) (hc : st.out.length + 1099511627776 ≤ s.cap)
    (hsub : SubAt d sb rb mb pb prec cf scap pcap w) (hrs : rs.length = d.samples.length - d.order) (hrr : ∀ j, -2147483648 ≤ rs.getD j 0 ∧ rs.getD j 0 < 2147483648) (hrow : Row w g 21 (i32V rs)) (hgc : rs.length ≤ gcap ∧ gcap ≤ maxLen)
    (n1 : ¬ bwOwn s bw sb) (n2 : ¬ bwOwn s bw rb) (n3 : ¬ bwOwn s bw mb) (n4 : ¬ bwOwn s bw pb) (n5 : ¬ bwOwn s bw g) :
    Calls Tryz.prog 115 #[.pointer (some ⟨bw, 0, none⟩), .pointer (some ⟨sb, 0, none⟩), .int .u64 4, .slice (some ⟨g, 0, none⟩) rs.length gcap] w fun e w' => e = .returned .nilIface ∧ BWr s bw ((st.put d.part 4).parts d rs d.params.length) w' ∧ Keep B (bwOwn s bw) w w' := by
  have hlen := hd.len
  have hrs1 : rs.length + d.order ≤ d.samples.length ∧ d.samples.length ≤ rs.length + d.order := by have := Nat.lt_of_lt_of_le hd.more (Nat.div_le_self _ _); omega
  clear hrs
  have hcl : ∀ i, i ≤ d.params.length → partCur d i ≤ d.samples.length - d.order := fun i hi => (partCur_le d hd i (by rw [← hd.np]; exact hi)).1
  have hP := hd.np
  have hmore := hd.more
  have hdiv := hd.div
  have q1 := hsub.sub.cell 1
  have q7 := hsub.sub.cell 7
  have q9 := hsub.sub.cell 9
  have p0 := hsub.rice.cell 0
  have p1 := hsub.rice.cell 1
  simp at q1 q7 q9 p0 p1
  have hpt : d.part = 0 ∨ d.part = 1 ∨ d.part = 2 := by have := hd.part; omega
  rcases hpt with hpt | hpt | hpt
  · rw [hpt] at p0 hP hmore hdiv
    simp only [Nat.reducePow, Nat.div_one] at hP hmore hdiv
    have H := Lib.hid h
    go_enter Tryz.func115, Tryz.ntmps115
    go_wp2_with fail
    refine (wbitsI s B bw hs hB st 0 _ 4 rfl (by omega) (by omega) _ h (by omega)).mono ?_
    rintro e w1 ⟨rfl, hb1, hk1⟩
    have hg1 := BS.put_grow st h.ok 0 4
    have hs1 := hsub.keep hk1 n1 n2 n3 n4
    have p0 := hs1.rice.cell 0
    have p1 := hs1.rice.cell 1
    simp [hpt] at p0 p1
    go_wp2_with fail
    go_loopw [52, 13] (fun iv cv wr => ∃ i : Nat, i ≤ d.params.length ∧ iv = .int .i64 (i : Int) ∧ cv = .int .i64 (partCur d i : Int) ∧ BWr s bw ((st.put 0 4).parts d rs i) wr ∧ Keep B (bwOwn s bw) w wr) (fun iv _ _ => d.params.length - (intOf iv).toNat)
    case atStart => exact ⟨0, by omega, rfl, rfl, hb1, hk1⟩
    case round =>
      obtain ⟨i, hi, rfl, rfl, hbw, hkp⟩ := hrel
      have hsr := hsub.keep hkp n1 n2 n3 n4
      have p1 := hsr.rice.cell 1
      have q1 := hsr.sub.cell 1
      have q9 := hsr.sub.cell 9
      simp at p1 q1 q9
      have hgr := BS.parts_grow (BS.put_ok h.ok 0 4) d hd rs i hi
      have hci := hcl i (by omega)
      by_cases hlt : i < d.params.length
      · have hpr := hd.par (d.params.getD i 0) (by simp [hlt])
        have pp := hsr.prt.cell (2 * i) _ (partV_get hlt)
        rw [Nat.mul_comm] at pp
        have hcn := hcl (i + 1) (by omega)
        generalize hp : d.params.getD i 0 = p at *
        have hp15 : (p == 15) = false := by simp; omega
        go_wp2_with fail
        refine (wbitsI s B bw hs hB _ p _ 4 rfl (by omega) (by omega) _ hbw (by omega)).mono ?_
        rintro e w2 ⟨rfl, hb2, hk2⟩
        have hg2 := BS.put_grow _ hbw.ok p 4
        have hkp := hkp.trans hk2
        have hsr := hsub.keep hkp n1 n2 n3 n4
        have q1 := hsr.sub.cell 1
        have q9 := hsr.sub.cell 9
        simp at q1 q9
        have hi0 : i = 0 := by omega
        have hi1 : ((i : Int) != 0) = false := by simp; omega
        have HI := Lib.hid hi0
        clear hi0
        have hpn : partN d i = d.samples.length - d.order := by unfold partN; rw [hpt]; simp only [Nat.reducePow, Nat.div_one]; rw [if_pos HI.out]
        have hcn2 : partCur d i + (d.samples.length - d.order) ≤ d.samples.length - d.order := by have e : partCur d (i + 1) = partCur d i + partN d i := rfl; rw [hpn] at e; omega
        have HPN := Lib.hid hpn
        clear hpn
        go_wp2_with fail
        go_region
        go_wp2_with fail
        have hb2 := hb2.drew hs
        have hkp := hkp.drew
        go_loopw [23, 13] (fun jv cv w3 => ∃ j : Nat, j ≤ d.samples.length - d.order ∧ jv = .int .i64 (j : Int) ∧ cv = .int .i64 ((partCur d i + j : Nat) : Int) ∧ BWr s bw ((((st.put 0 4).parts d rs i).put p 4).run p rs (partCur d i) j) w3 ∧ Keep B (bwOwn s bw) w w3) (fun jv _ _ => 256 - (intOf jv).toNat)
        case atStart => exact ⟨0, by omega, rfl, rfl, hb2, hkp⟩
        case round =>
          obtain ⟨j, hj, rfl, rfl, hb3, hk3⟩ := hrel
          have hrg := BS.run_grow (BS.put_ok hbw.ok p 4) p rs (partCur d i) j (by omega)
          by_cases hjl : j < d.samples.length - d.order
          · have cr := (hrow.keep hk3 n5 (by decide)).cell (partCur d i + j) _ (i32V_get (by omega))
            go_wp2_with fail
            refine (riceRest s B bw hs hB _ p _ hpr (hrr _) _ hb3 (by omega)).mono ?_
            rintro e w4 ⟨rfl, hb4, hl4, hk4⟩
            go_wp2_with fail
            go_roundw
            case rel => exact ⟨j + 1, by omega, by simp, by simp <;> omega, hb4, hk3.trans hk4⟩
            case measure => simp [intOf] <;> omega
          · have hje : j = d.samples.length - d.order := by omega
            go_wp2_with fail
            go_roundw
            case measure => simp [intOf] <;> omega
            case rel =>
              refine ⟨i + 1, by omega, by simp, ?_, ?_, hk3⟩
              · have e : partCur d (i + 1) = partCur d i + partN d i := rfl
                rw [e, HPN.out, hje]
              have e : (st.put 0 4).parts d rs (i + 1) = (((st.put 0 4).parts d rs i).put (d.params.getD i 0) 4).run (d.params.getD i 0) rs (partCur d i) (partN d i) := rfl
              rw [e, hp, HPN.out, ← hje]
              exact hb3
      · have hie : i = d.params.length := by omega
        have e0 : ((d.part : Nat) : Int) = 0 := by rw [hpt]; rfl
        have HE := Lib.hid e0
        clear e0
        go_wp2
        go_ret
        rw [HE.out]
        subst hie
        exact ⟨rfl, hbw, hkp⟩
  · rw [hpt] at p0 hP hmore hdiv
    simp only [Nat.reducePow] at hP hmore hdiv
    have H := Lib.hid h
    go_enter Tryz.func115, Tryz.ntmps115
    go_wp2_with fail
    refine (wbitsI s B bw hs hB st 1 _ 4 rfl (by omega) (by omega) _ h (by omega)).mono ?_
    rintro e w1 ⟨rfl, hb1, hk1⟩
    have hg1 := BS.put_grow st h.ok 1 4
    have hs1 := hsub.keep hk1 n1 n2 n3 n4
    have p0 := hs1.rice.cell 0
    have p1 := hs1.rice.cell 1
    simp [hpt] at p0 p1
    go_wp2_with fail
    go_loopw [52, 13] (fun iv cv wr => ∃ i : Nat, i ≤ d.params.length ∧ iv = .int .i64 (i : Int) ∧ cv = .int .i64 (partCur d i : Int) ∧ BWr s bw ((st.put 1 4).parts d rs i) wr ∧ Keep B (bwOwn s bw) w wr) (fun iv _ _ => d.params.length - (intOf iv).toNat)
    case atStart => exact ⟨0, by omega, rfl, rfl, hb1, hk1⟩
    case round =>
      obtain ⟨i, hi, rfl, rfl, hbw, hkp⟩ := hrel
      have hsr := hsub.keep hkp n1 n2 n3 n4
      have p1 := hsr.rice.cell 1
      have q1 := hsr.sub.cell 1
      have q9 := hsr.sub.cell 9
      simp at p1 q1 q9
      have hgr := BS.parts_grow (BS.put_ok h.ok 1 4) d hd rs i hi
      have hci := hcl i (by omega)
      by_cases hlt : i < d.params.length
      · have hpr := hd.par (d.params.getD i 0) (by simp [hlt])
        have pp := hsr.prt.cell (2 * i) _ (partV_get hlt)
        rw [Nat.mul_comm] at pp
        have hcn := hcl (i + 1) (by omega)
        generalize hp : d.params.getD i 0 = p at *
        have hp15 : (p == 15) = false := by simp; omega
        go_wp2_with fail
        refine (wbitsI s B bw hs hB _ p _ 4 rfl (by omega) (by omega) _ hbw (by omega)).mono ?_
        rintro e w2 ⟨rfl, hb2, hk2⟩
        have hg2 := BS.put_grow _ hbw.ok p 4
        have hkp := hkp.trans hk2
        have hsr := hsub.keep hkp n1 n2 n3 n4
        have q1 := hsr.sub.cell 1
        have q9 := hsr.sub.cell 9
        simp at q1 q9
        by_cases hi0 : i = 0
        · skip
          have hi1 : ((i : Int) != 0) = false := by simp; omega
          have HI := Lib.hid hi0
          clear hi0
          have hpn : partN d i = d.samples.length / 2 - d.order := by unfold partN; rw [hpt]; simp only [Nat.reducePow]; rw [if_pos HI.out]
          have hcn2 : partCur d i + (d.samples.length / 2 - d.order) ≤ d.samples.length - d.order := by have e : partCur d (i + 1) = partCur d i + partN d i := rfl; rw [hpn] at e; omega
          have HPN := Lib.hid hpn
          clear hpn
          go_wp2_with fail
          go_region
          go_wp2_with fail
          have hb2 := hb2.drew hs
          have hkp := hkp.drew
          go_loopw [23, 13] (fun jv cv w3 => ∃ j : Nat, j ≤ d.samples.length / 2 - d.order ∧ jv = .int .i64 (j : Int) ∧ cv = .int .i64 ((partCur d i + j : Nat) : Int) ∧ BWr s bw ((((st.put 1 4).parts d rs i).put p 4).run p rs (partCur d i) j) w3 ∧ Keep B (bwOwn s bw) w w3) (fun jv _ _ => 256 - (intOf jv).toNat)
          case atStart => exact ⟨0, by omega, rfl, rfl, hb2, hkp⟩
          case round =>
            obtain ⟨j, hj, rfl, rfl, hb3, hk3⟩ := hrel
            have hrg := BS.run_grow (BS.put_ok hbw.ok p 4) p rs (partCur d i) j (by omega)
            by_cases hjl : j < d.samples.length / 2 - d.order
            · have cr := (hrow.keep hk3 n5 (by decide)).cell (partCur d i + j) _ (i32V_get (by omega))
              go_wp2_with fail
              refine (riceRest s B bw hs hB _ p _ hpr (hrr _) _ hb3 (by omega)).mono ?_
              rintro e w4 ⟨rfl, hb4, hl4, hk4⟩
              go_wp2_with fail
              go_roundw
              case rel => exact ⟨j + 1, by omega, by simp, by simp <;> omega, hb4, hk3.trans hk4⟩
              case measure => simp [intOf] <;> omega
            · have hje : j = d.samples.length / 2 - d.order := by omega
              go_wp2_with fail
              go_roundw
              case measure => simp [intOf] <;> omega
              case rel =>
                refine ⟨i + 1, by omega, by simp, ?_, ?_, hk3⟩
                · have e : partCur d (i + 1) = partCur d i + partN d i := rfl
                  rw [e, HPN.out, hje]
                have e : (st.put 1 4).parts d rs (i + 1) = (((st.put 1 4).parts d rs i).put (d.params.getD i 0) 4).run (d.params.getD i 0) rs (partCur d i) (partN d i) := rfl
                rw [e, hp, HPN.out, ← hje]
                exact hb3
        · skip
          have hi1 : ((i : Int) != 0) = true := by simp; omega
          have hpn : partN d i = d.samples.length / 2 := by unfold partN; rw [hpt]; simp only [Nat.reducePow]; rw [if_neg hi0]
          have hcn2 : partCur d i + (d.samples.length / 2) ≤ d.samples.length - d.order := by have e : partCur d (i + 1) = partCur d i + partN d i := rfl; rw [hpn] at e; omega
          have HPN := Lib.hid hpn
          clear hpn
          go_wp2_with fail
          go_loopw [23, 13] (fun jv cv w3 => ∃ j : Nat, j ≤ d.samples.length / 2 ∧ jv = .int .i64 (j : Int) ∧ cv = .int .i64 ((partCur d i + j : Nat) : Int) ∧ BWr s bw ((((st.put 1 4).parts d rs i).put p 4).run p rs (partCur d i) j) w3 ∧ Keep B (bwOwn s bw) w w3) (fun jv _ _ => 256 - (intOf jv).toNat)
          case atStart => exact ⟨0, by omega, rfl, rfl, hb2, hkp⟩
          case round =>
            obtain ⟨j, hj, rfl, rfl, hb3, hk3⟩ := hrel
            have hrg := BS.run_grow (BS.put_ok hbw.ok p 4) p rs (partCur d i) j (by omega)
            by_cases hjl : j < d.samples.length / 2
            · have cr := (hrow.keep hk3 n5 (by decide)).cell (partCur d i + j) _ (i32V_get (by omega))
              go_wp2_with fail
              refine (riceRest s B bw hs hB _ p _ hpr (hrr _) _ hb3 (by omega)).mono ?_
              rintro e w4 ⟨rfl, hb4, hl4, hk4⟩
              go_wp2_with fail
              go_roundw
              case rel => exact ⟨j + 1, by omega, by simp, by simp <;> omega, hb4, hk3.trans hk4⟩
              case measure => simp [intOf] <;> omega
            · have hje : j = d.samples.length / 2 := by omega
              go_wp2_with fail
              go_roundw
              case measure => simp [intOf] <;> omega
              case rel =>
                refine ⟨i + 1, by omega, by simp, ?_, ?_, hk3⟩
                · have e : partCur d (i + 1) = partCur d i + partN d i := rfl
                  rw [e, HPN.out, hje]
                have e : (st.put 1 4).parts d rs (i + 1) = (((st.put 1 4).parts d rs i).put (d.params.getD i 0) 4).run (d.params.getD i 0) rs (partCur d i) (partN d i) := rfl
                rw [e, hp, HPN.out, ← hje]
                exact hb3
      · have hie : i = d.params.length := by omega
        have e0 : ((d.part : Nat) : Int) = 1 := by rw [hpt]; rfl
        have HE := Lib.hid e0
        clear e0
        go_wp2
        go_ret
        rw [HE.out]
        subst hie
        exact ⟨rfl, hbw, hkp⟩
  · rw [hpt] at p0 hP hmore hdiv
    simp only [Nat.reducePow] at hP hmore hdiv
    have H := Lib.hid h
    go_enter Tryz.func115, Tryz.ntmps115
    go_wp2_with fail
    refine (wbitsI s B bw hs hB st 2 _ 4 rfl (by omega) (by omega) _ h (by omega)).mono ?_
    rintro e w1 ⟨rfl, hb1, hk1⟩
    have hg1 := BS.put_grow st h.ok 2 4
    have hs1 := hsub.keep hk1 n1 n2 n3 n4
    have p0 := hs1.rice.cell 0
    have p1 := hs1.rice.cell 1
    simp [hpt] at p0 p1
    go_wp2_with fail
    go_loopw [52, 13] (fun iv cv wr => ∃ i : Nat, i ≤ d.params.length ∧ iv = .int .i64 (i : Int) ∧ cv = .int .i64 (partCur d i : Int) ∧ BWr s bw ((st.put 2 4).parts d rs i) wr ∧ Keep B (bwOwn s bw) w wr) (fun iv _ _ => d.params.length - (intOf iv).toNat)
    case atStart => exact ⟨0, by omega, rfl, rfl, hb1, hk1⟩
    case round =>
      obtain ⟨i, hi, rfl, rfl, hbw, hkp⟩ := hrel
      have hsr := hsub.keep hkp n1 n2 n3 n4
      have p1 := hsr.rice.cell 1
      have q1 := hsr.sub.cell 1
      have q9 := hsr.sub.cell 9
      simp at p1 q1 q9
      have hgr := BS.parts_grow (BS.put_ok h.ok 2 4) d hd rs i hi
      have hci := hcl i (by omega)
      by_cases hlt : i < d.params.length
      · have hpr := hd.par (d.params.getD i 0) (by simp [hlt])
        have pp := hsr.prt.cell (2 * i) _ (partV_get hlt)
        rw [Nat.mul_comm] at pp
        have hcn := hcl (i + 1) (by omega)
        generalize hp : d.params.getD i 0 = p at *
        have hp15 : (p == 15) = false := by simp; omega
        go_wp2_with fail
        refine (wbitsI s B bw hs hB _ p _ 4 rfl (by omega) (by omega) _ hbw (by omega)).mono ?_
        rintro e w2 ⟨rfl, hb2, hk2⟩
        have hg2 := BS.put_grow _ hbw.ok p 4
        have hkp := hkp.trans hk2
        have hsr := hsub.keep hkp n1 n2 n3 n4
        have q1 := hsr.sub.cell 1
        have q9 := hsr.sub.cell 9
        simp at q1 q9
        by_cases hi0 : i = 0
        · skip
          have hi1 : ((i : Int) != 0) = false := by simp; omega
          have HI := Lib.hid hi0
          clear hi0
          have hpn : partN d i = d.samples.length / 4 - d.order := by unfold partN; rw [hpt]; simp only [Nat.reducePow]; rw [if_pos HI.out]
          have hcn2 : partCur d i + (d.samples.length / 4 - d.order) ≤ d.samples.length - d.order := by have e : partCur d (i + 1) = partCur d i + partN d i := rfl; rw [hpn] at e; omega
          have HPN := Lib.hid hpn
          clear hpn
          go_wp2_with fail
          go_region
          go_wp2_with fail
          have hb2 := hb2.drew hs
          have hkp := hkp.drew
          go_loopw [23, 13] (fun jv cv w3 => ∃ j : Nat, j ≤ d.samples.length / 4 - d.order ∧ jv = .int .i64 (j : Int) ∧ cv = .int .i64 ((partCur d i + j : Nat) : Int) ∧ BWr s bw ((((st.put 2 4).parts d rs i).put p 4).run p rs (partCur d i) j) w3 ∧ Keep B (bwOwn s bw) w w3) (fun jv _ _ => 256 - (intOf jv).toNat)
          case atStart => exact ⟨0, by omega, rfl, rfl, hb2, hkp⟩
          case round =>
            obtain ⟨j, hj, rfl, rfl, hb3, hk3⟩ := hrel
            have hrg := BS.run_grow (BS.put_ok hbw.ok p 4) p rs (partCur d i) j (by omega)
            by_cases hjl : j < d.samples.length / 4 - d.order
            · have cr := (hrow.keep hk3 n5 (by decide)).cell (partCur d i + j) _ (i32V_get (by omega))
              go_wp2_with fail
              refine (riceRest s B bw hs hB _ p _ hpr (hrr _) _ hb3 (by omega)).mono ?_
              rintro e w4 ⟨rfl, hb4, hl4, hk4⟩
              go_wp2_with fail
              go_roundw
              case rel => exact ⟨j + 1, by omega, by simp, by simp <;> omega, hb4, hk3.trans hk4⟩
              case measure => simp [intOf] <;> omega
            · have hje : j = d.samples.length / 4 - d.order := by omega
              go_wp2_with fail
              go_roundw
              case measure => simp [intOf] <;> omega
              case rel =>
                refine ⟨i + 1, by omega, by simp, ?_, ?_, hk3⟩
                · have e : partCur d (i + 1) = partCur d i + partN d i := rfl
                  rw [e, HPN.out, hje]
                have e : (st.put 2 4).parts d rs (i + 1) = (((st.put 2 4).parts d rs i).put (d.params.getD i 0) 4).run (d.params.getD i 0) rs (partCur d i) (partN d i) := rfl
                rw [e, hp, HPN.out, ← hje]
                exact hb3
        · skip
          have hi1 : ((i : Int) != 0) = true := by simp; omega
          have hpn : partN d i = d.samples.length / 4 := by unfold partN; rw [hpt]; simp only [Nat.reducePow]; rw [if_neg hi0]
          have hcn2 : partCur d i + (d.samples.length / 4) ≤ d.samples.length - d.order := by have e : partCur d (i + 1) = partCur d i + partN d i := rfl; rw [hpn] at e; omega
          have HPN := Lib.hid hpn
          clear hpn
          go_wp2_with fail
          go_loopw [23, 13] (fun jv cv w3 => ∃ j : Nat, j ≤ d.samples.length / 4 ∧ jv = .int .i64 (j : Int) ∧ cv = .int .i64 ((partCur d i + j : Nat) : Int) ∧ BWr s bw ((((st.put 2 4).parts d rs i).put p 4).run p rs (partCur d i) j) w3 ∧ Keep B (bwOwn s bw) w w3) (fun jv _ _ => 256 - (intOf jv).toNat)
          case atStart => exact ⟨0, by omega, rfl, rfl, hb2, hkp⟩
          case round =>
            obtain ⟨j, hj, rfl, rfl, hb3, hk3⟩ := hrel
            have hrg := BS.run_grow (BS.put_ok hbw.ok p 4) p rs (partCur d i) j (by omega)
            by_cases hjl : j < d.samples.length / 4
            · have cr := (hrow.keep hk3 n5 (by decide)).cell (partCur d i + j) _ (i32V_get (by omega))
              go_wp2_with fail
              refine (riceRest s B bw hs hB _ p _ hpr (hrr _) _ hb3 (by omega)).mono ?_
              rintro e w4 ⟨rfl, hb4, hl4, hk4⟩
              go_wp2_with fail
              go_roundw
              case rel => exact ⟨j + 1, by omega, by simp, by simp <;> omega, hb4, hk3.trans hk4⟩
              case measure => simp [intOf] <;> omega
            · have hje : j = d.samples.length / 4 := by omega
              go_wp2_with fail
              go_roundw
              case measure => simp [intOf] <;> omega
              case rel =>
                refine ⟨i + 1, by omega, by simp, ?_, ?_, hk3⟩
                · have e : partCur d (i + 1) = partCur d i + partN d i := rfl
                  rw [e, HPN.out, hje]
                have e : (st.put 2 4).parts d rs (i + 1) = (((st.put 2 4).parts d rs i).put (d.params.getD i 0) 4).run (d.params.getD i 0) rs (partCur d i) (partN d i) := rfl
                rw [e, hp, HPN.out, ← hje]
                exact hb3
      · have hie : i = d.params.length := by omega
        have e0 : ((d.part : Nat) : Int) = 2 := by rw [hpt]; rfl
        have HE := Lib.hid e0
        clear e0
        go_wp2
        go_ret
        rw [HE.out]
        subst hie
        exact ⟨rfl, hbw, hkp⟩
end Go.Proofs.YtlabcknoooaefaaGreatDoor
