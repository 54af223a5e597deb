/-
  A SUBFRAME WRITTEN: encodeResiduals, encodeSubframeHeader, encodeConstantSamples, encodeVerbatimSamples, encodeFixedSamples, encodeSubframe.
-/
import Derived.Test.YtlabcknoooaefaaGreatDoorZRd
import Derived.Test.YtlabcknoooaefaaGreatDoorZHb
namespace Go.Proofs.YtlabcknoooaefaaGreatDoor
open Go.RowKit
set_option linter.unusedVariables false

def kindBits (d : SubD) : Int := if d.kind = 0 then 0 else if d.kind = 1 then 1 else bits .or .u64 8 d.order

def BS.subHead (s : BS) (d : SubD) : BS := ((s.put 0 1).put (kindBits d) 6).bool false

/-- The first j samples as they stand, n bits each. -/
def BS.smp (s : BS) (l : List Int) (n : Nat) : Nat → BS
  | 0 => s
  | j + 1 => (s.smp l n j).put (IntKind.u64.wrap (l.getD j 0)) n

/-- The rests of a subframe, with what stands ahead of them. -/
def BS.resid (s : BS) (d : SubD) : BS := ((s.put 0 2).put d.part 4).parts d (restsL d.order d.samples (d.samples.length - d.order)) d.params.length

def BS.sub (s : BS) (d : SubD) (n : Nat) : BS :=
  if d.kind = 0 then (s.subHead d).put (IntKind.u64.wrap (d.samples.getD 0 0)) n
  else if d.kind = 1 then (s.subHead d).smp d.samples n d.samples.length
  else ((s.subHead d).smp d.samples n d.order).resid d

attribute [local irreducible] BS.put BS.rest BS.bool BS.parts

set_option maxRecDepth 100000 in
set_option maxHeartbeats 4000000 in
theorem residuals (s : Sk) (B bw : Nat) (hs : s.Ok Tryz.prog 429 B) (hB : B ≤ bw) (st : BS) (d : SubD) (hd : d.ok) (sb rb mb pb : Nat) (prec : Int) (cf : Value) (scap pcap : Nat) (rs : List Int) (g gcap : Nat) (w : World) (h : BWr s bw st w) (hc : st.out.length + 1099511627900 ≤ s.cap)
    (hsub : SubAt d sb rb mb pb prec cf scap pcap w) (hrs : rs.length = d.samples.length - d.order) (hrr : ∀ j, -2147483648 ≤ rs.getD j 0 ∧ rs.getD j 0 < 2147483648) (hrow : Row w g 21 (i32V rs)) (hgc : rs.length ≤ gcap ∧ gcap ≤ maxLen)
    (n1 : ¬ bwOwn s bw sb) (n2 : ¬ bwOwn s bw rb) (n3 : ¬ bwOwn s bw mb) (n4 : ¬ bwOwn s bw pb) (n5 : ¬ bwOwn s bw g) :
    Calls Tryz.prog 106 #[.pointer (some ⟨bw, 0, none⟩), .pointer (some ⟨sb, 0, none⟩), .slice (some ⟨g, 0, none⟩) rs.length gcap] w fun e w' => e = .returned .nilIface ∧ BWr s bw (((st.put 0 2).put d.part 4).parts d rs d.params.length) w' ∧ Keep B (bwOwn s bw) w w' := by
  have q3 := hsub.sub.cell 3
  simp at q3
  have HRS := Lib.hid hrs
  clear hrs
  go_enter Tryz.func106, Tryz.ntmps106
  go_wp2_with fail
  refine (wbitsI s B bw hs hB st 0 _ 2 rfl (by omega) (by omega) _ h (by omega)).mono ?_
  rintro e w1 ⟨rfl, hb1, hk1⟩
  have hg1 := BS.put_grow st h.ok 0 2
  have hs1 := hsub.keep hk1 n1 n2 n3 n4
  have q3 := hs1.sub.cell 3
  simp at q3
  go_wp2_with fail
  refine (ricePart s B bw hs hB (st.put 0 2) d hd sb rb mb pb prec cf scap pcap rs g gcap w1 hb1 (by omega) hs1 HRS.out hrr (hrow.keep hk1 n5 (by decide)) hgc n1 n2 n3 n4 n5).mono ?_
  rintro e w2 ⟨rfl, hb2, hk2⟩
  go_wp2
  go_ret
  exact ⟨rfl, hb2, hk1.trans hk2⟩

theorem u64w_range (x : Int) : 0 ≤ IntKind.u64.wrap x ∧ IntKind.u64.wrap x < 18446744073709551616 := by
  simp only [IntKind.wrap_u64]
  omega

theorem bits64_range (o : BinOp) (a b : Int) : 0 ≤ bits o .u64 a b ∧ bits o .u64 a b < 18446744073709551616 := by
  unfold bits
  split <;> simp only [IntKind.wrap_u64] <;> omega

set_option maxRecDepth 100000 in
set_option maxHeartbeats 4000000 in
theorem subHeader (s : Sk) (B bw : Nat) (hs : s.Ok Tryz.prog 429 B) (hB : B ≤ bw) (st : BS) (d : SubD) (hd : d.ok) (prec : Int) (cf rp : Value) (w : World) (h : BWr s bw st w) (hc : st.out.length + 200 ≤ s.cap) :
    Calls Tryz.prog 75 #[.pointer (some ⟨bw, 0, none⟩), .agg #[.int .u8 d.kind, .int .i64 d.order, .int .u64 0, .int .u8 0, .int .u64 prec, .int .i32 0, cf, rp]] w fun e w' => e = .returned .nilIface ∧ BWr s bw (st.subHead d) w' ∧ (st.subHead d).out.length ≤ st.out.length + 96 ∧ Keep B (bwOwn s bw) w w' := by
  have hz : B ≤ w.heap.size := Nat.le_trans hB (Nat.le_of_lt h.blk.lt)
  have hnb := h.fresh hs (Nat.le_refl w.heap.size)
  have hord := hd.order
  have hi := Bk.new w 128 #[.int .u8 d.kind, .int .i64 d.order, .int .u64 0, .int .u8 0, .int .u64 prec, .int .i32 0, cf, rp]
  have hb := h.alloc hs (.cells #[.int .u8 d.kind, .int .i64 d.order, .int .u64 0, .int .u8 0, .int .u64 prec, .int .i32 0, cf, rp] 128)
  have hK := (Keep.refl B (bwOwn s bw) w).alloc hz (.cells #[.int .u8 d.kind, .int .i64 d.order, .int .u64 0, .int .u8 0, .int .u64 prec, .int .i32 0, cf, rp] 128)
  have hl : st.out.length ≤ st.out.length := Nat.le_refl _
  have hbr := bits64_range .or 8 d.order
  unfold BS.subHead kindBits
  rcases hd.kind with e | e | e
  all_goals
    rw [e] at hi hb hK ⊢
    go_enter Tryz.func75, Tryz.ntmps75
    have i0 := hi.cell 0
    have i1 := hi.cell 1
    have i2 := hi.cell 2
    simp at i0 i1 i2
    go_wp2_with (first
      | (go_at_call 55; refine (wbitsJ s B bw hs hB _ _ _ (by decide) (by omega) _ (by assumption) (by omega)).mono ?_; rintro e w' ⟨rfl, hb, hl, hk⟩; have hK := hK.trans hk; have hi := hk.bk hi hnb (by decide); have i0 := hi.cell 0; have i1 := hi.cell 1; have i2 := hi.cell 2; simp at i0 i1 i2)
      | (go_at_call 65; refine (wboolJ s B bw hs hB _ _ _ (by assumption) (by omega)).mono ?_; rintro e w' ⟨rfl, hb, hl, hk⟩; have hK := hK.trans hk; have hi := hk.bk hi hnb (by decide); have i0 := hi.cell 0; have i1 := hi.cell 1; have i2 := hi.cell 2; simp at i0 i1 i2))
    go_ret
    refine ⟨rfl, hb, ?_, hK⟩
    simp only [Int.reduceToNat] at *
    omega

theorem BS.smp_ok {s : BS} (h : s.ok) (l : List Int) (n j : Nat) : (s.smp l n j).ok := by
  induction j with
  | zero => exact h
  | succ j ih => exact BS.put_ok ih _ _

theorem BS.smp_grow {s : BS} (h : s.ok) (l : List Int) (n j : Nat) (hn : n ≤ 255) : (s.smp l n j).out.length ≤ s.out.length + j * 32 := by
  induction j with
  | zero => exact Nat.le_add_right _ _
  | succ j ih =>
    have h1 := BS.put_grow _ (BS.smp_ok h l n j) (IntKind.u64.wrap (l.getD j 0)) n
    have e : s.smp l n (j + 1) = (s.smp l n j).put (IntKind.u64.wrap (l.getD j 0)) n := rfl
    rw [e]
    generalize (s.smp l n j).put (IntKind.u64.wrap (l.getD j 0)) n = y at *
    generalize s.smp l n j = z at *
    omega

set_option maxRecDepth 100000 in
set_option maxHeartbeats 4000000 in
theorem constSamples (s : Sk) (B bw : Nat) (hs : s.Ok Tryz.prog 429 B) (hB : B ≤ bw) (st : BS) (d : SubD) (hd : d.ok) (hk0 : d.kind = 0) (n : Nat) (hn : n ≤ 32) (hdr : Array Value) (sb rb mb pb : Nat) (prec : Int) (cf : Value) (scap pcap : Nat) (w : World) (h : BWr s bw st w) (hc : st.out.length + 200 ≤ s.cap) (hsub : SubAt d sb rb mb pb prec cf scap pcap w) :
    Calls Tryz.prog 77 #[.pointer (some ⟨bw, 0, none⟩), .agg hdr, .pointer (some ⟨sb, 0, none⟩), .int .u64 n] w fun e w' => e = .returned .nilIface ∧ BWr s bw (st.put (IntKind.u64.wrap (d.samples.getD 0 0)) n) w' ∧ Keep B (bwOwn s bw) w w' := by
  have hz : B ≤ w.heap.size := Nat.le_trans hB (Nat.le_of_lt h.blk.lt)
  have hlen := hd.len
  have hsc := hsub.scap
  have hsub := hsub.below ((Below.refl _ _).alloc (Nat.le_refl _) (.cells hdr 72))
  have hb := h.alloc hs (.cells hdr 72)
  have hK := (Keep.refl B (bwOwn s bw) w).alloc hz (.cells hdr 72)
  have q8 := hsub.sub.cell 8
  simp at q8
  have s0 := hsub.smp.cell 0 _ (i32V_get (by omega))
  have r0 := hd.rng 0
  have hsame : ∀ j, j < d.samples.length → d.samples.getD j 0 = d.samples.getD 0 0 := fun j hj => hd.same hk0 _ (by simp [hj])
  have HR := Lib.hid hsame
  have HN := Lib.hid hsub.smp
  clear hsame
  generalize hx : d.samples.getD 0 0 = x at *
  by_cases h1 : scap = 1
  · have hn1 : d.samples.length = 1 := by omega
    go_enter Tryz.func77, Tryz.ntmps77
    go_wp2_with fail
    refine wp_loop_rounds 1 ?_
    rw [rounds_succ]
    go_wp2_with fail
    refine (wbitsI s B bw hs hB st _ _ n (by omega) (by omega) (u64w_range _) _ hb (by omega)).mono ?_
    rintro e w1 ⟨rfl, hb1, hk1⟩
    go_wp2
    go_ret
    exact ⟨rfl, hb1, hK.trans hk1⟩
  · go_enter Tryz.func77, Tryz.ntmps77
    go_wp2_with fail
    go_loop [24] (fun kv => ∃ k : Nat, k ≤ d.samples.length - 1 ∧ kv = .int .i64 (k : Int)) (fun kv => 256 - (intOf kv).toNat)
    case atStart => exact ⟨0, by omega, rfl⟩
    case round =>
      obtain ⟨k, hk, rfl⟩ := hrel
      by_cases hlt : k < d.samples.length - 1
      · have ck := HN.out.cell (1 + k) _ (i32V_get (by omega))
        rw [HR.out (1 + k) (by omega)] at ck
        go_wp2_with fail
        go_round
        case rel => exact ⟨k + 1, by omega, by simp⟩
        case measure => simp [intOf] <;> omega
      · go_wp2_with fail
        refine (wbitsI s B bw hs hB st _ _ n (by omega) (by omega) (u64w_range _) _ hb (by omega)).mono ?_
        rintro e w1 ⟨rfl, hb1, hk1⟩
        go_wp2
        go_ret
        exact ⟨rfl, hb1, hK.trans hk1⟩

set_option maxRecDepth 100000 in
set_option maxHeartbeats 4000000 in
theorem verbSamples (s : Sk) (B bw : Nat) (hs : s.Ok Tryz.prog 429 B) (hB : B ≤ bw) (st : BS) (d : SubD) (hd : d.ok) (n : Nat) (hn : n ≤ 32) (hdr : HdrD) (hz1 : hdr.z = d.samples.length) (sb rb mb pb : Nat) (prec : Int) (cf : Value) (scap pcap : Nat) (w : World) (h : BWr s bw st w) (hc : st.out.length + 10000 ≤ s.cap) (hsub : SubAt d sb rb mb pb prec cf scap pcap w) (n3 : ¬ bwOwn s bw mb) :
    Calls Tryz.prog 78 #[.pointer (some ⟨bw, 0, none⟩), .agg hdr.cells, .pointer (some ⟨sb, 0, none⟩), .int .u64 n] w fun e w' => e = .returned .nilIface ∧ BWr s bw (st.smp d.samples n d.samples.length) w' ∧ Keep B (bwOwn s bw) w w' := by
  have hz : B ≤ w.heap.size := Nat.le_trans hB (Nat.le_of_lt h.blk.lt)
  have hlen := hd.len
  have hsc := hsub.scap
  have hsub := hsub.below ((Below.refl _ _).alloc (Nat.le_refl _) (.cells hdr.cells 72))
  have hb := h.alloc hs (.cells hdr.cells 72)
  have hK := (Keep.refl B (bwOwn s bw) w).alloc hz (.cells hdr.cells 72)
  have q8 := hsub.sub.cell 8
  simp at q8
  have hh : hdr.cells[1]? = some (.int .u16 d.samples.length) := by rw [← hz1]; rfl
  have HN := Lib.hid hsub.smp
  have HR := Lib.hid hd.rng
  go_enter Tryz.func78, Tryz.ntmps78
  go_wp2_with fail
  go_loopw [26] (fun jv wr => ∃ j : Nat, j ≤ d.samples.length ∧ jv = .int .i64 (j : Int) ∧ BWr s bw (st.smp d.samples n j) wr ∧ Keep B (bwOwn s bw) w wr ∧ Row wr mb 21 (i32V d.samples)) (fun jv _ => 256 - (intOf jv).toNat)
  case atStart => exact ⟨0, by omega, rfl, hb, hK, HN.out⟩
  case round =>
    obtain ⟨j, hj, rfl, hb2, hk2, hrow⟩ := hrel
    have hg := BS.smp_grow h.ok d.samples n j (by omega)
    by_cases hlt : j < d.samples.length
    · have cj := hrow.cell j _ (i32V_get hlt)
      have rj := HR.out j
      generalize hx : d.samples.getD j 0 = x at cj rj
      go_wp2_with fail
      refine (wbitsI s B bw hs hB (st.smp d.samples n j) _ _ n (by omega) (by omega) (u64w_range _) _ hb2 (by omega)).mono ?_
      rintro e w1 ⟨rfl, hb1, hk1⟩
      go_wp2_with fail
      go_roundw
      case rel =>
        have e : st.smp d.samples n (j + 1) = (st.smp d.samples n j).put (IntKind.u64.wrap (d.samples.getD j 0)) n := rfl
        exact ⟨j + 1, by omega, by simp, by rw [e, hx]; exact hb1, hk2.trans hk1, hrow.keep hk1 n3 (by decide)⟩
      case measure => simp [intOf] <;> omega
    · have hje : j = d.samples.length := by omega
      subst hje
      go_wp2_with fail
      go_ret
      exact ⟨rfl, hb2, hk2⟩

theorem coefW_below (w : World) : Below w.heap.size w (coefW w) := by
  unfold coefW
  exact ((((Below.refl _ w).alloc (by omega) _).alloc (by simp) _).alloc (by simp; omega) _).alloc (by simp; omega) _

theorem restsL_get (o : Nat) (l : List Int) (k j : Nat) : -2147483648 ≤ (restsL o l k).getD j 0 ∧ (restsL o l k).getD j 0 < 2147483648 := by
  by_cases h : j < (restsL o l k).length
  · exact restsL_range o l k _ (by simp [h])
  · rw [List.getD_eq_getElem?_getD, List.getElem?_eq_none (by omega)]
    simp

set_option maxRecDepth 100000 in
set_option maxHeartbeats 4000000 in
theorem fixedSamples (s : Sk) (B bw : Nat) (hs : s.Ok Tryz.prog 429 B) (hB : B ≤ bw) (st : BS) (d : SubD) (hd : d.ok) (n : Nat) (hn : n ≤ 32) (hdr : Array Value) (sb rb mb pb : Nat) (prec : Int) (cf : Value) (scap pcap : Nat) (w : World) (h : BWr s bw st w) (hc : st.out.length + 1099511638000 ≤ s.cap) (hsub : SubAt d sb rb mb pb prec cf scap pcap w)
    (n1 : ¬ bwOwn s bw sb) (n2 : ¬ bwOwn s bw rb) (n3 : ¬ bwOwn s bw mb) (n4 : ¬ bwOwn s bw pb) :
    Calls Tryz.prog 79 #[.pointer (some ⟨bw, 0, none⟩), .agg hdr, .pointer (some ⟨sb, 0, none⟩), .int .u64 n] w fun e w' => e = .returned .nilIface ∧ BWr s bw ((st.smp d.samples n d.order).resid d) w' ∧ Keep B (bwOwn s bw) w w' := by
  have hz : B ≤ w.heap.size := Nat.le_trans hB (Nat.le_of_lt h.blk.lt)
  have hlen := hd.len
  have hsc := hsub.scap
  have hord := hd.order
  have hmore : d.order < d.samples.length := Nat.lt_of_lt_of_le hd.more (Nat.div_le_self _ _)
  have hsub := hsub.below ((Below.refl _ _).alloc (Nat.le_refl _) (.cells hdr 72))
  have hb := h.alloc hs (.cells hdr 72)
  have hK := (Keep.refl B (bwOwn s bw) w).alloc hz (.cells hdr 72)
  have q8 := hsub.sub.cell 8
  simp at q8
  have HR := Lib.hid hd.rng
  go_enter Tryz.func79, Tryz.ntmps79
  go_wp2_with fail
  go_loopw [10] (fun jv wr => ∃ j : Nat, j ≤ d.order ∧ jv = .int .i64 (j : Int) ∧ BWr s bw (st.smp d.samples n j) wr ∧ Keep B (bwOwn s bw) w wr ∧ SubAt d sb rb mb pb prec cf scap pcap wr) (fun jv _ => 256 - (intOf jv).toNat)
  case atStart => exact ⟨0, by omega, rfl, hb, hK, hsub⟩
  case round =>
    obtain ⟨j, hj, rfl, hb2, hk2, hsr⟩ := hrel
    have hg := BS.smp_grow h.ok d.samples n j (by omega)
    have q1 := hsr.sub.cell 1
    simp at q1
    by_cases hlt : j < d.order
    · have cj := hsr.smp.cell j _ (i32V_get (by omega))
      have rj := HR.out j
      generalize hx : d.samples.getD j 0 = x at cj rj
      go_wp2_with fail
      refine (wbitsI s B bw hs hB (st.smp d.samples n j) _ _ n (by omega) (by omega) (u64w_range _) _ hb2 (by omega)).mono ?_
      rintro e w1 ⟨rfl, hb1, hk1⟩
      go_wp2_with fail
      go_roundw
      case rel =>
        have e : st.smp d.samples n (j + 1) = (st.smp d.samples n j).put (IntKind.u64.wrap (d.samples.getD j 0)) n := rfl
        exact ⟨j + 1, by omega, by simp, by rw [e, hx]; exact hb1, hk2.trans hk1, hsr.keep hk1 n1 n2 n3 n4⟩
      case measure => simp [intOf] <;> omega
    · have hje : j = d.order := by omega
      subst hje
      go_wp2_with fail
      refine (fixedCoeffs d.order hord wr).mono ?_
      rintro e w1 ⟨rfl, hw1⟩
      have hbl := coefW_below wr
      rw [hw1] at hbl
      have hs1 := hsr.below hbl
      go_wp2_with fail
      refine (lpcAny d hd sb rb mb pb prec cf scap pcap w1 hs1 wr hbl ⟨hsr.sub.lt, hsr.smp.lt⟩ hw1.symm).mono ?_
      rintro e w2 ⟨v, rfl, hown, hb4⟩
      rcases hown.2 with ⟨_, h0⟩ | ⟨g, gcap, cur, rfl, hge, hh, hgc, hgm, hgs, hgt⟩
      · omega
      have hsz := hbl.size
      have hsz2 := hb4.size
      have hbl2 : Below wr.heap.size wr w2 := hbl.trans (hb4.mono hsz)
      have hbw2 := hb2.same hs hbl2
      have hs2 := hsr.below hbl2
      have hrl := restsL_len d.order d.samples (d.samples.length - d.order)
      have hrr := restsL_get d.order d.samples (d.samples.length - d.order)
      have hng : ¬ bwOwn s bw g := fun x => hb2.fresh hs (k := g) (by omega) x
      have hrow : Row w2 g 21 (i32V (restsL d.order d.samples (d.samples.length - d.order))) := by
        refine ⟨cur, hh, fun j v hj => ?_⟩
        rw [← hgt, List.getElem?_take] at hj
        split at hj
        · simpa using hj
        · simp at hj
      have hK3 := hk2.same hbl2 (Nat.le_trans hB (Nat.le_of_lt hb2.blk.lt))
      go_wp2_with fail
      have hfin := residuals s B bw hs hB (st.smp d.samples n d.order) d hd sb rb mb pb prec cf scap pcap (restsL d.order d.samples (d.samples.length - d.order)) g gcap w2 hbw2 (by omega) hs2 hrl hrr hrow (by rw [hrl]; exact ⟨hgc, hgm⟩) n1 n2 n3 n4 hng
      rw [hrl] at hfin
      refine hfin.mono ?_
      rintro e w5 ⟨rfl, hb5, hk5⟩
      go_wp2
      go_ret
      exact ⟨rfl, hb5, hK3.trans hk5⟩
end Go.Proofs.YtlabcknoooaefaaGreatDoor

/-
  A SUBFRAME WRITTEN: encodeSubframe.
-/
namespace Go.Proofs.YtlabcknoooaefaaGreatDoor
open Go.RowKit
set_option linter.unusedVariables false

set_option maxRecDepth 100000 in
set_option maxHeartbeats 4000000 in
theorem subframe (s : Sk) (B bw : Nat) (hs : s.Ok Tryz.prog 429 B) (hB : B ≤ bw) (st : BS) (d : SubD) (hd : d.ok) (n : Nat) (hn : n ≤ 32) (hdr : HdrD) (hz1 : hdr.z = d.samples.length) (sb rb mb pb : Nat) (prec : Int) (cf : Value) (scap pcap : Nat) (w : World) (h : BWr s bw st w) (hc : st.out.length + 1099511638200 ≤ s.cap) (hsub : SubAt d sb rb mb pb prec cf scap pcap w)
    (n1 : ¬ bwOwn s bw sb) (n2 : ¬ bwOwn s bw rb) (n3 : ¬ bwOwn s bw mb) (n4 : ¬ bwOwn s bw pb) :
    Calls Tryz.prog 43 #[.pointer (some ⟨bw, 0, none⟩), .agg hdr.cells, .pointer (some ⟨sb, 0, none⟩), .int .u64 n] w fun e w' => e = .returned .nilIface ∧ BWr s bw (st.sub d n) w' ∧ Keep B (bwOwn s bw) w w' := by
  obtain ⟨fix, z, rate, ch, bps, num⟩ := hdr
  simp only at hz1
  subst hz1
  have hz : B ≤ w.heap.size := Nat.le_trans hB (Nat.le_of_lt h.blk.lt)
  have hb := (h.alloc hs (.cells (HdrD.cells ⟨fix, d.samples.length, rate, ch, bps, num⟩) 72)).alloc hs (.cells #[.pointer (some ⟨sb, 0, none⟩)] 81)
  have hK := ((Keep.refl B (bwOwn s bw) w).alloc hz (.cells (HdrD.cells ⟨fix, d.samples.length, rate, ch, bps, num⟩) 72)).alloc (by simp; omega) (.cells #[.pointer (some ⟨sb, 0, none⟩)] 81)
  have hs1 := hsub.below (((Below.refl _ _).alloc (Nat.le_refl _) (.cells (HdrD.cells ⟨fix, d.samples.length, rate, ch, bps, num⟩) 72)).alloc (by simp) (.cells #[.pointer (some ⟨sb, 0, none⟩)] 81))
  have k0 := hs1.sub.cell 0
  have k1 := hs1.sub.cell 1
  have k2 := hs1.sub.cell 2
  have k3 := hs1.sub.cell 3
  have k4 := hs1.sub.cell 4
  have k5 := hs1.sub.cell 5
  have k6 := hs1.sub.cell 6
  have k7 := hs1.sub.cell 7
  simp at k0 k1 k2 k3 k4 k5 k6 k7
  have hh := (Bk.new w 72 (HdrD.cells ⟨fix, d.samples.length, rate, ch, bps, num⟩)).alloc (.cells #[.pointer (some ⟨sb, 0, none⟩)] 81)
  have hp := Bk.newAt (w.alloc (.cells (HdrD.cells ⟨fix, d.samples.length, rate, ch, bps, num⟩) 72)) 81 #[.pointer (some ⟨sb, 0, none⟩)] (w.heap.size + 1) (by simp)
  have nh := h.fresh hs (Nat.le_refl w.heap.size)
  have np := h.fresh hs (Nat.le_succ w.heap.size)
  simp only [HdrD.cells] at hb hK hs1 k0 k1 k2 k3 k4 k5 k6 k7 hh hp ⊢
  go_enter_defers Tryz.func43, Tryz.ntmps43
  go_wp2_with fail
  refine (subHeader s B bw hs hB st d hd prec cf _ _ hb (by omega)).mono ?_
  rintro e w1 ⟨rfl, hb1, hl1, hk1⟩
  have hK1 := hK.trans hk1
  have hs2 := hs1.keep hk1 n1 n2 n3 n4
  have hh1 := hk1.bk hh nh (by decide)
  have hp1 := hk1.bk hp np (by decide)
  have p0 := hp1.cell 0
  simp at p0
  obtain ⟨c0, c1, c2, c3, c4, c5⟩ := hdrCells hh1
  have m0 := hs2.sub.cell 0
  have m2 := hs2.sub.cell 2
  simp at m0 m2
  have H := Lib.hid (And.intro hb1 hK1)
  rcases hd.kind with e | e | e
  · rw [e] at m0
    have esub : st.sub d n = (st.subHead d).put (IntKind.u64.wrap (d.samples.getD 0 0)) n := by unfold BS.sub; rw [if_pos e]
    have E := Lib.hid esub
    clear esub
    go_wp2_with fail
    refine (constSamples s B bw hs hB (st.subHead d) d hd e n hn _ sb rb mb pb prec cf scap pcap w1 hb1 (by omega) hs2).mono ?_
    rintro e w2 ⟨rfl, hb2, hk2⟩
    go_wp2_with fail
    rw [← E.out] at hb2
    exact ⟨_, results_tmp rfl _ _ _, rfl, hb2, hK1.trans hk2⟩
  · rw [e] at m0
    have esub : st.sub d n = (st.subHead d).smp d.samples n d.samples.length := by unfold BS.sub; rw [if_neg (by omega), if_pos e]
    have E := Lib.hid esub
    clear esub
    go_wp2_with fail
    refine (verbSamples s B bw hs hB (st.subHead d) d hd n hn ⟨fix, d.samples.length, rate, ch, bps, num⟩ rfl sb rb mb pb prec cf scap pcap w1 hb1 (by omega) hs2 n3).mono ?_
    rintro e w2 ⟨rfl, hb2, hk2⟩
    go_wp2_with fail
    rw [← E.out] at hb2
    exact ⟨_, results_tmp rfl _ _ _, rfl, hb2, hK1.trans hk2⟩
  · rw [e] at m0
    have esub : st.sub d n = ((st.subHead d).smp d.samples n d.order).resid d := by unfold BS.sub; rw [if_neg (by omega), if_neg (by omega)]
    have E := Lib.hid esub
    clear esub
    go_wp2_with fail
    refine (fixedSamples s B bw hs hB (st.subHead d) d hd n hn _ sb rb mb pb prec cf scap pcap w1 hb1 (by omega) hs2 n1 n2 n3 n4).mono ?_
    rintro e w2 ⟨rfl, hb2, hk2⟩
    go_wp2_with fail
    rw [← E.out] at hb2
    exact ⟨_, results_tmp rfl _ _ _, rfl, hb2, hK1.trans hk2⟩

theorem BS.subHead_ok {s : BS} (h : s.ok) (d : SubD) : (s.subHead d).ok := BS.put_ok (BS.put_ok (BS.put_ok h _ _) _ _) _ _

theorem BS.subHead_eq (s : BS) (d : SubD) : s.subHead d = ((s.put 0 1).put (kindBits d) 6).bool false := rfl

theorem BS.sub_ok {s : BS} (h : s.ok) (d : SubD) (n : Nat) : (s.sub d n).ok := by
  have h1 : (s.subHead d).ok := BS.put_ok (BS.put_ok (BS.put_ok h _ _) _ _) _ _
  unfold BS.sub
  split
  · exact BS.put_ok h1 _ _
  · split
    · exact BS.smp_ok h1 _ _ _
    · exact BS.parts_ok (BS.put_ok (BS.put_ok (BS.smp_ok h1 _ _ _) _ _) _ _) _ _ _

attribute [local irreducible] BS.put BS.bool BS.parts BS.smp BS.subHead

theorem BS.sub_grow {s : BS} (h : s.ok) (d : SubD) (hd : d.ok) (n : Nat) (hn : n ≤ 32) : (s.sub d n).out.length ≤ s.out.length + 1099511638000 := by
  have a1 := BS.put_ok h 0 1
  have g1 := BS.put_grow s h 0 1
  have a2 := BS.put_ok a1 (kindBits d) 6
  have g2 := BS.put_grow _ a1 (kindBits d) 6
  have h1 := BS.subHead_ok h d
  have g3 := BS.bool_grow _ a2 false
  rw [← BS.subHead_eq] at g3
  have hh : (s.subHead d).out.length ≤ s.out.length + 96 := by
    generalize (s.subHead d) = y at *
    generalize ((s.put 0 1).put (kindBits d) 6) = z at *
    generalize (s.put 0 1) = u at *
    omega
  clear g1 g2 g3 a1 a2
  have hlen := hd.len
  have hord := hd.order
  unfold BS.sub
  split
  · have := BS.put_grow _ h1 (IntKind.u64.wrap (d.samples.getD 0 0)) n
    generalize ((s.subHead d).put (IntKind.u64.wrap (d.samples.getD 0 0)) n) = y at *
    generalize (s.subHead d) = z at *
    omega
  · split
    · have := BS.smp_grow h1 d.samples n d.samples.length (by omega)
      generalize ((s.subHead d).smp d.samples n d.samples.length) = y at *
      generalize (s.subHead d) = z at *
      omega
    · have g4 := BS.smp_grow h1 d.samples n d.order (by omega)
      have a4 := BS.smp_ok h1 d.samples n d.order
      have g5 := BS.put_grow _ a4 0 2
      have a5 := BS.put_ok a4 0 2
      have g6 := BS.put_grow _ a5 d.part 4
      have a6 := BS.put_ok a5 d.part 4
      have g7 := BS.parts_grow a6 d hd (restsL d.order d.samples (d.samples.length - d.order)) d.params.length (Nat.le_refl _)
      have hc := (partCur_le d hd d.params.length (by rw [hd.np]; omega)).1
      have hp : d.params.length ≤ 4 := by
        rw [hd.np]
        have := hd.part
        have h3 : d.part = 0 ∨ d.part = 1 ∨ d.part = 2 := by omega
        rcases h3 with e | e | e <;> simp [e]
      unfold BS.resid
      generalize ((((s.subHead d).smp d.samples n d.order).put 0 2).put d.part 4).parts d (restsL d.order d.samples (d.samples.length - d.order)) d.params.length = y7 at *
      generalize ((((s.subHead d).smp d.samples n d.order).put 0 2).put d.part 4) = y6 at *
      generalize (((s.subHead d).smp d.samples n d.order).put 0 2) = y5 at *
      generalize ((s.subHead d).smp d.samples n d.order) = y4 at *
      generalize (s.subHead d) = z at *
      omega
end Go.Proofs.YtlabcknoooaefaaGreatDoor
