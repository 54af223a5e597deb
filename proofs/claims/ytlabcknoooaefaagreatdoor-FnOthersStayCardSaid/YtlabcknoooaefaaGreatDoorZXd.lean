/-
  THE LAW: what stands verbatim is turned in place.
-/
import Derived.Test.YtlabcknoooaefaaGreatDoorZEd
namespace Go.Proofs.YtlabcknoooaefaaGreatDoor
open Go.RowKit
set_option linter.unusedVariables false

theorem flatMap_set {α : Type} (F : α → List Value) (l : List α) (k : Nat) (a b : α) (ha : l[k]? = some a) (hF : F b = F a) : (l.set k b).flatMap F = l.flatMap F := by
  induction l generalizing k with
  | nil => rfl
  | cons x l ih =>
    rcases k with _ | k
    · simp at ha
      subst ha
      simp [hF]
    · simp only [List.set_cons_succ, List.flatMap_cons]
      rw [ih k (by simpa using ha)]

/-- A subframe by a polynomial of order nought, in one part. -/
def SubI.turn (s : SubI) (p : Int) (pb : Nat) : SubI := ⟨⟨2, 0, 0, [p], s.d.samples⟩, s.mb, s.scap, pb, 1⟩

def FrI.turn (f : FrI) (c : Nat) (s : SubI) : FrI := ⟨f.varies, f.size, f.rate, f.assign, f.bits, f.sb, f.scap, f.subs.set c s⟩

/-- The world behind the four stores. -/
def turnW (w : World) (sb c : Nat) (pb : Nat) : World := (((w.setCell ⟨sb, c * 9, none⟩ (.int .i64 2)).setCell ⟨sb, c * 9 + 1, none⟩ (.int .i64 0)).setCell ⟨sb, c * 9 + 7, none⟩ (.int .i64 0)).setCell ⟨sb, c * 9 + 8, none⟩ (.slice (some ⟨pb, 0, none⟩) 1 1)

theorem Row.turn {w : World} {sb : Nat} {subs : List SubI} (h : Row w sb 42 (subs.flatMap SubI.cells)) {c : Nat} {s : SubI} (hs : subs[c]? = some s) (p : Int) (pb : Nat) :
    Row (turnW w sb c pb) sb 42 ((subs.set c (s.turn p pb)).flatMap SubI.cells) := by
  obtain ⟨cur, hb, hv⟩ := h
  have hc := (List.getElem?_eq_some_iff.1 hs).1
  have old : ∀ (q i : Nat) (t : SubI) (u : Value), subs[q]? = some t → t.cells[i]? = some u → cur[q * 9 + i]? = some u := fun q i t u hq hu => by
    have hi : i < 9 := by
      have := (List.getElem?_eq_some_iff.1 hu).1
      rw [SubI.cells_len] at this
      exact this
    exact hv _ _ ((flat_get SubI.cells 9 SubI.cells_len subs q i hi t hq).trans hu)
  refine ⟨_, (((hb.put _ _).put _ _).put _ _).put _ _, fun j v hj => ?_⟩
  have hjl := (List.getElem?_eq_some_iff.1 hj).1
  rw [flat_len SubI.cells 9 SubI.cells_len, List.length_set] at hjl
  obtain ⟨q, i, hi, rfl⟩ : ∃ q i, i < 9 ∧ j = q * 9 + i := ⟨j / 9, j % 9, Nat.mod_lt _ (by decide), by omega⟩
  have hq : q < subs.length := by omega
  by_cases hqc : q = c
  · subst hqc
    have h8 := old q 8 s _ hs rfl
    have hsz : q * 9 + 8 < cur.size := by
      have := (Array.getElem?_eq_some_iff.1 h8).1
      exact this
    have hset : (subs.set q (s.turn p pb))[q]? = some (s.turn p pb) := by simp [hq]
    rw [flat_get SubI.cells 9 SubI.cells_len _ q i hi _ hset] at hj
    rcases i with _ | _ | _ | _ | _ | _ | _ | _ | _ | i
    · have e : v = .int .i64 2 := by simpa [SubI.turn, SubI.cells] using hj.symm
      subst e
      simp [show q * 9 < cur.size by omega]
    · have e : v = .int .i64 0 := by simpa [SubI.turn, SubI.cells] using hj.symm
      subst e
      simp [show q * 9 + 1 < cur.size by omega]
    · have := old q 2 s v hs (by simpa [SubI.turn, SubI.cells] using hj)
      simp [this]
    · have := old q 3 s v hs (by simpa [SubI.turn, SubI.cells] using hj)
      simp [this]
    · have := old q 4 s v hs (by simpa [SubI.turn, SubI.cells] using hj)
      simp [this]
    · have := old q 5 s v hs (by simpa [SubI.turn, SubI.cells] using hj)
      simp [this]
    · have := old q 6 s v hs (by simpa [SubI.turn, SubI.cells] using hj)
      simp [this]
    · have e : v = .int .i64 0 := by simpa [SubI.turn, SubI.cells] using hj.symm
      subst e
      simp [show q * 9 + 7 < cur.size by omega]
    · have e : v = .slice (some ⟨pb, 0, none⟩) 1 1 := by simpa [SubI.turn, SubI.cells] using hj.symm
      subst e
      simp [show q * 9 + 8 < cur.size by omega]
    · omega
  · have hset : (subs.set c (s.turn p pb))[q]? = some (subs[q]'hq) := by
      rw [List.getElem?_set_ne (fun e => hqc e.symm)]
      exact List.getElem?_eq_getElem hq
    rw [flat_get SubI.cells 9 SubI.cells_len _ q i hi _ hset] at hj
    have := old q i _ v (List.getElem?_eq_getElem hq) hj
    have n0 : ¬ c * 9 = q * 9 + i := by omega
    have n1 : ¬ c * 9 + 1 = q * 9 + i := by omega
    have n7 : ¬ c * 9 + 7 = q * 9 + i := by omega
    have n8 : ¬ c * 9 + 8 = q * 9 + i := by omega
    simp [this, n0, n1, n7, n8]

theorem SubI.turn_ok {s : SubI} {size : Nat} (h : s.d.ok ∧ s.d.samples.length = size) (p : Int) (pb : Nat) (hp : 4 ≤ p ∧ p ≤ 14) : (s.turn p pb).d.ok ∧ (s.turn p pb).d.samples.length = size := by
  have hl := h.1.len
  refine ⟨⟨.inr (.inr rfl), Nat.zero_le _, Nat.zero_le _, rfl, fun v hv => by rw [List.mem_singleton.1 hv]; exact hp, hl, ?_, ?_, h.1.rng, fun e => ?_⟩, h.2⟩
  · show 0 < s.d.samples.length / 2 ^ 0
    simp
    omega
  · show s.d.samples.length % 2 ^ 0 = 0
    simp
    omega
  · exact absurd (show (2 : Int) = 0 from e) (by decide)

theorem rowsFar {w : World} {b sb c pb : Nat} {t : TypeId} {l : List Value} (h : Row w b t l) (hne : b ≠ sb) : Row (turnW w sb c pb) b t l := by
  obtain ⟨cur, hb, hv⟩ := h
  exact ⟨cur, (((hb.far (p := ⟨sb, c * 9, none⟩) hne _).far (p := ⟨sb, c * 9 + 1, none⟩) hne _).far (p := ⟨sb, c * 9 + 7, none⟩) hne _).far (p := ⟨sb, c * 9 + 8, none⟩) hne _, hv⟩

/-- What is no subframe stays. -/
theorem bkTurn {w : World} {b sb c pb : Nat} {t : TypeId} {cs : Array Value} (h : Bk w b t cs) (hne : b ≠ sb) : Bk (turnW w sb c pb) b t cs :=
  (((h.far (p := ⟨sb, c * 9, none⟩) hne _).far (p := ⟨sb, c * 9 + 1, none⟩) hne _).far (p := ⟨sb, c * 9 + 7, none⟩) hne _).far (p := ⟨sb, c * 9 + 8, none⟩) hne _

theorem turnW_alloc (w : World) (o : Obj) (sb c pb : Nat) (h : sb < w.heap.size) : turnW (w.alloc o) sb c pb = (turnW w sb c pb).alloc o := by
  unfold turnW
  rw [World.setCell_alloc_past _ _ _ _ h, World.setCell_alloc_past _ _ _ _ (by simpa [World.setCell] using h), World.setCell_alloc_past _ _ _ _ (by simpa [World.setCell] using h), World.setCell_alloc_past _ _ _ _ (by simpa [World.setCell] using h)]

theorem GOut.turn {w0 w : World} {A : Option Addr} {cap : Nat} {frs : List FrI} {nch : Nat} {bits : Int} (h0 : GOut w0 A cap frs nch bits w) {k c : Nat} {f : FrI} {s : SubI} (hk : frs[k]? = some f) (hc : f.subs[c]? = some s) (p : Int) (hp : 4 ≤ p ∧ p ≤ 14) :
    GOut w0 A cap (frs.set k (f.turn c (s.turn p w.heap.size))) nch bits (turnW (w.alloc (.cells #[.int .i64 p] 3)) f.sb c w.heap.size) := by
  have h := h0.same ((Below.refl _ w).alloc (Nat.le_refl _) (.cells #[.int .i64 p] 3))
  have hfm : f ∈ frs := List.mem_of_getElem? hk
  have hf := h.ats f hfm
  have hsm : s ∈ f.subs := List.mem_of_getElem? hc
  obtain ⟨cur, hb, _⟩ := hf.row
  have fsb : f.sb < w.heap.size := (h0.ats f hfm).row.lt
  have other : ∀ (b : Nat) (t : TypeId) (l : List Value), Row (w.alloc (.cells #[.int .i64 p] 3)) b t l → t ≠ 42 → Row (turnW (w.alloc (.cells #[.int .i64 p] 3)) f.sb c w.heap.size) b t l := fun b t l hr ht => rowsFar hr (hr.ne hb ht)
  have subAt : ∀ t : SubI, t.at (w.alloc (.cells #[.int .i64 p] 3)) → t.at (turnW (w.alloc (.cells #[.int .i64 p] 3)) f.sb c w.heap.size) := fun t ht => ⟨other _ _ _ ht.smp (by decide), other _ _ _ ht.prm (by decide), ht.scap, ht.pcap⟩
  have hcells : (f.turn c (s.turn p w.heap.size)).cells = f.cells := by simp [FrI.turn, FrI.cells]
  have memb : ∀ g ∈ frs.set k (f.turn c (s.turn p w.heap.size)), (g ∈ frs ∧ ∃ i, frs[i]? = some g ∧ i ≠ k) ∨ g = f.turn c (s.turn p w.heap.size) := fun g hg => by
    obtain ⟨i, hi, e⟩ := List.mem_iff_getElem.1 hg
    rw [List.length_set] at hi
    by_cases hik : i = k
    · subst hik
      simp at e
      exact .inr e.symm
    · rw [List.getElem_set_ne (fun e => hik e.symm)] at e
      exact .inl ⟨e ▸ List.getElem_mem _, i, by rw [← e]; exact List.getElem?_eq_getElem hi, hik⟩
  have sbs : ∀ (i : Nat) (g : FrI), (frs.set k (f.turn c (s.turn p w.heap.size)))[i]? = some g → ∃ g', frs[i]? = some g' ∧ g'.sb = g.sb := fun i g hg => by
    have hi := (List.getElem?_eq_some_iff.1 hg).1
    rw [List.length_set] at hi
    by_cases hik : i = k
    · subst hik
      simp [hi] at hg
      exact ⟨f, hk, by rw [← hg]; rfl⟩
    · rw [List.getElem?_set_ne (fun e => hik e.symm)] at hg
      exact ⟨g, hg, rfl⟩
  refine ⟨?_, by simpa using h.len, by simpa using h.cap, fun g hg => ?_, fun g hg => ?_, fun i j g1 g2 h1 h2 hij => ?_, fun g hg => ?_, ?_, ?_⟩
  · rw [flatMap_set FrI.cells frs k f _ hk hcells, List.length_set]
    unfold turnW
    exact ownsRow_setCell_other (ownsRow_setCell_other (ownsRow_setCell_other (ownsRow_setCell_other h.row (a := ⟨f.sb, c * 9, none⟩) (ownsRow_ne h.row hb (by decide)) _) (a := ⟨f.sb, c * 9 + 1, none⟩) (ownsRow_ne h.row hb (by decide)) _) (a := ⟨f.sb, c * 9 + 7, none⟩) (ownsRow_ne h.row hb (by decide)) _) (a := ⟨f.sb, c * 9 + 8, none⟩) (ownsRow_ne h.row hb (by decide)) _
  · rcases memb g hg with ⟨hgm, i, hi, hik⟩ | rfl
    · have hg' := h.ats g hgm
      exact ⟨rowsFar hg'.row (h.apart i k g f hi hk hik), hg'.cap, fun t ht => subAt t (hg'.subs t ht)⟩
    · refine ⟨hf.row.turn hc p w.heap.size, by simpa [FrI.turn] using hf.cap, fun t ht => ?_⟩
      rcases List.mem_or_eq_of_mem_set ht with h' | h'
      · exact subAt t (hf.subs t h')
      · subst h'
        have hs' := hf.subs s hsm
        refine ⟨other _ _ _ hs'.smp (by decide), other _ _ _ ⟨_, Bk.new w 3 #[.int .i64 p], fun j v hj => ?_⟩ (by decide), hs'.scap, by simp [SubI.turn, maxLen]⟩
        rcases j with _ | j
        · simpa [SubI.turn, intV] using hj
        · simp [SubI.turn, intV] at hj
  · rcases memb g hg with ⟨hgm, _⟩ | rfl
    · exact h.ok g hgm
    · have ho := h.ok f hfm
      refine ⟨ho.size, ho.rate, ho.asg, ho.bits, by simpa [FrI.turn] using ho.subs, fun t ht => ?_⟩
      rcases List.mem_or_eq_of_mem_set ht with h' | h'
      · exact ho.sub t h'
      · subst h'
        exact SubI.turn_ok (ho.sub s hsm) p _ hp
  · obtain ⟨a1, e1, s1⟩ := sbs i g1 h1
    obtain ⟨a2, e2, s2⟩ := sbs j g2 h2
    rw [← s1, ← s2]
    exact h.apart i j a1 a2 e1 e2 hij
  · rcases memb g hg with ⟨hgm, _⟩ | rfl
    · exact h.low g hgm
    · exact h.low f hfm
  · have hl := h.low f hfm
    exact (((h.below.setCell (p := ⟨f.sb, c * 9, none⟩) hl _).setCell (p := ⟨f.sb, c * 9 + 1, none⟩) hl _).setCell (p := ⟨f.sb, c * 9 + 7, none⟩) hl _).setCell (p := ⟨f.sb, c * 9 + 8, none⟩) hl _
  · have := h.hB
    simpa [turnW, World.setCell] using this
end Go.Proofs.YtlabcknoooaefaaGreatDoor

/-
  THE LAW: what does not stand verbatim stays as it is given.
-/
namespace Go.Proofs.YtlabcknoooaefaaGreatDoor
open Go.RowKit
set_option linter.unusedVariables false

set_option maxRecDepth 1000000 in
set_option maxHeartbeats 8000000 in
theorem law4 (flags : Int) (hf : 0 ≤ flags ∧ flags < 4294967296) (As Ad Ak : Option Addr) (ns cs nd cd nk ck : Nat) (sl dl kl : List Int) (hs : ns ≤ cs ∧ cs ≤ maxLen) (hd : nd ≤ cd ∧ cd ≤ maxLen) (hk : nk ≤ ck ∧ ck ≤ maxLen) (hsl : ∀ x ∈ sl, 0 ≤ x ∧ x < 256) (hkl : ∀ v ∈ kl, 0 ≤ v ∧ v < 65536) (w : World) (hn : NCh w) (hw0 : 0 < w.heap.size) (hrs : Reads w w.heap.size 1 As ns (u8V sl)) (hrd : Reads w w.heap.size 1 Ad nd (u8V dl)) (hrk : Reads w w.heap.size 1 Ak nk (u16V kl)) :
    Calls Tryz.prog 4 #[.int .u32 flags, .slice As ns cs, .slice Ad nd cd, .slice Ak nk ck] w fun e w' => e = .returned (.bool true) ∧ Below w.heap.size w w' := by
  have hs9 : ns ≤ 9223372036854775807 := by unfold maxLen at hs; omega
  have hd9 : nd ≤ 9223372036854775807 := by unfold maxLen at hd; omega
  have hk9 : nk ≤ 9223372036854775807 := by unfold maxLen at hk; omega
  by_cases g1 : ns ≤ 2147483647
  case neg =>
    go_enter Tryz.func4, Tryz.ntmps4
    go_wp2_with fail
    go_ret
    exact ⟨rfl, Below.refl _ _⟩
  by_cases g2 : nd ≤ 2147483647
  case neg =>
    go_enter Tryz.func4, Tryz.ntmps4
    go_wp2_with fail
    go_ret
    exact ⟨rfl, Below.refl _ _⟩
  by_cases g3 : nk ≤ 2147483647
  case neg =>
    go_enter Tryz.func4, Tryz.ntmps4
    go_wp2_with fail
    go_ret
    exact ⟨rfl, Below.refl _ _⟩
  go_enter Tryz.func4, Tryz.ntmps4
  go_wp2_with fail
  refine (fewP Ad Ak nd cd nk ck hd9 hk9 w).mono ?_
  rintro e wx ⟨b, rfl, hfew, rfl⟩
  cases b
  case false =>
    go_wp2_with fail
    go_ret
    exact ⟨rfl, Below.refl _ _⟩
  obtain ⟨hd1, hk1⟩ := hfew rfl
  clear hfew
  have HG := givenP flags hf As Ad Ak ns cs nd cd nk ck sl dl kl hs ⟨hd1, hd⟩ ⟨hk1, hk⟩ hsl hkl w hrs hrd hrk
  clear hsl hkl hrs hrd hrk
  go_wp2_with fail
  refine HG.mono ?_
  rintro e w2 ⟨rate, ch, bits, nsam, nch, A, cap, frs, rfl, hin, hbt, hch, hnch, G2⟩
  clear HG
  subst hch
  have b2 := (Below.refl w2.heap.size w2).alloc (Nat.le_refl _) (.cells (infoV rate nch bits nsam) 28)
  have G3 := G2.same b2
  have bx := Bk.new w2 28 (infoV rate nch bits nsam)
  obtain ⟨xb, hxb⟩ : ∃ xb, xb = w2.heap.size := ⟨_, rfl⟩
  obtain ⟨w3, hw3⟩ : ∃ w3, w3 = w2.alloc (.cells (infoV rate nch bits nsam) 28) := ⟨_, rfl⟩
  rw [← hw3] at G3 bx b2
  rw [← hxb] at bx
  unfold infoV at hw3 bx ⊢
  obtain ⟨L, hL⟩ : ∃ L, L = frs.length := ⟨_, rfl⟩
  have hL3 : L ≤ 3 := by rw [hL]; exact G3.len
  have hLc : L ≤ cap ∧ cap ≤ maxLen := by rw [hL]; exact G3.cap
  unfold maxLen at hLc
  have HG3 := Lib.hid G3
  have HBX := Lib.hid bx
  have HL := Lib.hid hL
  rw [← hL]
  clear bx G3 G2 b2 hL
  go_upto_region 6 with fail
  rw [← hw3, ← hxb]
  clear hw3 hxb
  go_cut [43, 44, 45] from 11 to 118 (fun v43 v44 v45 wc => v43 = .slice A L cap ∧ v44 = .int .i64 (L : Int) ∧ v45 = .int .i64 0 ∧ w3 = wc)
  case first =>
    go_wp2_with fail
    go_meet
    case rel => exact ⟨rfl, rfl, by simp, rfl⟩
  case rest =>
  obtain ⟨rfl, rfl, rfl, rfl⟩ := hcut
  go_upto_block 0 with fail
  go_cut [] from 45 to 118 (fun wc => ∃ frs' : List FrI, frs'.length = L ∧ GOut w A cap frs' nch bits wc ∧ Bk wc xb 28 #[.int .i64 16, .int .i64 4096, .int .i64 0, .int .i64 0, .int .i64 rate, .int .i64 (nch : Int), .int .i64 bits, .int .u64 nsam, .slice none 0 0] ∧ ∀ f ∈ frs', ∀ s ∈ f.subs, s.d.kind ≠ 1)
  case first =>
    refine wp_use ?_ (fun _ _ h => h)
    go_wp2_with fail
    go_loopg [45] L (fun g i wr => ∃ (k : Nat) (frs' : List FrI), g + k = L ∧ i = .int .i64 (k : Int) ∧ frs'.length = L ∧ GOut w A cap frs' nch bits wr ∧ Bk wr xb 28 #[.int .i64 16, .int .i64 4096, .int .i64 0, .int .i64 0, .int .i64 rate, .int .i64 (nch : Int), .int .i64 bits, .int .u64 nsam, .slice none 0 0] ∧ (∀ (q : Nat) (f : FrI), q < k → frs'[q]? = some f → ∀ s ∈ f.subs, s.d.kind ≠ 1))
    case atStart => exact ⟨0, frs, by omega, rfl, HL.out.symm, HG3.out, HBX.out, fun q f hq => by omega⟩
    case round =>
      obtain ⟨k, frs1, hgk, rfl, hfl, G4, bx4, hkd⟩ := hrel
      have HGK := Lib.hid hgk
      have HFL := Lib.hid hfl
      have HKD := Lib.hid hkd
      have hkL : k ≤ L := by omega
      clear hgk hfl hkd
      by_cases hlt : k < L
      · obtain ⟨f, hf⟩ : ∃ f, frs1[k]? = some f := ⟨frs1[k]'(by rw [HFL.out]; exact hlt), by simp [show k < frs1.length by rw [HFL.out]; exact hlt]⟩
        obtain ⟨fb, fcap, e1, _, _, _, _, frow⟩ := ownsRow_some G4.row (by rw [HFL.out]; omega)
        injection e1 with e1 _ e2
        subst e1 e2
        have hnf : f.subs.length = nch := (G4.ok f (List.mem_of_getElem? hf)).subs
        have y6 : wr.cell? ⟨fb, k * 7 + 6, none⟩ = some (.slice (some ⟨f.sb, 0, none⟩) nch f.scap) := by rw [← hnf]; exact FrsAt.cells frow hf 6 _ rfl
        have hscap := (G4.ats f (List.mem_of_getElem? hf)).cap
        rw [hnf] at hscap
        unfold maxLen at hscap
        have HNF := Lib.hid hnf
        have HF := Lib.hid hf
        obtain ⟨sb, hsb⟩ : ∃ sb, sb = f.sb := ⟨_, rfl⟩
        obtain ⟨scap, hsc⟩ : ∃ scap, scap = f.scap := ⟨_, rfl⟩
        rw [← hsb, ← hsc] at y6
        rw [← hsc] at hscap
        have HSB := Lib.hid hsb
        have HSC := Lib.hid hsc
        have HG4 := Lib.hid G4
        have HBX4 := Lib.hid bx4
        clear hnf hf hsb hsc G4 bx4 frow
        go_upto_block 2 with fail
        go_wp2_with fail
        go_loopg [54] nch (fun g i wr => ∃ (c : Nat) (frs' : List FrI) (f : FrI), g + c = nch ∧ i = .int .i64 (c : Int) ∧ frs'.length = L ∧ frs'[k]? = some f ∧ f.sb = sb ∧ f.scap = scap ∧ GOut w (some ⟨fb, 0, none⟩) cap frs' nch bits wr ∧ Bk wr xb 28 #[.int .i64 16, .int .i64 4096, .int .i64 0, .int .i64 0, .int .i64 rate, .int .i64 (nch : Int), .int .i64 bits, .int .u64 nsam, .slice none 0 0] ∧ (∀ (q : Nat) (f : FrI), q < k → frs'[q]? = some f → ∀ s ∈ f.subs, s.d.kind ≠ 1) ∧ (∀ (q : Nat) (s : SubI), q < c → f.subs[q]? = some s → s.d.kind ≠ 1))
        case atStart => exact ⟨0, frs1, f, by omega, rfl, HFL.out, HF.out, HSB.out.symm, HSC.out.symm, HG4.out, HBX4.out, HKD.out, fun q s hq => by omega⟩
        case round =>
          obtain ⟨c, frs2, f2, hgc, rfl, hfl2, hf2, hsb2, hsc2, G5, bx5, hkd2, hkc⟩ := hrel
          have HGC := Lib.hid hgc
          have hcn : c ≤ nch := by omega
          clear hgc y6
          by_cases hltc : c < nch
          · have hfm := List.mem_of_getElem? hf2
            have hn2 : f2.subs.length = nch := (G5.ok f2 hfm).subs
            obtain ⟨s, hs⟩ : ∃ s, f2.subs[c]? = some s := ⟨f2.subs[c]'(by omega), by simp [show c < f2.subs.length by omega]⟩
            have hsm := List.mem_of_getElem? hs
            obtain ⟨fb2, fcap2, e1, _, _, _, _, frow⟩ := ownsRow_some G5.row (by omega)
            injection e1 with e1 e1b e1c
            clear e1b e1c
            injection e1 with e1
            injection e1 with e1
            subst e1
            have y6 : wr.cell? ⟨fb, k * 7 + 6, none⟩ = some (.slice (some ⟨sb, 0, none⟩) nch scap) := by rw [← hn2, ← hsb2, ← hsc2]; exact FrsAt.cells frow hf2 6 _ rfl
            have srow : Row wr sb 42 (f2.subs.flatMap SubI.cells) := by rw [← hsb2]; exact (G5.ats f2 hfm).row
            have z0 := SubsAt.cells srow hs 0 _ rfl
            have z1 := SubsAt.cells srow hs 1 _ rfl
            have z7 := SubsAt.cells srow hs 7 _ rfl
            have z8 := SubsAt.cells srow hs 8 _ rfl
            simp only [Nat.add_zero] at z0
            have hkk := ((G5.ok f2 hfm).sub s hsm).1.kind
            have hslt := srow.lt
            have HG5 := Lib.hid G5
            have HF2 := Lib.hid hf2
            have HS := Lib.hid hs
            have HKD2 := Lib.hid hkd2
            have HKC := Lib.hid hkc
            have HFL2 := Lib.hid hfl2
            have HBX5 := Lib.hid bx5
            by_cases hk1 : s.d.kind = 1
            · rw [hk1] at z0
              obtain ⟨cur, hcb, _⟩ := srow
              have f0 := hcb.frozen (c * 9)
              have f1 := hcb.frozen (c * 9 + 1)
              have f7 := hcb.frozen (c * 9 + 7)
              have f8 := hcb.frozen (c * 9 + 8)
              have hxne : xb ≠ sb := Bk.ne bx5 hcb (by decide)
              have hxne2 : ¬ sb = xb := fun e => hxne e.symm
              have x6 : wr.cell? ⟨xb, 6, none⟩ = some (.int .i64 bits) := by rw [bx5.cell]; rfl
              have hxl := bx5.lt
              obtain ⟨b8, hb8⟩ : ∃ b8, b8 = bits - 8 := ⟨_, rfl⟩
              obtain ⟨mm, hmm⟩ : ∃ mm : Int, mm = (if b8 < 4 then 4 else b8) := ⟨_, rfl⟩
              obtain ⟨p, hp⟩ : ∃ p : Int, p = (if 14 < mm then 14 else mm) := ⟨_, rfl⟩
              have hbr := hin.bits
              have hpr : 4 ≤ p ∧ p ≤ 14 := by
                rw [hp, hmm]
                split <;> split <;> omega
              have HPR := Lib.hid hpr
              have GT := HG5.out.turn HF2.out HS.out p hpr
              have BT := bkTurn (sb := f2.sb) (c := c) (pb := wr.heap.size) (HBX5.out.alloc (.cells #[.int .i64 p] 3)) (by rw [hsb2]; exact hxne)
              rw [turnW_alloc _ _ _ _ _ (by rw [hsb2]; exact hslt)] at GT BT
              have GT := GT.same (Below.refl _ _).drew
              have BT := BT.below (Below.refl _ _).drew BT.lt
              unfold turnW at GT BT
              rw [hsb2] at GT BT
              have HGT := Lib.hid GT
              have HBT := Lib.hid BT
              have HSB2 := Lib.hid hsb2
              have HSC2 := Lib.hid hsc2
              have HN2 := Lib.hid hn2
              clear GT BT hpr hcb bx5 G5 hfl2 hkd2 hkc hs hf2 hsb2 hsc2 hn2 frow hfm hsm hkk hk1 HG4 HBX4 HF HSB HSC HNF HG3 HBX HKD HFL
              go_upto_region 14 with fail
              have w1 : IntKind.i64.wrap (bits - 8) = b8 := by rw [hb8]; exact IntWalk.i64_in _ (by omega)
              have w2 : (if b8 < 4 then (4 : Int) else b8) = mm := hmm.symm
              have w3 : (if 14 < mm then (14 : Int) else mm) = p := hp.symm
              have w4 : max b8 4 = mm := by rw [hmm]; split <;> omega
              have w5 : min mm 14 = p := by rw [hp]; split <;> omega
              clear hb8 hmm hp
              go_region_law (fail)
              all_goals
                clear w1 w2 w3 w4 w5
                go_wp2_with fail
                go_roundg (nch - (c + 1))
                case measure => have := HGC.out; omega
                case rel =>
                  refine ⟨c + 1, frs2.set k (f2.turn c (s.turn p wr.heap.size)), f2.turn c (s.turn p wr.heap.size), by have := HGC.out; omega, by simp, by rw [List.length_set]; exact HFL2.out, by simp [show k < frs2.length by rw [HFL2.out]; exact hlt], HSB2.out, HSC2.out, HGT.out, HBT.out, fun q g hq hg t ht => ?_, fun q t hq ht => ?_⟩
                  · rw [List.getElem?_set_ne (by omega)] at hg
                    exact HKD2.out q g hq hg t ht
                  · by_cases hqc : q = c
                    · subst hqc
                      simp [FrI.turn, show q < f2.subs.length by rw [HN2.out]; exact hltc] at ht
                      rw [← ht]
                      show (2 : Int) ≠ 1
                      decide
                    · have h2 : (f2.subs.set c (s.turn p wr.heap.size))[q]? = some t := ht
                      rw [List.getElem?_set_ne (fun e => hqc e.symm)] at h2
                      exact HKC.out q t (by omega) h2
            · have hkb : (s.d.kind == 1) = false := by simp [hk1]
              have HK1 := Lib.hid hk1
              have HSB2 := Lib.hid hsb2
              have HSC2 := Lib.hid hsc2
              obtain ⟨kd, hkd⟩ : ∃ kd, kd = s.d.kind := ⟨_, rfl⟩
              rw [← hkd] at hkb z0
              clear hkd hk1 hsb2 hsc2 G5 bx5 hfl2 hkd2 hkc hs hf2 hn2 frow hfm hsm hkk srow
              go_wp2_with fail
              go_roundg (nch - (c + 1))
              case measure => have := HGC.out; omega
              case rel =>
                refine ⟨c + 1, frs2, f2, by have := HGC.out; omega, by simp, HFL2.out, HF2.out, HSB2.out, HSC2.out, HG5.out, HBX5.out, HKD2.out, fun q t hq ht => ?_⟩
                by_cases hqc : q = c
                · subst hqc
                  rw [HS.out] at ht
                  injection ht with ht
                  subst ht
                  exact HK1.out
                · exact HKC.out q t (by omega) ht
          · have hcn2 : c = nch := by omega
            have HK2 := Lib.hid hkc
            have HG5 := Lib.hid G5
            have HBX5 := Lib.hid bx5
            have HF2 := Lib.hid hf2
            have HKD2 := Lib.hid hkd2
            have HFL2 := Lib.hid hfl2
            clear hkc G5 bx5 hf2 hkd2 hfl2 hsb2 hsc2
            subst hcn2
            go_wp2_with fail
            go_roundg (L - (k + 1))
            case measure => have := HGK.out; omega
            case rel =>
              refine ⟨k + 1, frs2, by have := HGK.out; omega, by simp, HFL2.out, HG5.out, HBX5.out, fun q g hq hg t ht => ?_⟩
              by_cases hqk : q = k
              · subst hqk
                rw [HF2.out] at hg
                injection hg with hg
                subst hg
                obtain ⟨i, hi, e⟩ := List.mem_iff_getElem.1 ht
                have hl : f2.subs.length = c := (HG5.out.ok f2 (List.mem_of_getElem? HF2.out)).subs
                exact HK2.out i t (by omega) (by rw [← e]; exact List.getElem?_eq_getElem hi)
              · exact HKD2.out q g (by omega) hg t ht
      · have hkL2 : k = L := by omega
        subst hkL2
        go_wp2_with fail
        go_meet
        case rel =>
          refine ⟨frs1, HFL.out, G4, bx4, fun f hf s hs => ?_⟩
          obtain ⟨q, hq, e⟩ := List.mem_iff_getElem.1 hf
          exact HKD.out q f (by rw [← HFL.out]; exact hq) (by rw [← e]; exact List.getElem?_eq_getElem hq) s hs
  case rest =>
  obtain ⟨frs1, hfl1, G4, bx4, hkd⟩ := hcut
  subst hfl1
  clear HG3 HBX HL
  have n4 : NCh wc := hn.below hw0 G4.below
  have q4 : 0 < wc.heap.size := Nat.lt_of_lt_of_le hw0 G4.hB
  have HE1 := analyzedP rate nch bits nsam hin A frs1 cap nch G4.len G4.cap rfl hbt wc n4 q4 G4.frsAt G4.ok hkd
  unfold infoV at HE1
  have HHE1 := Lib.hid HE1
  have y0 := bx4.cell 0
  have y1 := bx4.cell 1
  have y2 := bx4.cell 2
  have y3 := bx4.cell 3
  have y4 := bx4.cell 4
  have y5 := bx4.cell 5
  have y6 := bx4.cell 6
  have y7 := bx4.cell 7
  have y8 := bx4.cell 8
  simp at y0 y1 y2 y3 y4 y5 y6 y7 y8
  have HG4 := Lib.hid G4
  have HBX4 := Lib.hid bx4
  clear HE1 n4 G4 bx4 hkd
  go_wp2_with fail
  refine HHE1.out.mono ?_
  rintro e w5 ⟨v1, l1, rfl, hl1, own1, b5⟩
  have G5 := HG4.out.same b5
  have bx5 := HBX4.out.below b5 HBX4.out.lt
  have n5 : NCh w5 := hn.below hw0 G5.below
  have q5 : 0 < w5.heap.size := Nat.lt_of_lt_of_le hw0 G5.hB
  have HE2 := encodeP rate nch bits nsam hin A frs1 cap nch G5.len G5.cap rfl hbt w5 n5 q5 G5.frsAt G5.ok
  unfold infoV at HE2
  have HHE2 := Lib.hid HE2
  clear y0 y1 y2 y3 y4 y5 y6 y7 y8
  have y0 := bx5.cell 0
  have y1 := bx5.cell 1
  have y2 := bx5.cell 2
  have y3 := bx5.cell 3
  have y4 := bx5.cell 4
  have y5 := bx5.cell 5
  have y6 := bx5.cell 6
  have y7 := bx5.cell 7
  have y8 := bx5.cell 8
  simp at y0 y1 y2 y3 y4 y5 y6 y7 y8
  have HL1 := Lib.hid hl1
  have HO1 := Lib.hid own1
  have HG5 := Lib.hid G5
  clear HE2 n5 G5 bx5 hl1 own1 b5 HHE1 HG4 HBX4
  go_wp2_with fail
  refine HHE2.out.mono ?_
  rintro e w6 ⟨v2, l2, rfl, hl2, own2, b6⟩
  have own1 := ownsRow_below HO1.out b6 (fun k hk => (HO1.out.lt k hk).2)
  have bw6 : Below w.heap.size w w6 := HG5.out.below.trans (b6.mono HG5.out.hB)
  obtain rfl : l1 = l2 := HL1.out.trans hl2.symm
  have h42 : 42 ≤ l1.length := by
    rw [hl2, List.length_append, headLen]
    omega
  obtain ⟨g1, c1, hv1, _, _, c1a, c1b, _⟩ := ownsRow_some own1 (by omega)
  obtain ⟨g2, c2, hv2, _, _, c2a, c2b, _⟩ := ownsRow_some own2 (by omega)
  subst hv1 hv2
  have hd1 := strOwn own1 0 l1.length c1 (by omega) w6 (fun _ => rfl)
  have hd2 := strOwn own2 0 l1.length c2 (by omega) w6 (fun _ => rfl)
  simp only [List.drop_zero, List.take_length] at hd1 hd2
  obtain ⟨s2, hs2e⟩ : ∃ s2, s2 = ByteArray.mk l1.toArray := ⟨_, rfl⟩
  rw [← hs2e] at hd1 hd2
  clear hs2e hl2 own1 own2
  have hi2 : (42 : Int) ≤ (l1.length : Int) := by omega
  generalize l1.length = n2 at *
  have HB6 := Lib.hid bw6
  clear bw6 b6 HHE2 HG5 HL1 HO1 y0 y1 y2 y3 y4 y5 y6 y7 y8
  go_wp2_with fail
  go_ret
  exact ⟨rfl, HB6.out⟩
end Go.Proofs.YtlabcknoooaefaaGreatDoor
