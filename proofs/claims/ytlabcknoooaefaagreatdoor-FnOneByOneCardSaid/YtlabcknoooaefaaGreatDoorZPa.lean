/-
  THE REFERENCE's BIT WRITER: writer.word.
-/
import Derived.Test.YtlabcknoooaefaaGreatDoorZGn
import Derived.Deep.RegionWith
import Derived.Maps.AppendAt
import Derived.Deep.DeepCutAuto
namespace Go.Proofs.YtlabcknoooaefaaGreatDoor
open Go.RowKit
set_option linter.unusedVariables false

/-- The reference's bit writer: block wb, so many bits. -/
structure PWr (B wb at_ : Nat) (w : World) : Prop where
  ex : ∃ v l, Bk w wb 159 #[v, .int .i64 (at_ : Int)] ∧ w.ownsRow B 5 1 v ((at_ + 7) / 8) (u8V l)

theorem PWr.blk {B wb at_ : Nat} {w : World} (h : PWr B wb at_ w) : wb < w.heap.size := by
  obtain ⟨v, l, hb, _⟩ := h.ex
  exact hb.lt

theorem PWr.drew {B wb at_ : Nat} {w : World} (h : PWr B wb at_ w) : PWr B wb at_ w.drew := by
  obtain ⟨v, l, a, b⟩ := h.ex
  exact ⟨⟨v, l, a, b⟩⟩

/-- .. its row's block told. -/
structure PWx (B wb at_ : Nat) (r : Option Nat) (w : World) : Prop where
  ex : ∃ v l, v.ownBlock = r ∧ Bk w wb 159 #[v, .int .i64 (at_ : Int)] ∧ w.ownsRow B 5 1 v ((at_ + 7) / 8) (u8V l)

theorem PWx.wr {B wb at_ : Nat} {r : Option Nat} {w : World} (h : PWx B wb at_ r w) : PWr B wb at_ w := by
  obtain ⟨v, l, _, a, b⟩ := h.ex
  exact ⟨⟨v, l, a, b⟩⟩

theorem PWr.x {B wb at_ : Nat} {w : World} (h : PWr B wb at_ w) : ∃ r, PWx B wb at_ r w := by
  obtain ⟨v, l, a, b⟩ := h.ex
  exact ⟨v.ownBlock, ⟨v, l, rfl, a, b⟩⟩

theorem PWx.drew {B wb at_ : Nat} {r : Option Nat} {w : World} (h : PWx B wb at_ r w) : PWx B wb at_ r w.drew := by
  obtain ⟨v, l, e, a, b⟩ := h.ex
  exact ⟨⟨v, l, e, a, b⟩⟩

/-- Only the writer's block and its row have turned. -/
def WFr (wb : Nat) (r : Option Nat) (w w' : World) : Prop := ∀ (k : Nat) (o : Obj), w.heap[k]? = some o → k ≠ wb → r ≠ some k → w'.heap[k]? = some o

def RNew (r r' : Option Nat) (z : Nat) : Prop := r' = r ∨ ∃ k, r' = some k ∧ z ≤ k

section
variable {wb : Nat} {r r' : Option Nat} {w wr w1 : World}
theorem WFr.refl (wb : Nat) (r : Option Nat) (w : World) : WFr wb r w w := fun _ _ h _ _ => h
theorem WFr.alloc (h : WFr wb r w wr) (o : Obj) : WFr wb r w (wr.alloc o) := fun k x hk hn hr =>
  (Below.heap_alloc wr o k (Array.getElem?_eq_some_iff.1 (h k x hk hn hr)).1).trans (h k x hk hn hr)
theorem WFr.drew (h : WFr wb r w wr) : WFr wb r w wr.drew := h
theorem WFr.set (h : WFr wb r w wr) {g : Nat} (hg : g = wb ∨ RNew r (some g) w.heap.size) (i : Nat) (u : Value) : WFr wb r w (wr.setCell ⟨g, i, none⟩ u) := fun k x hk hn hr => by
  refine (Below.heap_setCell wr ⟨g, i, none⟩ u k ?_).trans (h k x hk hn hr)
  have hlt := (Array.getElem?_eq_some_iff.1 hk).1
  intro hkg
  have hkg' : k = g := hkg
  rcases hg with hg | hg | ⟨k2, e, hge⟩
  · exact hn (hkg'.trans hg)
  · exact hr (by rw [hkg']; exact hg.symm)
  · injection e with e
    omega
theorem WFr.grown (h : WFr wb r w wr) (hg : wr.grownBy w1 r') (hr' : RNew r r' w.heap.size) : WFr wb r w w1 := fun k x hk hn hr => by
  have h1 := h k x hk hn hr
  refine (hg.block k (Array.getElem?_eq_some_iff.1 h1).1 ?_).trans h1
  have hlt := (Array.getElem?_eq_some_iff.1 hk).1
  rintro rfl
  rcases hr' with e | ⟨k2, e, hge⟩
  · exact hr e.symm
  · injection e with e
    omega
theorem WFr.trans (h : WFr wb r w wr) (k : WFr wb r' wr w1) (hr : RNew r r' w.heap.size) : WFr wb r w w1 := fun i x hi hn hx => by
  refine k i x (h i x hi hn hx) hn ?_
  have hlt := (Array.getElem?_eq_some_iff.1 hi).1
  rintro rfl
  rcases hr with e | ⟨k2, e, hge⟩
  · exact hx e.symm
  · injection e with e
    omega
theorem RNew.trans {r2 : Option Nat} {z z2 : Nat} (h : RNew r r' z) (k : RNew r' r2 z2) (hz : z ≤ z2) : RNew r r2 z := by
  rcases k with rfl | ⟨a, e, hge⟩
  · exact h
  · exact Or.inr ⟨a, e, Nat.le_trans hz hge⟩
end

/-- What a word leaves. -/
def WPst (B wb a : Nat) (r : Option Nat) (w : World) (e : Ending) (w' : World) : Prop := e = .returned (.tuple #[]) ∧ Keep B (fun k => k = wb) w w' ∧ WFr wb r w w' ∧ ∃ r', PWx B wb a r' w' ∧ RNew r r' w.heap.size

theorem PWr.step {B wb g q cap at2 : Nat} {r : Option Nat} {l : List Int} {w wr : World} (hbk : Bk wr wb 159 #[.slice (some ⟨g, 0, none⟩) (q + 1) cap, .int .i64 (at2 : Int)]) (hown : wr.ownsRow B 5 1 (.slice (some ⟨g, 0, none⟩) (q + 1) cap) (q + 1) (u8V l)) (hq : q = at2 / 8) (hk : Keep B (fun k => k = wb) w wr) (hB : B ≤ wb) (hg : B ≤ g)
    (hF : WFr wb r w wr) (hN : RNew r (some g) w.heap.size) (X : Int) :
    (∃ v l2, RNew r v.ownBlock w.heap.size ∧ Bk ((wr.setCell ⟨g, q, none⟩ (.int .u8 X)).setCell ⟨wb, 1, none⟩ (.int .i64 ((at2 : Int) + 1))).drew wb 159 #[v, .int .i64 ((at2 + 1 : Nat) : Int)] ∧ ((wr.setCell ⟨g, q, none⟩ (.int .u8 X)).setCell ⟨wb, 1, none⟩ (.int .i64 ((at2 : Int) + 1))).drew.ownsRow B 5 1 v ((at2 + 1 + 7) / 8) (u8V l2)) ∧ Keep B (fun k => k = wb) w ((wr.setCell ⟨g, q, none⟩ (.int .u8 X)).setCell ⟨wb, 1, none⟩ (.int .i64 ((at2 : Int) + 1))).drew ∧
    WFr wb r w ((wr.setCell ⟨g, q, none⟩ (.int .u8 X)).setCell ⟨wb, 1, none⟩ (.int .i64 ((at2 : Int) + 1))).drew := by
  obtain ⟨cur, hcur⟩ := ownsRow_block hown (k := g) rfl
  have hne : wb ≠ g := Bk.ne hbk hcur (by decide)
  have h1 := ownsRow_put hown rfl q (by omega) (.int .u8 X)
  rw [u8V_set] at h1
  have h2 := hbk.far (p := ⟨g, q, none⟩) hne (.int .u8 X)
  have h3 := h2.put 1 (.int .i64 ((at2 : Int) + 1))
  refine ⟨⟨.slice (some ⟨g, 0, none⟩) (q + 1) cap, l.set q X, hN, (by simpa using h3 : Bk ((wr.setCell ⟨g, q, none⟩ (.int .u8 X)).setCell ⟨wb, 1, none⟩ (.int .i64 ((at2 : Int) + 1))) wb 159 #[.slice (some ⟨g, 0, none⟩) (q + 1) cap, .int .i64 ((at2 + 1 : Nat) : Int)]), ?_⟩, ((hk.byteCell hcur hg q _).setCell hB rfl _).drew, ((hF.set (Or.inr hN) q _).set (Or.inl rfl) 1 _).drew⟩
  have e : (at2 + 1 + 7) / 8 = q + 1 := by omega
  rw [e]
  exact ownsRow_setCell_other h1 (a := ⟨wb, 1, none⟩) (by simpa [Value.ownBlock] using fun e => hne e.symm) _

theorem PWr.cells {B wb g q cap at2 : Nat} {l : List Int} {wr : World} (hbk : Bk wr wb 159 #[.slice (some ⟨g, 0, none⟩) (q + 1) cap, .int .i64 (at2 : Int)]) (hown : wr.ownsRow B 5 1 (.slice (some ⟨g, 0, none⟩) (q + 1) cap) (q + 1) (u8V l)) :
    (∀ u, (wr.setCell ⟨g, q, none⟩ u).cell? ⟨wb, 1, none⟩ = some (.int .i64 (at2 : Int))) ∧ (∀ u, (wr.setCell ⟨g, q, none⟩ u).frozen? ⟨wb, 1, none⟩ = false) := by
  obtain ⟨cur, hcur⟩ := ownsRow_block hown (k := g) rfl
  have hne : wb ≠ g := Bk.ne hbk hcur (by decide)
  exact ⟨fun u => (hbk.far (p := ⟨g, q, none⟩) hne u).cell 1, fun u => (hbk.far (p := ⟨g, q, none⟩) hne u).frozen 1⟩

set_option maxRecDepth 100000 in
set_option maxHeartbeats 4000000 in
theorem wordX (B wb at_ n : Nat) (r : Option Nat) (v : Int) (hat : at_ + n ≤ 1099511627776) (w : World) (h : PWx B wb at_ r w) (hB : B ≤ wb) :
    Calls Tryz.prog 50 #[.pointer (some ⟨wb, 0, none⟩), .int .i64 v, .int .i64 (n : Int)] w (WPst B wb (at_ + n) r w) := by
  obtain ⟨va, la, hra, hba, hoa⟩ := h.ex
  have HRA := Lib.hid hra
  clear hra
  obtain ⟨i0, hi, hz0, hz1, hz2⟩ := info_parts (show (Tryz.prog.info? 5).map (fun i => (i.zero, i.size, i.bytes)) = some (some (.int .u8 0), 1, 1) by kernel_rfl)
  go_enter Tryz.func50, Tryz.ntmps50
  go_wp2
  go_loopw [6] (fun kv wr => ∃ k at2 : Nat, k ≤ n ∧ kv = .int .i64 ((k : Int) - 1) ∧ at2 + k = at_ + n ∧ (∃ v l, RNew r v.ownBlock w.heap.size ∧ Bk wr wb 159 #[v, .int .i64 (at2 : Int)] ∧ wr.ownsRow B 5 1 v ((at2 + 7) / 8) (u8V l)) ∧ Keep B (fun k => k = wb) w wr ∧ WFr wb r w wr) (fun kv _ => (intOf kv + 1).toNat)
  case atStart => exact ⟨n, at_, by omega, rfl, rfl, ⟨va, la, Or.inl HRA.out, hba, hoa⟩, Keep.refl _ _ _, WFr.refl _ _ _⟩
  case round =>
    obtain ⟨k, at2, hk, rfl, hat2, ⟨v0, l, hrn, hbk, hown⟩, hkeep, hfr⟩ := hrel
    have HRN := Lib.hid hrn
    have HFR := Lib.hid hfr
    clear hrn hfr
    rcases k with _ | j
    · have HA := Lib.hid hat2
      clear hat2
      go_wp2
      go_end0
      have e := HA.out
      have e1 : at2 = at_ + n := by omega
      subst e1
      exact ⟨rfl, hkeep, HFR.out, v0.ownBlock, ⟨v0, l, rfl, hbk, hown⟩, HRN.out⟩
    · have hlt : at2 + 1 ≤ 1099511627776 := by omega
      have hA := Lib.hid hat2
      clear hat2
      have c0 := hbk.cell 0
      have c1 := hbk.cell 1
      simp at c0 c1
      have f0 := hbk.frozen 0
      have f1 := hbk.frozen 1
      have ea := and7 at2 (by omega)
      have hr8 : at2 % 8 < 8 := Nat.mod_lt _ (by omega)
      have hql : u8V l = u8V l := rfl
      by_cases h8 : at2 % 8 = 0
      · have h8' : (bits .and .i64 (at2 : Int) 7 == 0) = true := by rw [ea, h8]; rfl
        have H8 := Lib.hid h8
        have EA := Lib.hid ea
        obtain ⟨q, hq⟩ : ∃ q, q = at2 / 8 := ⟨_, rfl⟩
        have hn : (at2 + 7) / 8 + 1 = q + 1 := by omega
        have HQ := Lib.hid hq
        have e3 : (at2 : Int) / 8 = (q : Int) := by omega
        clear hq
        have HN := Lib.hid hn
        have HO := Lib.hid hown
        clear h8 ea hn hown
        go_wp2_with (at_builtin; refine wpList_append_own_at _ rfl (.tmp 23) (.tmp 24) 23 rfl B 5 i0 (.int .u8 0) 1 1 Tryz.underlying23 hi hz0 hz1 hz2 rfl (by decide) _ _ _ rfl (HO.out.alloc _) ⟨wr.heap.size, 0, none⟩ 1 1 [_] rfl rfl (cell_one_new _ _ _) (fun x hx => by simp at hx; subst hx; rfl) (by unfold maxLen; omega) (by omega) (by have := hbk.lt; simp; omega) ?_; intro v1 w1 hown1 hg1 _ hat1; have hat1 : v1.ownBlock = v0.ownBlock ∨ v1.ownBlock = some (wr.alloc (.cells #[.int .u8 0] 5)).heap.size := hat1; have hg1 : (wr.alloc (.cells #[.int .u8 0] 5)).grownBy w1 v0.ownBlock := hg1; have hbk1 := (hbk.alloc (.cells #[.int .u8 0] 5)).grown hg1 (fun e => ownsRow_ne HO.out hbk (by decide) e.symm); have b0 := hbk1.frozen 0; have b1 := hbk1.cell 0; simp at b1; rw [u8V_snoc, HN.out] at hown1; obtain ⟨l2, hl2⟩ : ∃ l2, l2 = l ++ [0] := ⟨_, rfl⟩; rw [← hl2] at hown1; clear hl2; obtain ⟨g, cap, rfl, hg, hglt, hnc, hcm, hrow⟩ := ownsRow_some hown1 (by omega); have HAT := Lib.hid hat1; clear hat1)
        have hown0 := HO.out
        have hk1 : Keep B (fun k => k = wb) w w1 := (hkeep.alloc (by have := hbk.lt; omega) (.cells #[.int .u8 0] 5)).grownRow (hown0.alloc _) (Nat.le_refl _) (by have := hbk.lt; simp; omega) hg1
        have hg1' := hg1
        clear c0 c1 f0 f1 hg1
        have hll : l2.length = q + 1 := by have := hown1.1; rw [u8V_len] at this; omega
        have ea : bits .and .i64 (at2 : Int) 7 = ((at2 % 8 : Nat) : Int) := EA.out
        have HL := Lib.hid hll
        unfold maxLen at hcm
        clear hll
        have hbk1' := hbk1.put 0 (.slice (some ⟨g, 0, none⟩) (q + 1) cap)
        have hown1' := ownsRow_setCell_other hown1 (a := ⟨wb, 0, none⟩) (ownsRow_ne hown1 hbk1 (by decide)) (.slice (some ⟨g, 0, none⟩) (q + 1) cap)
        have hn1 : RNew r (some g) w.heap.size := by
          rcases HAT.out with e | e
          · have e2 : some g = v0.ownBlock := e
            rw [e2]
            exact HRN.out
          · exact Or.inr ⟨_, e, by have := hkeep.below.size; simp; omega⟩
        have hf1 := ((HFR.out.alloc (.cells #[.int .u8 0] 5)).grown hg1' HRN.out).set (g := wb) (Or.inl rfl) 0 (.slice (some ⟨g, 0, none⟩) (q + 1) cap)
        have HF1 := Lib.hid hf1
        have HN1 := Lib.hid hn1
        clear hf1 hn1 hg1'
        have hk1' := hk1.setCell (p := ⟨wb, 0, none⟩) hB rfl (.slice (some ⟨g, 0, none⟩) (q + 1) cap)
        simp at hbk1'
        obtain ⟨w2, hw2⟩ : ∃ w2, w2 = w1.setCell ⟨wb, 0, none⟩ (.slice (some ⟨g, 0, none⟩) (q + 1) cap) := ⟨_, rfl⟩
        rw [← hw2] at hbk1' hown1' hk1' HF1 ⊢
        clear hw2
        clear hown1 hk1 hrow b0 b1 h8'
        have c0 := hbk1'.cell 0
        have c1 := hbk1'.cell 1
        simp at c0 c1
        have cq := ownsRow_cell1 hown1' rfl q _ (u8V_get (by have := HL.out; omega))
        have fq := ownsRow_free hown1' rfl q
        have f0 := hbk1'.frozen 0
        have f1 := hbk1'.frozen 1
        obtain ⟨x1, x2⟩ := PWr.cells hbk1' hown1'
        have KEY := Lib.hid (fun X => PWr.step hbk1' hown1' HQ.out hk1' hB hg HF1.out HN1.out X)
        go_wp2_with fail
        go_region
        go_wp2_with fail
        go_roundw
        case rel =>
          have e0 := hA.out
          exact ⟨j, at2 + 1, by omega, by simp, by omega, (KEY.out _).1, (KEY.out _).2.1, (KEY.out _).2.2⟩
        case measure => simp [intOf]
      · have h8' : (bits .and .i64 (at2 : Int) 7 == 0) = false := by rw [ea]; simp; omega
        have H8 := Lib.hid h8
        have hn : (at2 + 7) / 8 = at2 / 8 + 1 := by omega
        rw [hn] at hown
        have EA := Lib.hid ea
        clear h8 ea hn
        obtain ⟨q, hq⟩ : ∃ q, q = at2 / 8 := ⟨_, rfl⟩
        rw [← hq] at hown
        have hll : l.length = q + 1 := by have := hown.1; rw [u8V_len] at this; omega
        obtain ⟨g, cap, rfl, hg, hglt, hnc, hcm, hrow⟩ := ownsRow_some hown (by omega)
        have e3 : (at2 : Int) / 8 = (q : Int) := by omega
        have HQ := Lib.hid hq
        have ea : bits .and .i64 (at2 : Int) 7 = ((at2 % 8 : Nat) : Int) := EA.out
        have HL := Lib.hid hll
        have cq := ownsRow_cell1 hown rfl q _ (u8V_get (by omega))
        have fq := ownsRow_free hown rfl q
        unfold maxLen at hcm
        clear hq hll
        obtain ⟨x1, x2⟩ := PWr.cells hbk hown
        have KEY := Lib.hid (fun X => PWr.step hbk hown HQ.out hkeep hB hg HFR.out HRN.out X)
        go_wp2_with fail
        go_region
        go_wp2_with fail
        go_roundw
        case rel =>
          have e0 := hA.out
          exact ⟨j, at2 + 1, by omega, by simp, by omega, (KEY.out _).1, (KEY.out _).2.1, (KEY.out _).2.2⟩
        case measure => simp [intOf]

theorem word (B wb at_ n : Nat) (v : Int) (hat : at_ + n ≤ 1099511627776) (w : World) (h : PWr B wb at_ w) (hB : B ≤ wb) :
    Calls Tryz.prog 50 #[.pointer (some ⟨wb, 0, none⟩), .int .i64 v, .int .i64 (n : Int)] w fun e w' => e = .returned (.tuple #[]) ∧ PWr B wb (at_ + n) w' ∧ Keep B (fun k => k = wb) w w' := by
  obtain ⟨r, hx⟩ := h.x
  exact (wordX B wb at_ n r v hat w hx hB).mono fun e w' ⟨he, hk, _, r', hp, _⟩ => ⟨he, hp.wr, hk⟩
end Go.Proofs.YtlabcknoooaefaaGreatDoor

/-
  THE REFERENCE's SUMS, and its small functions.
-/
namespace Go.Proofs.YtlabcknoooaefaaGreatDoor
open Go.RowKit
set_option linter.unusedVariables false

/-- Some whole number; but for draws nothing has turned. -/
def SomeI (w : World) (e : Ending) (w' : World) : Prop := ∃ y : Int, e = .returned (.int .i64 y) ∧ ∃ q, w' = w.drewN q

set_option maxRecDepth 100000 in
set_option maxHeartbeats 2000000 in
theorem crc (g n c : Nat) (l : List Int) (hl : l.length = n) (hc : n ≤ c ∧ c ≤ maxLen) (w : World) (row : Row w g 5 (u8V l)) (width poly : Int) (hw : width = 8 ∨ width = 16) :
    Calls Tryz.prog 91 #[.slice (some ⟨g, 0, none⟩) n c, .int .i64 width, .int .i64 poly] w (SomeI w) := by
  unfold maxLen at hc
  have hn : n ≤ 9223372036854775807 := by omega
  rcases hw with rfl | rfl
  all_goals
    go_enter Tryz.func91, Tryz.ntmps91
    go_wp2
    go_loopw [7, 14] (fun v i wr => (∃ x : Int, v = .int .i64 x) ∧ (∃ k : Nat, k ≤ n ∧ i = .int .i64 (k : Int)) ∧ ∃ q, wr = w.drewN q) (fun _ i _ => n - (intOf i).toNat)
    case atStart => exact ⟨⟨0, rfl⟩, ⟨0, by omega, rfl⟩, 0, rfl⟩
    case round =>
      obtain ⟨⟨x, rfl⟩, ⟨k, hk, rfl⟩, q, rfl⟩ := hrel
      by_cases hlt : k < n
      · have ck : w.cell? ⟨g, k, none⟩ = some (.int .u8 (l.getD k 0)) := row.cell k _ (u8V_get (by omega))
        generalize l.getD k 0 = y at ck
        go_wp2
        go_loopw [7, 10] (fun v i wr => (∃ x : Int, v = .int .i64 x) ∧ (∃ k : Nat, k ≤ 8 ∧ i = .int .i64 ((k : Int) - 1)) ∧ ∃ q, wr = w.drewN q) (fun _ i _ => (intOf i + 1).toNat)
        case atStart => exact ⟨⟨x, rfl⟩, ⟨8, by omega, rfl⟩, q, rfl⟩
        case round =>
          obtain ⟨⟨x, rfl⟩, ⟨m, hm, rfl⟩, q, rfl⟩ := hrel
          rcases m with _ | m
          · go_wp2
            go_roundw
            case rel => exact ⟨⟨_, rfl⟩, ⟨k + 1, by omega, by simp⟩, q, rfl⟩
            case measure => simp [intOf] <;> omega
          · go_wp2_with fail
            go_region
            go_wp2_with fail
            all_goals
              go_roundw
              case rel => exact ⟨⟨_, rfl⟩, ⟨m, by omega, by simp⟩, q + 1, rfl⟩
              case measure => simp [intOf] <;> omega
      · go_wp2
        go_ret
        exact ⟨x, rfl, q, rfl⟩

theorem crc8s (g n c : Nat) (l : List Int) (hl : l.length = n) (hc : n ≤ c ∧ c ≤ maxLen) (w : World) (row : Row w g 5 (u8V l)) :
    Calls Tryz.prog 85 #[.slice (some ⟨g, 0, none⟩) n c] w (SomeI w) := by
  go_enter Tryz.func85, Tryz.ntmps85
  go_wp2_with (go_at_call 91; refine (crc g n c l hl hc _ row 8 7 (Or.inl rfl)).mono ?_; rintro e w' ⟨y, rfl, q, rfl⟩)
  go_ret
  exact ⟨y, rfl, q, rfl⟩

theorem crc16s (g n c : Nat) (l : List Int) (hl : l.length = n) (hc : n ≤ c ∧ c ≤ maxLen) (w : World) (row : Row w g 5 (u8V l)) :
    Calls Tryz.prog 51 #[.slice (some ⟨g, 0, none⟩) n c] w (SomeI w) := by
  go_enter Tryz.func51, Tryz.ntmps51
  go_wp2_with (go_at_call 91; refine (crc g n c l hl hc _ row 16 32773 (Or.inr rfl)).mono ?_; rintro e w' ⟨y, rfl, q, rfl⟩)
  go_ret
  exact ⟨y, rfl, q, rfl⟩

def SomeS (w : World) (e : Ending) (w' : World) : Prop := ∃ y : Int, e = .returned (.int .i64 y) ∧ w = w'

theorem sizeOfP (x : Int) (hx : 0 ≤ x ∧ x < 16) (w : World) : Calls Tryz.prog 82 #[.int .i64 x] w (SomeS w) := by
  go_enter Tryz.func82, Tryz.ntmps82
  go_wp2
  all_goals
    go_ret
    exact ⟨_, rfl, rfl⟩

def ratesL : List Int := [0, 88200, 176400, 192000, 8000, 16000, 22050, 24000, 32000, 44100, 48000, 96000]

theorem ratesP (w : World) : Calls Tryz.prog 83 #[] w fun e w' => e = .returned (.slice (some ⟨w.heap.size, 0, none⟩) 12 12) ∧ w.alloc (.cells (intV ratesL).toArray 3) = w' := by
  go_enter Tryz.func83, Tryz.ntmps83
  go_wp2
  go_ret
  exact ⟨rfl, rfl⟩

theorem channelsP (x : Int) (hx : 0 ≤ x ∧ x < 8) (w : World) : Calls Tryz.prog 21 #[.int .i64 x] w fun e w' => e = .returned (.int .i64 (x + 1)) ∧ w = w' := by
  go_enter Tryz.func21, Tryz.ntmps21
  go_wp2
  go_ret
  exact ⟨rfl, rfl⟩

theorem sideP (x y : Int) (hx : 0 ≤ x ∧ x < 8) (w : World) : Calls Tryz.prog 47 #[.int .i64 x, .int .i64 y] w fun e w' => e = .returned (.bool false) ∧ w = w' := by
  have h8 : (x == 8) = false := by simp; omega
  have h9 : (x == 9) = false := by simp; omega
  have h10 : (x == 10) = false := by simp; omega
  go_enter Tryz.func47, Tryz.ntmps47
  go_wp2
  go_ret
  exact ⟨rfl, rfl⟩
end Go.Proofs.YtlabcknoooaefaaGreatDoor

/-
  THE LAWS' SMALL TESTS: few, wide.
-/
namespace Go.Proofs.YtlabcknoooaefaaGreatDoor
open Go.RowKit
set_option linter.unusedVariables false

theorem fewP (A C : Option Addr) (n ca m cc : Nat) (hn : n ≤ 9223372036854775807) (hm : m ≤ 9223372036854775807) (w : World) :
    Calls Tryz.prog 6 #[.slice A n ca, .slice C m cc] w fun e w' => ∃ b : Bool, e = .returned (.bool b) ∧ (b = true → n ≤ 1000 ∧ m ≤ 100) ∧ w = w' := by
  by_cases h1 : n ≤ 1000
  · have d1 : decide ((n : Int) ≤ 1000) = true := by simp; omega
    go_enter Tryz.func6, Tryz.ntmps6
    go_wp2_with fail
    go_ret
    refine ⟨_, rfl, fun h => ⟨h1, ?_⟩, rfl⟩
    have h2 : (m : Int) ≤ 100 := by simpa using h
    omega
  · have d1 : decide ((n : Int) ≤ 1000) = false := by simp; omega
    go_enter Tryz.func6, Tryz.ntmps6
    go_wp2_with fail
    go_ret
    exact ⟨_, rfl, fun h => by simp at h, rfl⟩
end Go.Proofs.YtlabcknoooaefaaGreatDoor
