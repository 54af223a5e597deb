/-
  THE THIN PACKAGE: what Encode's walk carries.
-/
import Derived.Test.YtlabcknoooaefaaGreatDoorZIb
import Derived.Test.YtlabcknoooaefaaGreatDoorZWd
import Derived.Test.YtlabcknoooaefaaGreatDoorZIj
import Derived.Test.YtlabcknoooaefaaGreatDoorZSb
import Derived.Test.YtlabcknoooaefaaGreatDoorZCa
import Derived.Test.YtlabcknoooaefaaGreatDoorZPj
import Derived.Test.YtlabcknoooaefaaGreatDoorZVa
import Derived.Test.YtlabcknoooaefaaGreatDoorZUt
namespace Go.Proofs.YtlabcknoooaefaaGreatDoor
open Go.RowKit
set_option linter.unusedVariables false

/-- What the laws hand to the encoder. -/
structure FrI.ok (nch : Nat) (bits : Int) (f : FrI) : Prop where
  size : 1 ≤ f.size ∧ f.size ≤ 256
  rate : isRate f.rate
  asg : f.assign + 1 = (nch : Int)
  bits : f.bits = bits
  subs : f.subs.length = nch
  sub : ∀ s ∈ f.subs, s.d.ok ∧ s.d.samples.length = f.size

def FrI.hdr (f : FrI) (cur : Int) : HdrD := ⟨!f.varies, f.size, f.rate, f.assign, f.bits, cur⟩

/-- The frames' bytes, one behind the other. -/
def encB : EncS → List FrI → List UInt8
  | _, [] => []
  | e, f :: fs => frBytes (f.hdr e.cur) (f.subs.map (·.d)) ++ encB (e.next (!f.varies) f.size) fs

theorem bufNew (w : World) (B : Nat) (hB : B ≤ w.heap.size) : Lib.IsBuffer 59 5 B w.heap.size (bytesV []) (w.alloc (.cells #[.slice none 0 0, .int .i64 0, .int .i8 0] 59)) :=
  ⟨hB, .slice none 0 0, 0, Bk.new w 59 _, World.ownsRow_nil _ _ _ _, by simp [Value.ownBlock]⟩

/-- Between two frames of the encoding. -/
structure EnSt (B eb ib : Nat) (e : EncS) (s : Sk) (i : InfoD) (out : List UInt8) (m : MdS) (w0 w : World) : Prop where
  enc : Bk w eb 111 (e.cells s)
  str : Bk w e.sb 105 #[.pointer (some ⟨ib, 0, none⟩), .slice none 0 0, .nilIface]
  info : Bk w ib 123 i.cells
  md : Bk w e.md 170 m.cells
  mok : m.ok
  mfit : m.fit
  eok : e.ok
  inv : s.inv out w
  below : Below B w0 w
  own : ¬ s.own eb ∧ ¬ s.own e.sb ∧ ¬ s.own ib ∧ ¬ s.own e.md
  low : B ≤ eb ∧ B ≤ e.md

theorem EnSt.same {B eb ib : Nat} {e : EncS} {s : Sk} {i : InfoD} {out : List UInt8} {m : MdS} {w0 w w' : World} (h : EnSt B eb ib e s i out m w0 w) (hs : s.Ok Tryz.prog 429 B) (hb : Below w.heap.size w w') (hB : B ≤ w.heap.size) : EnSt B eb ib e s i out m w0 w' :=
  ⟨h.enc.below hb h.enc.lt, h.str.below hb h.str.lt, h.info.below hb h.info.lt, h.md.below hb h.md.lt, h.mok, h.mfit, h.eok, hs.same h.inv hb, h.below.trans (hb.mono hB), h.own, h.low⟩

/-- A frame's subframes, made one by one: the frame's box xb, so far S. -/
structure SuSt (B0 xb : Nat) (h : HdrD) (f : FrI) (v : Value) (S : List SubL) (j : Nat) (w0 w : World) : Prop where
  box : Bk w xb 80 (h.cells.toList ++ [v] ++ [Value.nilIface, .pointer none, .nilIface, .nilIface]).toArray
  row : w.ownsRow B0 81 1 v j (S.map fun s => Value.pointer (some ⟨s.sb, 0, none⟩))
  len : S.length = j
  subs : ∀ (q : Nat) (t : SubL), S[q]? = some t → t.at w
  ds : S.map (·.d) = (f.subs.take j).map (·.d)
  new : ∀ t ∈ S, B0 ≤ t.sb ∧ B0 ≤ t.rb ∧ B0 ≤ t.mb ∧ B0 ≤ t.pb
  below : Below B0 w0 w
  xb : B0 ≤ xb
  hB : B0 ≤ w.heap.size

theorem SubL.at.carry {t : SubL} {w w' : World} (h : t.at w) (tr : ∀ (q : Nat) (ty : TypeId) (cs : Array Value), Bk w q ty cs → ty ≠ 81 → ty ≠ 80 → Bk w' q ty cs) : t.at w' := by
  obtain ⟨h1, h2, ⟨c3, h3, v3⟩, ⟨c4, h4, v4⟩, h5, h6⟩ := h
  exact ⟨tr _ _ _ h1 (by decide) (by decide), tr _ _ _ h2 (by decide) (by decide), ⟨c3, tr _ _ _ h3 (by decide) (by decide), v3⟩, ⟨c4, tr _ _ _ h4 (by decide) (by decide), v4⟩, h5, h6⟩

theorem suStep {B0 xb : Nat} {h : HdrD} {f : FrI} {v : Value} {S : List SubL} {j : Nat} {w0 wx : World} (st : SuSt B0 xb h f v S j w0 wx) {s : SubI} (hq : f.subs[j]? = some s) {q : Nat} {w5 w6 : World} {sb rb mb pb scap pcap : Nat} {cf : Value}
    (hb5 : Below (wx.drewN q).heap.size (wx.drewN q) w5) (hat : SubAt s.d sb rb mb pb 1 cf scap pcap w5) (h1 : wx.heap.size ≤ sb) (h2 : wx.heap.size ≤ rb) (h3 : wx.heap.size ≤ mb) (h4 : wx.heap.size ≤ pb) (o : Obj) (hg : (w5.alloc o).grownBy w6 v.ownBlock) {v' : Value}
    (own6 : w6.ownsRow B0 81 1 v' (j + 1) (S.map (fun s => Value.pointer (some ⟨s.sb, 0, none⟩)) ++ [.pointer (some ⟨sb, 0, none⟩)])) :
    ∃ S', SuSt B0 xb h f v' S' (j + 1) w0 (w6.setCell ⟨xb, 6, none⟩ v') := by
  have hb6 : Below wx.heap.size wx w5 := (Below.drewN' (Below.refl _ wx) q).trans hb5
  have hb7 := hb6.alloc hb6.size o
  have own7 := ownsRow_below st.row hb7 (fun k hk => (st.row.lt k hk).2)
  have tr1 : ∀ (p : Nat) (ty : TypeId) (cs : Array Value), Bk (w5.alloc o) p ty cs → ty ≠ 81 → Bk w6 p ty cs := fun p ty cs hb ht => grownBk own7 hg hb (fun e => ht e.symm)
  have bx6 : Bk w6 xb 80 (h.cells.toList ++ [v] ++ [Value.nilIface, .pointer none, .nilIface, .nilIface]).toArray := tr1 _ _ _ (st.box.below hb7 st.box.lt) (by decide)
  have tr2 : ∀ (p : Nat) (ty : TypeId) (cs : Array Value), Bk (w5.alloc o) p ty cs → ty ≠ 81 → ty ≠ 80 → Bk (w6.setCell ⟨xb, 6, none⟩ v') p ty cs := fun p ty cs hb ht ht2 =>
    (tr1 p ty cs hb ht).far (p := ⟨xb, 6, none⟩) (Bk.ne (tr1 p ty cs hb ht) bx6 ht2) v'
  have hlen := st.len
  refine ⟨S ++ [⟨s.d, sb, rb, mb, pb, 1, cf, scap, pcap⟩], ?_, ?_, by simp [hlen], ?_, ?_, ?_, ?_, st.xb, ?_⟩
  · have e := bx6.put 6 v'
    have e2 : ((h.cells.toList ++ [v] ++ [Value.nilIface, .pointer none, .nilIface, .nilIface]).toArray.setIfInBounds 6 v') = (h.cells.toList ++ [v'] ++ [Value.nilIface, .pointer none, .nilIface, .nilIface]).toArray := by
      simp [HdrD.cells]
    rw [e2] at e
    exact e
  · have e : (S ++ [(⟨s.d, sb, rb, mb, pb, 1, cf, scap, pcap⟩ : SubL)]).map (fun s => Value.pointer (some ⟨s.sb, 0, none⟩)) = S.map (fun s => Value.pointer (some ⟨s.sb, 0, none⟩)) ++ [.pointer (some ⟨sb, 0, none⟩)] := by simp
    rw [e]
    exact ownsRow_setCell_other own6 (a := ⟨xb, 6, none⟩) (ownsRow_ne own6 bx6 (by decide)) _
  · intro p t hp
    by_cases hpj : p < S.length
    · rw [List.getElem?_append_left hpj] at hp
      have ht := st.subs p t hp
      exact SubL.at.carry ht (fun a ty cs hb n1 n2 => tr2 a ty cs (hb.below hb7 hb.lt) n1 n2)
    · rw [List.getElem?_append_right (by omega)] at hp
      have hp0 : p - S.length = 0 := by
        rcases hk : p - S.length with _ | k
        · rfl
        · rw [hk] at hp
          simp at hp
      rw [hp0] at hp
      simp at hp
      subst hp
      exact SubL.at.carry (t := ⟨s.d, sb, rb, mb, pb, 1, cf, scap, pcap⟩) hat (fun a ty cs hb n1 n2 => tr2 a ty cs (hb.alloc o) n1 n2)
  · rw [List.map_append, st.ds]
    have e : f.subs.take (j + 1) = f.subs.take j ++ [s] := by
      rw [List.take_add_one, hq]
      rfl
    rw [e]
    simp
  · intro t ht
    have hB := st.hB
    rcases List.mem_append.1 ht with h' | h'
    · exact st.new t h'
    · have e : t = ⟨s.d, sb, rb, mb, pb, 1, cf, scap, pcap⟩ := by simpa using h'
      subst e
      exact ⟨by show B0 ≤ sb; omega, by show B0 ≤ rb; omega, by show B0 ≤ mb; omega, by show B0 ≤ pb; omega⟩
  · exact (((st.below.trans (hb7.mono st.hB)).grown hg (Nat.le_trans st.hB hb7.size) (fun k hk => (st.row.lt k hk).1))).setCell (by show B0 ≤ xb; exact st.xb) _
  · have := hg.size
    have := hb7.size
    have := st.hB
    simp [World.setCell]
    omega
end Go.Proofs.YtlabcknoooaefaaGreatDoor

/-
  WHAT THE LAWS GIVE THE ENCODER: the frames so far.
-/
namespace Go.Proofs.YtlabcknoooaefaaGreatDoor
open Go.RowKit
set_option linter.unusedVariables false

/-- The frames so far: their row, where each lies. -/
structure GAll (B : Nat) (v15 : Value) (frs : List FrI) (k nch : Nat) (bits : Int) (ws w : World) : Prop where
  row : w.ownsRow B 37 7 v15 k (frs.flatMap FrI.cells)
  len : frs.length = k
  ats : ∀ f ∈ frs, f.at w
  ok : ∀ f ∈ frs, f.ok nch bits
  apart : ∀ (i j : Nat) (f g : FrI), frs[i]? = some f → frs[j]? = some g → i ≠ j → f.sb ≠ g.sb
  low : ∀ f ∈ frs, B ≤ f.sb
  below : Below B ws w
  hB : B ≤ w.heap.size

section
variable {B : Nat} {v15 : Value} {frs : List FrI} {k nch : Nat} {bits : Int} {ws w w1 : World}

theorem GAll.same (h : GAll B v15 frs k nch bits ws w) (b : Below w.heap.size w w1) : GAll B v15 frs k nch bits ws w1 :=
  ⟨ownsRow_below h.row b (fun q hq => (h.row.lt q hq).2), h.len, fun f hf => (h.ats f hf).below b, h.ok, h.apart, h.low, h.below.trans (b.mono h.hB), Nat.le_trans h.hB b.size⟩

theorem FrI.at.grown {f : FrI} (h : f.at w) {base n : Nat} {v : Value} {xs : List Value} (own : w.ownsRow base 37 7 v n xs) (hg : w.grownBy w1 v.ownBlock) : f.at w1 :=
  ⟨grownRow own hg h.row (by decide), h.cap, fun s hs => ⟨grownRow own hg (h.subs s hs).smp (by decide), grownRow own hg (h.subs s hs).prm (by decide), (h.subs s hs).scap, (h.subs s hs).pcap⟩⟩

theorem GAll.step {xb : Nat} {varies : Bool} {size : Nat} {rate asg : Int} {sb scap : Nat} {subs : List SubI} {wf : World} (h : GAll B v15 frs k nch bits ws wf)
    (G : GFr wf.heap.size xb (.bool varies) (.int .i64 (size : Int)) (.int .i64 rate) (.int .i64 asg) (.int .i64 bits) (.int .u64 0) (.slice (some ⟨sb, 0, none⟩) nch scap) subs nch size wf w) (hn : 1 ≤ nch)
    (hsz : 1 ≤ size ∧ size ≤ 256) (hrate : isRate rate) (hasg : asg + 1 = (nch : Int)) (o : Obj) (hg : (w.alloc o).grownBy w1 v15.ownBlock) {v' : Value}
    (own : w1.ownsRow B 37 7 v' (k + 1) (frs.flatMap FrI.cells ++ [.bool varies, .int .i64 (size : Int), .int .i64 rate, .int .i64 asg, .int .i64 bits, .int .u64 0, .slice (some ⟨sb, 0, none⟩) nch scap])) :
    ∃ frs', GAll B v' frs' (k + 1) nch bits ws w1 := by
  have H := (h.same G.below).same ((Below.refl _ w).alloc (Nat.le_refl _) o)
  have G' := G.same ((Below.refl _ w).alloc (Nat.le_refl _) o)
  obtain ⟨g1, c1, e1, hm1, hm2, hm3, hm4, hm5⟩ := ownsRow_some G'.row hn
  injection e1 with e1 _ e1c
  injection e1 with e1
  injection e1 with e1
  subst e1 e1c
  refine ⟨frs ++ [⟨varies, size, rate, asg, bits, sb, scap, subs⟩], ?_, by simp [H.len], ?_, ?_, ?_, ?_, ?_, Nat.le_trans H.hB hg.size⟩
  · have e : (frs ++ [(⟨varies, size, rate, asg, bits, sb, scap, subs⟩ : FrI)]).flatMap FrI.cells = frs.flatMap FrI.cells ++ [.bool varies, .int .i64 (size : Int), .int .i64 rate, .int .i64 asg, .int .i64 bits, .int .u64 0, .slice (some ⟨sb, 0, none⟩) nch scap] := by
      simp [FrI.cells, G.len]
    rw [e]
    exact own
  · intro f hf
    rcases List.mem_append.1 hf with h' | h'
    · exact (H.ats f h').grown H.row hg
    · rw [List.mem_singleton.1 h']
      have a1 : FrI.at ⟨varies, size, rate, asg, bits, sb, scap, subs⟩ (w.alloc o) := ⟨hm5, by show subs.length ≤ scap ∧ scap ≤ maxLen; rw [G.len]; exact ⟨hm3, hm4⟩, G'.ats⟩
      exact a1.grown H.row hg
  · intro f hf
    rcases List.mem_append.1 hf with h' | h'
    · exact H.ok f h'
    · rw [List.mem_singleton.1 h']
      exact ⟨hsz, hrate, hasg, rfl, G.len, G.ok⟩
  · have hlow : ∀ f ∈ frs, f.sb < sb := fun f hf => by
      have := (h.ats f hf).row.lt
      omega
    intro i j f g hi hj hij
    rcases Nat.lt_or_ge i frs.length with hi' | hi'
    · rw [List.getElem?_append_left hi'] at hi
      have hfm : f ∈ frs := List.mem_of_getElem? hi
      rcases Nat.lt_or_ge j frs.length with hj' | hj'
      · rw [List.getElem?_append_left hj'] at hj
        exact h.apart i j f g hi hj hij
      · rw [List.getElem?_append_right hj'] at hj
        have hg' : g.sb = sb := by
          rcases hk : j - frs.length with _ | q
          · rw [hk] at hj
            simp at hj
            rw [← hj]
          · rw [hk] at hj
            simp at hj
        have := hlow f hfm
        omega
    · rw [List.getElem?_append_right hi'] at hi
      have hf' : f.sb = sb := by
        rcases hk : i - frs.length with _ | q
        · rw [hk] at hi
          simp at hi
          rw [← hi]
        · rw [hk] at hi
          simp at hi
      rcases Nat.lt_or_ge j frs.length with hj' | hj'
      · rw [List.getElem?_append_left hj'] at hj
        have := hlow g (List.mem_of_getElem? hj)
        omega
      · exfalso
        have l1 := (List.getElem?_eq_some_iff.1 hi).1
        rw [List.getElem?_append_right hj'] at hj
        have l2 := (List.getElem?_eq_some_iff.1 hj).1
        simp at l1 l2
        omega
  · intro f hf
    rcases List.mem_append.1 hf with h' | h'
    · exact H.low f h'
    · rw [List.mem_singleton.1 h']
      exact Nat.le_trans h.hB hm1
  · exact H.below.grown hg H.hB (fun q hq => (H.row.lt q hq).1)
end

/-- The cells of a head in its row. -/
theorem headsAt {hb : Nat} {varies : Bool} {asg bits : Int} {gs : List FrG} {w : World} (h : Row w hb 53 (gs.flatMap (FrG.head varies asg bits))) {j : Nat} {f : FrG} (hj : gs[j]? = some f) (i : Nat) (v : Value) (hi : (f.head varies asg bits)[i]? = some v) : w.cell? ⟨hb, j * 6 + i, none⟩ = some v := by
  have hi6 : i < 6 := (List.getElem?_eq_some_iff.1 hi).1
  exact h.cell _ _ ((flat_get (FrG.head varies asg bits) 6 (fun _ => rfl) gs j i hi6 f hj).trans hi)

/-- A frame at its beginning. -/
theorem frStart (w : World) (o : Obj) (h0 h1 h2 h3 h4 h5 : Value) (size : Nat) : GFr w.heap.size (w.heap.size + 1) h0 h1 h2 h3 h4 h5 (.slice none 0 0) [] 0 size w ((w.alloc o).alloc (.cells #[h0, h1, h2, h3, h4, h5, .slice none 0 0] 37)) :=
  ⟨Bk.newAt _ 37 _ _ (by simp), World.ownsRow_nil _ _ _ _, rfl, fun s hs => by simp at hs, fun s hs => by simp at hs, ((Below.refl _ w).alloc (Nat.le_refl _) _).alloc (by simp) _, by simp; omega, by omega⟩
end Go.Proofs.YtlabcknoooaefaaGreatDoor

/-
  WHAT THE LAWS GIVE THE ENCODER: as it is handed out.
-/
namespace Go.Proofs.YtlabcknoooaefaaGreatDoor
open Go.RowKit
set_option linter.unusedVariables false

/-- The stream as the encoder takes it. -/
structure GOut (w0 : World) (A : Option Addr) (cap : Nat) (frs : List FrI) (nch : Nat) (bits : Int) (w : World) : Prop where
  row : w.ownsRow w0.heap.size 37 7 (.slice A frs.length cap) frs.length (frs.flatMap FrI.cells)
  len : frs.length ≤ 3
  cap : frs.length ≤ cap ∧ cap ≤ maxLen
  ats : ∀ f ∈ frs, f.at w
  ok : ∀ f ∈ frs, f.ok nch bits
  apart : ∀ (i j : Nat) (f g : FrI), frs[i]? = some f → frs[j]? = some g → i ≠ j → f.sb ≠ g.sb
  low : ∀ f ∈ frs, w0.heap.size ≤ f.sb
  below : Below w0.heap.size w0 w
  hB : w0.heap.size ≤ w.heap.size

def GvPost (w : World) (e : Ending) (w' : World) : Prop := ∃ rate ch bits nsam nch A cap frs, e = .returned (.tuple #[.agg (infoV rate ch bits nsam), .slice A frs.length cap]) ∧ InfoR rate ch bits nsam ∧ isBits bits ∧ ch = ((nch : Nat) : Int) ∧ (1 ≤ nch ∧ nch ≤ 8) ∧ GOut w A cap frs nch bits w'

theorem GOut.frsAt {w0 w : World} {A : Option Addr} {cap : Nat} {frs : List FrI} {nch : Nat} {bits : Int} (h : GOut w0 A cap frs nch bits w) : FrsAt A frs w :=
  ⟨fun hn => by
    obtain ⟨g, c, e, _, _, _, _, hr⟩ := ownsRow_some h.row hn
    injection e with e
    exact ⟨g, e, hr⟩, h.ats⟩

theorem FrI.at.far {f : FrI} {w : World} (h : f.at w) {b : Nat} {t : TypeId} {cs : Array Value} (hb : Bk w b t cs) (h1 : t ≠ 42) (h2 : t ≠ 21) (h3 : t ≠ 3) (i : Nat) (u : Value) : f.at (w.setCell ⟨b, i, none⟩ u) :=
  ⟨rowFar h.row hb (fun e => h1 e.symm) i u, h.cap, fun s hs => ⟨rowFar (h.subs s hs).smp hb (fun e => h2 e.symm) i u, rowFar (h.subs s hs).prm hb (fun e => h3 e.symm) i u, (h.subs s hs).scap, (h.subs s hs).pcap⟩⟩

theorem GOut.far {w0 w : World} {A : Option Addr} {cap : Nat} {frs : List FrI} {nch : Nat} {bits : Int} (h : GOut w0 A cap frs nch bits w) {b : Nat} {cs : Array Value} (hb : Bk w b 28 cs) (hB : w0.heap.size ≤ b) (i : Nat) (u : Value) : GOut w0 A cap frs nch bits (w.setCell ⟨b, i, none⟩ u) :=
  ⟨ownsRow_setCell_other h.row (a := ⟨b, i, none⟩) (ownsRow_ne h.row hb (by decide)) u, h.len, h.cap, fun f hf => (h.ats f hf).far hb (by decide) (by decide) (by decide) i u, h.ok, h.apart, h.low, h.below.setCell hB u, by simpa [World.setCell] using h.hB⟩

theorem GOut.fill {w0 : World} {A : Option Addr} {cap : Nat} {frs : List FrI} {nch : Nat} {bits : Int} {b : Nat} (hB : w0.heap.size ≤ b) (l : List (Nat × Value)) : ∀ {w : World} {cs : Array Value}, GOut w0 A cap frs nch bits w → Bk w b 28 cs → GOut w0 A cap frs nch bits (l.foldl (fun w p => w.setCell ⟨b, p.1, none⟩ p.2) w) := by
  induction l with
  | nil => intro w cs h _; exact h
  | cons p l ih => intro w cs h hb; exact ih (h.far hb hB p.1 p.2) (hb.put p.1 p.2)

theorem GOut.same {w0 w w1 : World} {A : Option Addr} {cap : Nat} {frs : List FrI} {nch : Nat} {bits : Int} (h : GOut w0 A cap frs nch bits w) (k : Below w.heap.size w w1) : GOut w0 A cap frs nch bits w1 :=
  ⟨ownsRow_below h.row k (fun q hq => (h.row.lt q hq).2), h.len, h.cap, fun f hf => (h.ats f hf).below k, h.ok, h.apart, h.low, h.below.trans (k.mono h.hB), Nat.le_trans h.hB k.size⟩

theorem GAll.out {v15 : Value} {frs : List FrI} {k nch : Nat} {bits : Int} {w0 ws w : World} (h : GAll ws.heap.size v15 frs k nch bits ws w) (hk : k ≤ 3) (hb : Below w0.heap.size w0 ws) (hn : 0 < k ∨ ∃ g c, v15 = .slice (some ⟨g, 0, none⟩) 0 c ∧ c ≤ maxLen) : ∃ A cap, v15 = .slice A frs.length cap ∧ GOut w0 A cap frs nch bits w := by
  have hbs := hb.size
  have hrow := ownsRow_base h.row hbs
  have fin : ∀ (A : Option Addr) (c : Nat), v15 = .slice A k c → k ≤ c ∧ c ≤ maxLen → ∃ A cap, v15 = .slice A frs.length cap ∧ GOut w0 A cap frs nch bits w := fun A c e hc => by
    subst e
    have hl := h.len
    subst hl
    exact ⟨A, c, rfl, hrow, hk, hc, h.ats, h.ok, h.apart, fun f hf => Nat.le_trans hbs (h.low f hf), hb.trans (h.below.mono hbs), Nat.le_trans hbs h.hB⟩
  rcases Nat.eq_zero_or_pos k with h0 | h0
  · rcases hn with hn | ⟨g, c, e, hc⟩
    · omega
    · subst h0
      exact fin _ c e ⟨by omega, hc⟩
  · obtain ⟨g, c, e, h1, h2, h3, h4, _⟩ := ownsRow_some h.row h0
    exact fin _ c e ⟨h3, h4⟩

theorem and63 (n : Nat) (h : n < 4294967296) : bits .and .u32 (n : Int) 63 = ((n % 64 : Nat) : Int) := by
  have h1 : (BitVec.ofInt 32 (n : Int)).toNat = n := by
    rw [BitVec.ofInt_natCast, BitVec.toNat_ofNat]; exact Nat.mod_eq_of_lt (by omega)
  have h2 : (BitVec.ofInt 32 (63 : Int)).toNat = 63 := by decide
  have h3 : n &&& 63 = n % 64 := Nat.and_two_pow_sub_one_eq_mod n 6
  show IntKind.u32.wrap ((BitVec.ofInt 32 (n : Int) &&& BitVec.ofInt 32 (63 : Int)).toNat : Int) = _
  rw [BitVec.toNat_and, h1, h2, h3, IntKind.wrap_u32]
  omega

theorem or64 (n m : Nat) (h : n < 67108864) (hm : m < 64) : bits .or .u32 ((n : Int) * 64) (m : Int) = ((n * 64 + m : Nat) : Int) := by
  have h1 : (BitVec.ofInt 32 ((n : Int) * 64)).toNat = n * 64 := by
    rw [show (n : Int) * 64 = ((n * 64 : Nat) : Int) by simp, BitVec.ofInt_natCast, BitVec.toNat_ofNat]; exact Nat.mod_eq_of_lt (by omega)
  have h2 : (BitVec.ofInt 32 (m : Int)).toNat = m := by
    rw [BitVec.ofInt_natCast, BitVec.toNat_ofNat]; exact Nat.mod_eq_of_lt (by omega)
  have h3 : n * 64 ||| m = n * 64 + m := by
    have := Nat.shiftLeft_add_eq_or_of_lt (i := 6) (show m < 2 ^ 6 by omega) n
    rw [Nat.shiftLeft_eq] at this
    exact this.symm
  show IntKind.u32.wrap ((BitVec.ofInt 32 ((n : Int) * 64) ||| BitVec.ofInt 32 (m : Int)).toNat : Int) = _
  rw [BitVec.toNat_or, h1, h2, h3, IntKind.wrap_u32]
  omega

/-- The flags as the law turns them: few channels. -/
theorem flagsOf (flags : Int) (hf : 0 ≤ flags ∧ flags < 4294967296) : ∃ F : Int, bits .or .u32 ((flags / 64 - (flags / 64 % 11 - flags / 64 % 11 % 8)) * 64) (bits .and .u32 flags 63) = F ∧ (0 ≤ F ∧ F < 4294967296) ∧ F / 64 % 11 < 8 := by
  obtain ⟨n, hn⟩ : ∃ n : Nat, (n : Int) = flags := ⟨flags.toNat, by omega⟩
  subst hn
  obtain ⟨k, hk⟩ : ∃ k : Nat, (k : Int) = (n : Int) / 64 - ((n : Int) / 64 % 11 - (n : Int) / 64 % 11 % 8) := ⟨((n : Int) / 64 - ((n : Int) / 64 % 11 - (n : Int) / 64 % 11 % 8)).toNat, by omega⟩
  rw [← hk, and63 n (by omega), or64 k (n % 64) (by omega) (by omega)]
  exact ⟨_, rfl, by omega, by omega⟩
end Go.Proofs.YtlabcknoooaefaaGreatDoor
