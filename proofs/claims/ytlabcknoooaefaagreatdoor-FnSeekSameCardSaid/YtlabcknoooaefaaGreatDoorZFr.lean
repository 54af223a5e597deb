/-
  WORDS FOR THIS SEAT'S CLAIMS: which blocks a call may turn ('Keep'), a block known whole ('Bk'), bytes read from memory ('Rd'), what a place to write to promises ('Sk.Ok'), and the plain model of the bits that the encoder writes ('BS').
-/
import Derived.WalkKit
import Derived.Deep.Draws
namespace Go.Proofs.YtlabcknoooaefaaGreatDoor
open Go.RowKit
set_option linter.unusedVariables false

/-- The bits that a bit writer has handed on as bytes, the bits that it holds back, and how many these are. -/
structure BS where
  out : List UInt8
  c : Int
  n : Nat

/-- The bits held back, one bit more. -/
def nextC (c b : Int) : Int := bits .or .u8 (c * 2 % 256) b

theorem nextC_range (c b : Int) : 0 ≤ nextC c b ∧ nextC c b < 256 := by
  unfold nextC bits
  simp only [IntKind.wrap_u8]
  omega

def BS.bit (s : BS) (b : Int) : BS :=
  if s.n = 7 then ⟨s.out ++ [UInt8.ofNat (nextC s.c b).toNat], 0, 0⟩ else ⟨s.out, nextC s.c b, s.n + 1⟩

/-- The lowest k bits of r, the highest first. -/
def BS.put (s : BS) (r : Int) : Nat → BS
  | 0 => s
  | k + 1 => (s.bit (bits .and .u64 (r / 2 ^ min k 64) 1 % 256)).put r k

def BS.ok (s : BS) : Prop := s.n < 8 ∧ 0 ≤ s.c ∧ s.c < 256

theorem BS.bit_ok {s : BS} (h : s.ok) (b : Int) : (s.bit b).ok := by
  have := nextC_range s.c b
  unfold BS.bit BS.ok at *
  split
  · simp
  · simp; omega

theorem BS.put_ok {s : BS} (h : s.ok) (r : Int) (k : Nat) : (s.put r k).ok := by
  induction k generalizing s with
  | zero => exact h
  | succ k ih => exact ih (BS.bit_ok h _)

theorem BS.bit_pre (s : BS) (b : Int) : s.out <+: (s.bit b).out := by
  unfold BS.bit
  split
  · exact List.prefix_append _ _
  · exact List.prefix_refl _

theorem BS.put_pre (s : BS) (r : Int) (k : Nat) : s.out <+: (s.put r k).out := by
  induction k generalizing s with
  | zero => exact List.prefix_refl _
  | succ k ih => exact (BS.bit_pre s _).trans (ih _)

theorem BS.bit_len (s : BS) (b : Int) (h : s.n < 8) : (s.bit b).out.length * 8 + (s.bit b).n = s.out.length * 8 + s.n + 1 := by
  unfold BS.bit
  split
  · simp; omega
  · simp; omega

theorem BS.put_len (s : BS) (hs : s.ok) (r : Int) (k : Nat) : (s.put r k).out.length * 8 + (s.put r k).n = s.out.length * 8 + s.n + k := by
  induction k generalizing s with
  | zero => rfl
  | succ k ih => unfold BS.put; rw [ih _ (BS.bit_ok hs _), BS.bit_len _ _ hs.1]; omega

/-- Block g is just the cells cs of type t, none of them frozen. -/
def Bk (w : World) (g : Nat) (t : TypeId) (cs : Array Value) : Prop := w.heap[g]? = some (.cells cs t (0, 0))

section
variable {w w' : World} {g : Nat} {t : TypeId} {cs : Array Value}
theorem Bk.lt (h : Bk w g t cs) : g < w.heap.size := (Array.getElem?_eq_some_iff.1 h).1
theorem Bk.cell (h : Bk w g t cs) (i : Nat) : w.cell? ⟨g, i, none⟩ = cs[i]? := cell_of_row w g i cs t (0, 0) h
theorem Bk.frozen (h : Bk w g t cs) (i : Nat) : w.frozen? ⟨g, i, none⟩ = false := by
  unfold Bk at h
  simp [World.frozen?, h]
theorem Bk.new (w : World) (t : TypeId) (cs : Array Value) : Bk (w.alloc (.cells cs t)) w.heap.size t cs := heap_alloc_new w _
theorem Bk.newAt (w : World) (t : TypeId) (cs : Array Value) (n : Nat) (hn : n = w.heap.size) : Bk (w.alloc (.cells cs t)) n t cs := hn ▸ heap_alloc_new w _
theorem Bk.drew (h : Bk w g t cs) : Bk w.drew g t cs := h
theorem Bk.drewN (h : Bk w g t cs) (n : Nat) : Bk (w.drewN n) g t cs := h
theorem Bk.alloc (h : Bk w g t cs) (o : Obj) : Bk (w.alloc o) g t cs := (Below.heap_alloc w o g h.lt).trans h
theorem Bk.put (h : Bk w g t cs) (i : Nat) (u : Value) : Bk (w.setCell ⟨g, i, none⟩ u) g t (cs.setIfInBounds i u) := by
  unfold Bk at h ⊢
  simp [World.setCell, Array.getElem?_modify, h]
theorem Bk.far (h : Bk w g t cs) {p : Addr} (hp : g ≠ p.block) (u : Value) : Bk (w.setCell p u) g t cs := (Below.heap_setCell w p u g hp).trans h
theorem Bk.below {B : Nat} (h : Bk w g t cs) (hb : Below B w w') (hg : g < B) : Bk w' g t cs := (hb.block g hg).trans h
theorem Bk.grown {row : Option Nat} (h : Bk w g t cs) (hb : w.grownBy w' row) (hg : some g ≠ row) : Bk w' g t cs := (hb.block g h.lt hg).trans h
theorem Bk.ne {g' : Nat} {t' : TypeId} {cs' : Array Value} (h : Bk w g t cs) (h' : Bk w g' t' cs') (hne : t ≠ t') : g ≠ g' := by
  rintro rfl
  unfold Bk at h h'
  rw [h] at h'
  injection h' with h'
  injection h' with _ ht
  exact hne ht
end

/-- A row of bytes. -/
def isBytes (o : Obj) : Prop := ∃ c fz, o = .cells c 5 fz

theorem Bk.noBytes {w : World} {g : Nat} {t : TypeId} {cs : Array Value} (h : Bk w g t cs) (ht : t ≠ 5) : ∀ o, w.heap[g]? = some o → ¬ isBytes o := by
  intro o ho hb
  obtain ⟨c, fz, rfl⟩ := hb
  unfold Bk at h
  rw [h] at ho
  injection ho with ho
  injection ho with _ h2
  exact ht h2

/-- From w to w' only the blocks of S and rows of bytes may have turned (and what is new); below block B nothing has. -/
structure Keep (B : Nat) (S : Nat → Prop) (w w' : World) : Prop where
  below : Below B w w'
  blk : ∀ k o, w.heap[k]? = some o → ¬ S k → ¬ isBytes o → w'.heap[k]? = some o

section
variable {B : Nat} {S S' : Nat → Prop} {a w w' : World}
theorem Keep.refl (B : Nat) (S : Nat → Prop) (w : World) : Keep B S w w := ⟨Below.refl _ _, fun _ _ h _ _ => h⟩
theorem Keep.trans (h : Keep B S a w) (k : Keep B S w w') : Keep B S a w' := ⟨h.below.trans k.below, fun i o hi hs hb => k.blk i o (h.blk i o hi hs hb) hs hb⟩
theorem Keep.mono (h : Keep B S w w') (hs : ∀ k, S k → S' k) : Keep B S' w w' := ⟨h.below, fun i o hi hn hb => h.blk i o hi (fun hk => hn (hs i hk)) hb⟩
theorem Keep.drew (h : Keep B S a w) : Keep B S a w.drew := ⟨h.below.drew, h.blk⟩
theorem Keep.alloc (h : Keep B S a w) (hB : B ≤ w.heap.size) (o : Obj) : Keep B S a (w.alloc o) :=
  ⟨h.below.alloc hB o, fun i x hi hn hb => (Below.heap_alloc w o i (Array.getElem?_eq_some_iff.1 (h.blk i x hi hn hb)).1).trans (h.blk i x hi hn hb)⟩
theorem Keep.setCell (h : Keep B S a w) {p : Addr} (hB : B ≤ p.block) (hS : S p.block) (u : Value) : Keep B S a (w.setCell p u) :=
  ⟨h.below.setCell hB u, fun i x hi hn hb => (Below.heap_setCell w p u i (fun e => hn (e ▸ hS))).trans (h.blk i x hi hn hb)⟩
theorem Keep.bk {g : Nat} {t : TypeId} {cs : Array Value} (h : Keep B S w w') (hb : Bk w g t cs) (hS : ¬ S g) (ht : t ≠ 5) : Bk w' g t cs :=
  h.blk g _ hb hS (hb.noBytes ht _ hb)
/-- What a call leaves that turns nothing that was there. -/
theorem Keep.same (h : Keep B S a w) (hb : Below w.heap.size w w') (hB : B ≤ w.heap.size) : Keep B S a w' :=
  ⟨h.below.trans (hb.mono hB), fun i x hi hn hx => (hb.block i (Array.getElem?_eq_some_iff.1 (h.blk i x hi hn hx)).1).trans (h.blk i x hi hn hx)⟩
end

/-- At address a lie the bytes bs. -/
def Rd (w : World) (a : Addr) (bs : List UInt8) : Prop := ∀ j b, bs[j]? = some b → w.cell? (a.add j) = some (.int .u8 (b.toNat : Int))

/-- A PLACE TO WRITE TO: the blocks of its own, what an interface value that holds it reads as, how many bytes it takes at the most, and when it holds the bytes out. -/
structure Sk where
  own : Nat → Prop
  ty : TypeId
  val : Value
  cap : Nat
  inv : List UInt8 → World → Prop

/-- The block k is none of the place's rows, whatever it holds now. -/
def Sk.Apart (s : Sk) (out : List UInt8) (k : Nat) (w : World) : Prop := ∃ w0, s.inv out w0 ∧ (∀ o, w0.heap[k]? = some o → ¬ isBytes o) ∧ ∀ (i : Nat) (o : Obj), w0.heap[i]? = some o → (s.own i ∨ isBytes o) → w.heap[i]? = some o

/-- What a place to write to promises in the program P ('fuel': the model's own bound on promoted methods). -/
structure Sk.Ok (P : Program) (fuel : Nat) (B : Nat) (s : Sk) : Prop where
  call : ∃ (fn : FuncId) (rv : Value), (∀ w, (method fuel s.ty s.val "Write").run P w = .ok (fn, rv) w) ∧ (∀ args w, (callFunc fn args).run P w = .ok (.enter fn args) w) ∧
    ∀ (out bs : List UInt8) (a : Addr) (n c : Nat) (w : World), s.inv out w → Rd w a bs → bs.length = n → 0 < n → n ≤ c → c ≤ 4096 → ¬ s.own a.block → s.Apart out a.block w → B ≤ w.heap.size → out.length + n ≤ s.cap →
      Calls P fn #[rv, .slice (some a) n c] w fun e w' => e = .returned (.tuple #[.int .i64 (n : Int), .nilIface]) ∧ s.inv (out ++ bs) w' ∧ Keep B s.own w w'
  stable : ∀ out w w', s.inv out w → (∀ k o, w.heap[k]? = some o → (s.own k ∨ isBytes o) → w'.heap[k]? = some o) → s.inv out w'
  lt : ∀ out w k, s.inv out w → s.own k → k < w.heap.size
  ge : ∀ k, s.own k → B ≤ k

section
variable {P : Program} {fuel B : Nat} {s : Sk} {out : List UInt8} {w : World}
theorem Sk.Ok.alloc (hs : s.Ok P fuel B) (h : s.inv out w) (o : Obj) : s.inv out (w.alloc o) :=
  hs.stable _ _ _ h fun k x hk _ => (Below.heap_alloc w o k (Array.getElem?_eq_some_iff.1 hk).1).trans hk
theorem Sk.Ok.drew (hs : s.Ok P fuel B) (h : s.inv out w) : s.inv out w.drew := hs.stable _ _ _ h fun _ _ hk _ => hk
/-- A store into a block that is none of its own and no row of bytes. -/
theorem Sk.Ok.far (hs : s.Ok P fuel B) (h : s.inv out w) {g : Nat} {t : TypeId} {cs : Array Value} (hb : Bk w g t cs) (ht : t ≠ 5) (hg : ¬ s.own g) (i : Nat) (u : Value) : s.inv out (w.setCell ⟨g, i, none⟩ u) :=
  hs.stable _ _ _ h fun k x hk hx => by
    refine (Below.heap_setCell w ⟨g, i, none⟩ u k ?_).trans hk
    rintro rfl
    rcases hx with hx | hx
    · exact hg hx
    · exact hb.noBytes ht _ hk hx
theorem Sk.Apart.block (h : s.inv out w) {g : Nat} {t : TypeId} {cs : Array Value} (hb : Bk w g t cs) (ht : t ≠ 5) : s.Apart out g w := ⟨w, h, fun o ho => hb.noBytes ht o ho, fun _ _ h _ => h⟩
theorem Sk.Apart.alloc (h : s.inv out w) (o : Obj) : s.Apart out w.heap.size (w.alloc o) :=
  ⟨w, h, fun o ho => by simp at ho, fun k x hk _ => (Below.heap_alloc w o k (Array.getElem?_eq_some_iff.1 hk).1).trans hk⟩
theorem Sk.Apart.newAt (h : s.inv out w) (N : Nat) (hN : N = w.heap.size) (o : Obj) : s.Apart out N (w.alloc o) := by
  subst hN
  exact Sk.Apart.alloc h o
theorem Sk.Apart.on {k : Nat} {w' : World} (h : s.Apart out k w) (hk : ∀ (i : Nat) (o : Obj), w.heap[i]? = some o → (s.own i ∨ isBytes o) → w'.heap[i]? = some o) : s.Apart out k w' := by
  obtain ⟨w0, h0, h1, h2⟩ := h
  exact ⟨w0, h0, h1, fun i o hi hx => hk i o (h2 i o hi hx) hx⟩
theorem Sk.Apart.far {k : Nat} (h : s.Apart out k w) {g : Nat} {t : TypeId} {cs : Array Value} (hb : Bk w g t cs) (ht : t ≠ 5) (hg : ¬ s.own g) (i : Nat) (u : Value) : s.Apart out k (w.setCell ⟨g, i, none⟩ u) :=
  h.on fun k x hk hx => by
    refine (Below.heap_setCell w ⟨g, i, none⟩ u k ?_).trans hk
    rintro rfl
    rcases hx with hx | hx
    · exact hg hx
    · exact hb.noBytes ht _ hk hx
theorem Sk.Ok.same (hs : s.Ok P fuel B) {w' : World} (h : s.inv out w) (hb : Below w.heap.size w w') : s.inv out w' :=
  hs.stable _ _ _ h fun k _ hk _ => (hb.block k (Array.getElem?_eq_some_iff.1 hk).1).trans hk
end

/-- Block bw is a bit writer over the place s; what it has handed on and holds back is st. -/
structure BWr (s : Sk) (bw : Nat) (st : BS) (w : World) : Prop where
  blk : Bk w bw 172 #[.iface s.ty s.val, .int .u8 st.c, .int .u8 (st.n : Int)]
  inv : s.inv st.out w
  own : ¬ s.own bw
  ok : st.ok

/-- The blocks that a bit writer over s may turn. -/
def bwOwn (s : Sk) (bw : Nat) : Nat → Prop := fun k => s.own k ∨ k = bw

end Go.Proofs.YtlabcknoooaefaaGreatDoor
