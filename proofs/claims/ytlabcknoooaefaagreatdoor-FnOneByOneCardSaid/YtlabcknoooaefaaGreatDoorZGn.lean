/-
  ROWS OF THE CALL's OWN: small laws.
-/
import Derived.Test.YtlabcknoooaefaaGreatDoorZRb
import Derived.Laws.CopyOwn
import Derived.OneCell
namespace Go.Proofs.YtlabcknoooaefaaGreatDoor
open Go.RowKit
set_option linter.unusedVariables false

theorem bytesV_len (l : List UInt8) : (bytesV l).length = l.length := by simp [bytesV]

theorem bytesV_append (a b : List UInt8) : bytesV (a ++ b) = bytesV a ++ bytesV b := by simp [bytesV]

theorem bytesV_one (l : List UInt8) : ∀ v ∈ bytesV l, v.oneCell' = true := by
  intro v hv
  obtain ⟨b, _, rfl⟩ := List.mem_map.1 hv
  rfl

theorem bytesV_get (l : List UInt8) (j : Nat) (v : Value) (h : (bytesV l)[j]? = some v) : ∃ b, l[j]? = some b ∧ v = .int .u8 (b.toNat : Int) := by
  unfold bytesV at h
  rw [List.getElem?_map] at h
  cases hb : l[j]? with
  | none => rw [hb] at h; cases h
  | some b => rw [hb] at h; exact ⟨b, rfl, by simpa using h.symm⟩

/-- Bytes, as whatever numbers. -/
def u8V (l : List Int) : List Value := l.map (.int .u8 ·)
theorem u8V_len (l : List Int) : (u8V l).length = l.length := by simp [u8V]
theorem u8V_get {l : List Int} {j : Nat} (hj : j < l.length) : (u8V l)[j]? = some (.int .u8 (l.getD j 0)) := by
  simp [u8V, hj]
theorem u8V_one (l : List Int) : ∀ v ∈ u8V l, v.oneCell' = true := by
  intro v hv
  obtain ⟨b, _, rfl⟩ := List.mem_map.1 hv
  rfl

/-- Whole numbers as they lie in memory. -/
def intV (l : List Int) : List Value := l.map (.int .i64 ·)
theorem intV_len (l : List Int) : (intV l).length = l.length := by simp [intV]
theorem intV_get {l : List Int} {j : Nat} (hj : j < l.length) : (intV l)[j]? = some (.int .i64 (l.getD j 0)) := by
  simp [intV, hj]

section
variable {w w' : World} {base : Nat} {e : TypeId} {size : Nat} {v : Value} {n : Nat} {xs : List Value}

/-- A row of the call's own stays where its block does. -/
theorem ownsRow_stay (h : w.ownsRow base e size v n xs) (hk : ∀ k o, w.heap[k]? = some o → v.ownBlock = some k → w'.heap[k]? = some o) : w'.ownsRow base e size v n xs := by
  refine ⟨h.1, ?_⟩
  rcases h.2 with hn | ⟨g, cap, cur, rfl, hb, hgg, rest⟩
  · exact .inl hn
  · exact .inr ⟨g, cap, cur, rfl, hb, hk _ _ hgg rfl, rest⟩

theorem ownsRow_block (h : w.ownsRow base e size v n xs) {k : Nat} (hk : v.ownBlock = some k) : ∃ cur, Bk w k e cur := by
  rcases h.2 with ⟨rfl, _⟩ | ⟨g, cap, cur, rfl, hb, hgg, rest⟩
  · simp [Value.ownBlock] at hk
  · have : g = k := by simpa [Value.ownBlock] using hk
    subst this
    exact ⟨cur, hgg⟩

theorem ownsRow_ne (h : w.ownsRow base e size v n xs) {g : Nat} {t : TypeId} {cs : Array Value} (hb : Bk w g t cs) (ht : e ≠ t) : v.ownBlock ≠ some g := by
  intro hk
  obtain ⟨cur, hc⟩ := ownsRow_block h hk
  exact Bk.ne hc hb ht rfl

theorem ownsRow_below (h : w.ownsRow base e size v n xs) {B : Nat} (hb : Below B w w') (hlt : ∀ k, v.ownBlock = some k → k < B) : w'.ownsRow base e size v n xs :=
  ownsRow_stay h fun k o ho hv => (hb.block k (hlt k hv)).trans ho

theorem ownsRow_keep {B : Nat} {S : Nat → Prop} (h : w.ownsRow base e size v n xs) (hk : Keep B S w w') (hS : ∀ k, v.ownBlock = some k → ¬ S k) (he : e ≠ 5) : w'.ownsRow base e size v n xs :=
  ownsRow_stay h fun k o ho hv => by
    obtain ⟨cur, hc⟩ := ownsRow_block h hv
    exact hk.blk k o ho (hS k hv) (hc.noBytes he o ho)

theorem ownsRow_base (h : w.ownsRow base e size v n xs) {b' : Nat} (hb : b' ≤ base) : w.ownsRow b' e size v n xs := by
  refine ⟨h.1, ?_⟩
  rcases h.2 with hn | ⟨g, cap, cur, rfl, hge, hgg, rest⟩
  · exact .inl hn
  · exact .inr ⟨g, cap, cur, rfl, Nat.le_trans hb hge, hgg, rest⟩

/-- The form of a row that holds something. -/
theorem ownsRow_some (h : w.ownsRow base e size v n xs) (hn : 0 < n) : ∃ g cap, v = .slice (some ⟨g, 0, none⟩) n cap ∧ base ≤ g ∧ g < w.heap.size ∧ n ≤ cap ∧ cap ≤ maxLen ∧ Row w g e xs := by
  rcases h.2 with ⟨rfl, h0⟩ | ⟨g, cap, cur, rfl, hge, hgg, h1, h2, h3, h4⟩
  · omega
  · refine ⟨g, cap, rfl, hge, (Array.getElem?_eq_some_iff.1 hgg).1, h1, h2, cur, hgg, ?_⟩
    intro j x hj
    rw [← h4, List.getElem?_take] at hj
    split at hj
    · simpa using hj
    · cases hj

theorem ownsRow_cell1 (h : w.ownsRow base e 1 v n xs) {g cap : Nat} (hv : v = .slice (some ⟨g, 0, none⟩) n cap) (j : Nat) (u : Value) (hj : xs[j]? = some u) : w.cell? ⟨g, j, none⟩ = some u := by
  have := h.cells (g := g) (by rw [hv]; rfl) j u hj
  have e : (⟨g, 0, none⟩ : Addr).add j = ⟨g, j, none⟩ := by unfold Addr.add; split <;> simp_all
  rwa [e] at this

theorem ownsRow_free (h : w.ownsRow base e size v n xs) {g m cap : Nat} (hv : v = .slice (some ⟨g, 0, none⟩) m cap) (j : Nat) : w.frozen? ⟨g, j, none⟩ = false := by
  obtain ⟨cur, hc⟩ := ownsRow_block h (k := g) (by rw [hv]; rfl)
  exact hc.frozen j

/-- A cell of such a row, stored anew. -/
theorem ownsRow_put (h : w.ownsRow base e 1 v n xs) {g cap : Nat} (hv : v = .slice (some ⟨g, 0, none⟩) n cap) (j : Nat) (hj : j < n) (u : Value) : (w.setCell ⟨g, j, none⟩ u).ownsRow base e 1 v n (xs.set j u) := by
  refine ⟨by simp [h.1], ?_⟩
  rcases h.2 with ⟨rfl, h0⟩ | ⟨g', cap', cur, rfl, hge, hgg, h1, h2, h3, h4⟩
  · omega
  · have : g' = g ∧ cap' = cap := by injection hv with a b c; injection a with a; injection a with a; exact ⟨a, c⟩
    obtain ⟨rfl, rfl⟩ := this
    refine .inr ⟨g', cap', cur.setIfInBounds j u, rfl, hge, ?_, h1, h2, by simp [h3], ?_⟩
    · simp [World.setCell, Array.getElem?_modify, hgg]
    · rw [← h4]
      simp [List.take_set]
end

theorem u8V_set (l : List Int) (j : Nat) (x : Int) : (u8V l).set j (.int .u8 x) = u8V (l.set j x) := by
  simp [u8V, List.map_set]
theorem u8V_snoc (l : List Int) (x : Int) : u8V l ++ [.int .u8 x] = u8V (l ++ [x]) := by simp [u8V]
theorem intV_snoc (l : List Int) (x : Int) : intV l ++ [.int .i64 x] = intV (l ++ [x]) := by simp [intV]

theorem and7 (n : Nat) (h : n < 9223372036854775808) : bits .and .i64 (n : Int) 7 = ((n % 8 : Nat) : Int) := by
  have h1 : (BitVec.ofInt 64 (n : Int)).toNat = n := by
    rw [BitVec.ofInt_natCast, BitVec.toNat_ofNat]; exact Nat.mod_eq_of_lt (by omega)
  have h2 : (BitVec.ofInt 64 (7 : Int)).toNat = 7 := by decide
  have h3 : n &&& 7 = n % 8 := Nat.and_two_pow_sub_one_eq_mod n 3
  show IntKind.i64.wrap ((BitVec.ofInt 64 (n : Int) &&& BitVec.ofInt 64 (7 : Int)).toNat : Int) = _
  rw [BitVec.toNat_and, h1, h2, h3, IntKind.wrap_i64]
  omega

/-- What has turned in one row's block alone, or in what is new. -/
theorem Keep.grownRow {B : Nat} {S : Nat → Prop} {a w w' : World} {base size n : Nat} {v : Value} {xs : List Value} (h : Keep B S a w) (hown : w.ownsRow base 5 size v n xs) (hB : B ≤ base) (hBw : B ≤ w.heap.size) (hg : w.grownBy w' v.ownBlock) : Keep B S a w' := by
  refine ⟨h.below.grown hg hBw (fun k hk => Nat.le_trans hB (hown.lt k hk).1), fun k o hk hn hb => ?_⟩
  have hk2 := h.blk k o hk hn hb
  refine (hg.block k (Array.getElem?_eq_some_iff.1 hk2).1 ?_).trans hk2
  intro he
  obtain ⟨cur, hc⟩ := ownsRow_block hown he.symm
  unfold Bk at hc
  rw [hc] at hk2
  injection hk2 with hk2
  exact hb ⟨_, _, hk2.symm⟩

theorem Keep.byteCell {B : Nat} {S : Nat → Prop} {a w : World} (h : Keep B S a w) {g : Nat} {cs : Array Value} (hg : Bk w g 5 cs) (hB : B ≤ g) (i : Nat) (u : Value) : Keep B S a (w.setCell ⟨g, i, none⟩ u) := by
  refine ⟨h.below.setCell hB u, fun k o hk hn hb => ?_⟩
  have hk2 := h.blk k o hk hn hb
  refine (Below.heap_setCell w ⟨g, i, none⟩ u k ?_).trans hk2
  rintro rfl
  unfold Bk at hg
  rw [hg] at hk2
  injection hk2 with hk2
  exact hb ⟨_, _, hk2.symm⟩
end Go.Proofs.YtlabcknoooaefaaGreatDoor
