/-
  THE SUMS OF 16 AND OF 8 BITS: their tables, and how a digest takes bytes.
-/
import Derived.Test.YtlabcknoooaefaaGreatDoorZFr
import Derived.Test.YtlabcknoooaefaaGreatDoorProg
import Derived.WalkLawsBesides
import Derived.WalkSpells
import Derived.Lib.Hide
import Derived.Deep.LoopGhost
import Derived.Deep.RegionWith
namespace Go.Proofs.YtlabcknoooaefaaGreatDoor
open Go.RowKit
set_option linter.unusedVariables false

/-- A row of 256 numbers of which the first k are told by f, the others 0. -/
def tabC (kd : IntKind) (f : Nat → Int) (k : Nat) : Array Value := ((List.range 256).map fun i => if i < k then Value.int kd (f i) else Value.int kd 0).toArray

theorem tabC_size (kd : IntKind) (f : Nat → Int) (k : Nat) : (tabC kd f k).size = 256 := by simp [tabC]

theorem tabC_step (kd : IntKind) (f : Nat → Int) (k : Nat) (h : k < 256) : (tabC kd f k).setIfInBounds k (.int kd (f k)) = tabC kd f (k + 1) := by
  apply Array.ext
  · simp [tabC]
  · intro i h1 h2
    simp [tabC] at h1 h2
    rw [Array.getElem_setIfInBounds (by simpa [tabC] using h1)]
    simp [tabC]
    by_cases hk : k = i
    · subst hk; simp
    · rw [if_neg hk]
      by_cases hl : i < k
      · rw [if_pos hl, if_pos (by omega)]
      · rw [if_neg hl, if_neg (by omega)]

theorem tabC_new (kd : IntKind) (f : Nat → Int) (i : Nat) (h : i < 256) : (tabC kd f i)[i]? = some (.int kd 0) := by
  simp [tabC, h]

theorem tabC_at (kd : IntKind) (f : Nat → Int) (i : Nat) (h : i < 256) : (tabC kd f 256)[i]? = some (.int kd (f i)) := by
  simp [tabC, h]

/-- One bit of the sum of 16. -/
def step16 (c : Int) : Int := if (bits .and .u16 c 32768 != 0) = true then bits .xor .u16 (IntKind.u16.wrap (c * 2)) 32773 else IntKind.u16.wrap (c * 2)
def steps16 : Nat → Int → Int
  | 0, c => c
  | k + 1, c => step16 (steps16 k c)
def t16 (i : Nat) : Int := steps16 8 ((i : Int) * 256)

set_option maxRecDepth 100000 in
set_option maxHeartbeats 400000 in
theorem table16 (w : World) :
    Calls Tryz.prog 62 #[.int .u16 32773] w fun e w' => e = .returned (.pointer (some ⟨w.heap.size, 0, none⟩)) ∧ w.alloc (.cells (tabC .u16 t16 256) 245) = w' := by
  have hz : Tryz.zeroCells245 = tabC .u16 t16 0 := by kernel_rfl
  go_enter Tryz.func62, Tryz.ntmps62
  go_wp2
  go_loopw [7] (fun i wr => ∃ k : Nat, k ≤ 256 ∧ i = .int .i64 k ∧ wr = w.alloc (.cells (tabC .u16 t16 k) 245)) (fun i _ => 256 - (intOf i).toNat)
  case atStart => exact ⟨0, by omega, rfl, rfl⟩
  case round =>
    obtain ⟨k, hk, rfl, rfl⟩ := hrel
    by_cases hlt : k < 256
    · have hl' : (k : Int) < 256 := by omega
      go_wp2
      obtain ⟨wo, hwo⟩ : ∃ wo : World, wo = w.alloc (.cells (tabC .u16 t16 k) 245) := ⟨_, rfl⟩
      rw [← hwo]
      have HW := Lib.hid hwo
      clear hwo
      go_loop [4, 5] (fun c j => ∃ (m : Nat) (C : Int), m ≤ 8 ∧ j = .int .i64 m ∧ c = .int .u16 C ∧ C = steps16 m ((k : Int) * 256)) (fun _ j => 8 - (intOf j).toNat)
      case atStart => exact ⟨0, _, by omega, rfl, rfl, rfl⟩
      case round =>
        obtain ⟨m, C, hm, rfl, rfl, hC⟩ := hrel
        have HC := Lib.hid hC
        clear hC
        by_cases hml : m < 8
        · have hml' : (m : Int) < 8 := by omega
          cases hb : (bits .and .u16 C 32768 != 0)
          · go_wp2
            go_round
            case rel => exact ⟨m + 1, _, by omega, by go_num, rfl, by rw [steps16, ← HC.out, step16, hb]; simp⟩
            case measure => simp [intOf]; omega
          · go_wp2
            go_round
            case rel => exact ⟨m + 1, _, by omega, by go_num, rfl, by rw [steps16, ← HC.out, step16, hb]; simp⟩
            case measure => simp [intOf]; omega
        · have hmg : ¬ (m : Int) < 8 := by omega
          obtain rfl : m = 8 := by omega
          have hC : C = t16 k := HC.out
          subst hC
          rw [HW.out]
          have hcell := tabC_new .u16 t16 k hlt
          go_wp2
          go_roundw
          case rel => exact ⟨k + 1, by omega, by go_num, by rw [tabC_step _ _ _ hlt]⟩
          case measure => simp [intOf]; omega
    · have hge : ¬ (k : Int) < 256 := by omega
      go_wp2
      go_ret
      obtain rfl : k = 256 := by omega
      exact ⟨rfl, rfl⟩
/-- One bit of the sum of 8. -/
def step8 (c : Int) : Int := if (bits .and .u8 c 128 != 0) = true then bits .xor .u8 (c * 2 % 256) 7 else c * 2 % 256
def steps8 : Nat → Int → Int
  | 0, c => c
  | k + 1, c => step8 (steps8 k c)
def t8 (i : Nat) : Int := steps8 8 (i : Int)

set_option maxRecDepth 100000 in
set_option maxHeartbeats 400000 in
theorem table8 (w : World) :
    Calls Tryz.prog 97 #[.int .u8 7] w fun e w' => e = .returned (.pointer (some ⟨w.heap.size, 0, none⟩)) ∧ w.alloc (.cells (tabC .u8 t8 256) 265) = w' := by
  have hz : Tryz.zeroCells265 = tabC .u8 t8 0 := by kernel_rfl
  go_enter Tryz.func97, Tryz.ntmps97
  go_wp2
  go_loopw [7] (fun i wr => ∃ k : Nat, k ≤ 256 ∧ i = .int .i64 k ∧ wr = w.alloc (.cells (tabC .u8 t8 k) 265)) (fun i _ => 256 - (intOf i).toNat)
  case atStart => exact ⟨0, by omega, rfl, rfl⟩
  case round =>
    obtain ⟨k, hk, rfl, rfl⟩ := hrel
    by_cases hlt : k < 256
    · have hl' : (k : Int) < 256 := by omega
      go_wp2
      obtain ⟨wo, hwo⟩ : ∃ wo : World, wo = w.alloc (.cells (tabC .u8 t8 k) 265) := ⟨_, rfl⟩
      rw [← hwo]
      have HW := Lib.hid hwo
      clear hwo
      go_loop [4, 5] (fun c j => ∃ (m : Nat) (C : Int), m ≤ 8 ∧ j = .int .i64 m ∧ c = .int .u8 C ∧ C = steps8 m (k : Int)) (fun _ j => 8 - (intOf j).toNat)
      case atStart => exact ⟨0, _, by omega, rfl, rfl, rfl⟩
      case round =>
        obtain ⟨m, C, hm, rfl, rfl, hC⟩ := hrel
        have HC := Lib.hid hC
        clear hC
        by_cases hml : m < 8
        · have hml' : (m : Int) < 8 := by omega
          cases hb : (bits .and .u8 C 128 != 0)
          · go_wp2
            go_round
            case rel => exact ⟨m + 1, _, by omega, by go_num, rfl, by rw [steps8, ← HC.out, step8, hb]; simp⟩
            case measure => simp [intOf]; omega
          · go_wp2
            go_round
            case rel => exact ⟨m + 1, _, by omega, by go_num, rfl, by rw [steps8, ← HC.out, step8, hb]; simp⟩
            case measure => simp [intOf]; omega
        · have hmg : ¬ (m : Int) < 8 := by omega
          obtain rfl : m = 8 := by omega
          have hC : C = t8 k := HC.out
          subst hC
          rw [HW.out]
          have hcell := tabC_new .u8 t8 k hlt
          go_wp2
          go_roundw
          case rel => exact ⟨k + 1, by omega, by go_num, by rw [tabC_step _ _ _ hlt]⟩
          case measure => simp [intOf]; omega
    · have hge : ¬ (k : Int) < 256 := by omega
      go_wp2
      go_ret
      obtain rfl : k = 256 := by omega
      exact ⟨rfl, rfl⟩
end Go.Proofs.YtlabcknoooaefaaGreatDoor

/-
  THE SUMS OF 16 AND OF 8 BITS: how a digest takes bytes and tells its sum.
-/
namespace Go.Proofs.YtlabcknoooaefaaGreatDoor
open Go.RowKit
set_option linter.unusedVariables false

/-- Where bytes lie, in the walk's spelling. -/
theorem Rd.at {w : World} {a : Addr} {bs : List UInt8} (h : Rd w a bs) (h0 : 0 < bs.length) : ∃ b o, a = ⟨b, o, none⟩ ∧ ∀ k, k < bs.length → ∃ x, bs[k]? = some x ∧ w.cell? ⟨b, o + k, none⟩ = some (.int .u8 (x.toNat : Int)) := by
  obtain ⟨b, o, sp⟩ := a
  have h1 := h 0 bs[0] (List.getElem?_eq_getElem h0)
  have hs : sp = none := by simpa [Addr.add] using World.cell?_spot h1
  subst hs
  refine ⟨b, o, rfl, fun k hk => ⟨bs[k], List.getElem?_eq_getElem hk, ?_⟩⟩
  have h2 := h k bs[k] (List.getElem?_eq_getElem hk)
  have e : (⟨b, o, none⟩ : Addr).add k = ⟨b, o + k, none⟩ := by
    unfold Addr.add
    split
    · rename_i h; subst h; rfl
    · rfl
  rwa [e] at h2

theorem u8_toNat (x : UInt8) : (0 : Int) ≤ (x.toNat : Int) ∧ (x.toNat : Int) < 256 := by
  have := x.toNat_lt
  omega

theorem xor256 (a b : Int) (ha : 0 ≤ a ∧ a < 256) (hb : 0 ≤ b ∧ b < 256) : 0 ≤ bits .xor .u16 a b ∧ bits .xor .u16 a b < 256 := by
  rw [u16_xor a b ha.1 (by omega) hb.1 (by omega)]
  have := Nat.xor_lt_two_pow (x := a.toNat) (y := b.toNat) (n := 8) (by omega) (by omega)
  omega

theorem bits16_range (op : BinOp) (a b : Int) : 0 ≤ bits op .u16 a b ∧ bits op .u16 a b < 65536 := by
  unfold bits
  simp only [IntKind.wrap_u16]
  omega

theorem bits8_range (op : BinOp) (a b : Int) : 0 ≤ bits op .u8 a b ∧ bits op .u8 a b < 256 := by
  unfold bits
  simp only [IntKind.wrap_u8]
  omega

def upd16 (c v : Int) : Int := bits .xor .u16 (IntKind.u16.wrap (c * 256)) (t16 (bits .xor .u16 (c / 256) v).toNat)
def crc16 (c : Int) : List UInt8 → Int
  | [] => c
  | b :: bs => crc16 (upd16 c (b.toNat : Int)) bs

theorem upd16_range (c v : Int) : 0 ≤ upd16 c v ∧ upd16 c v < 65536 := bits16_range _ _ _

theorem crc16_append (c : Int) (xs bs : List UInt8) : crc16 c (xs ++ bs) = crc16 (crc16 c xs) bs := by
  induction xs generalizing c with
  | nil => rfl
  | cons a xs ih => exact ih _

theorem crc16_range (c : Int) (hc : 0 ≤ c ∧ c < 65536) (bs : List UInt8) : 0 ≤ crc16 c bs ∧ crc16 c bs < 65536 := by
  induction bs generalizing c with
  | nil => exact hc
  | cons b bs ih => exact ih _ (upd16_range _ _)

set_option maxRecDepth 100000 in
set_option maxHeartbeats 400000 in
theorem update16 (c : Int) (hc : 0 ≤ c ∧ c < 65536) (tb : Nat) (bs : List UInt8) (a : Addr) (n cp : Nat) (w : World) (ht : Bk w tb 245 (tabC .u16 t16 256)) (hr : Rd w a bs) (hl : bs.length = n) (hn : 0 < n) (hnc : n ≤ cp) (hcp : cp ≤ 4096) :
    Calls Tryz.prog 193 #[.int .u16 c, .pointer (some ⟨tb, 0, none⟩), .slice (some a) n cp] w fun e w' => e = .returned (.int .u16 (crc16 c bs)) ∧ w = w' := by
  obtain ⟨ab, ao, rfl, hat⟩ := hr.at (by omega)
  go_enter Tryz.func193, Tryz.ntmps193
  go_wp2
  go_loop [0, 11] (fun cv i => ∃ (k : Nat) (C : Int), k ≤ n ∧ i = .int .i64 k ∧ cv = .int .u16 C ∧ 0 ≤ C ∧ C < 65536 ∧ crc16 C (bs.drop k) = crc16 c bs) (fun _ i => n - (intOf i).toNat)
  case atStart => exact ⟨0, c, by omega, rfl, rfl, hc.1, hc.2, rfl⟩
  case round =>
    obtain ⟨k, C, hk, rfl, rfl, h0, h1, hE⟩ := hrel
    have HE := Lib.hid hE
    clear hE
    by_cases hlt : k < n
    · obtain ⟨x, hx, hcell⟩ := hat k (by omega)
      have hv := u8_toNat x
      have hq : 0 ≤ C / 256 ∧ C / 256 < 256 := by omega
      have hi := xor256 (C / 256) (x.toNat : Int) hq hv
      obtain ⟨hi0, hi1⟩ := hi
      obtain ⟨hv0, hv1⟩ := hv
      have hHx := Lib.hid hx
      have hdrop : bs.drop k = x :: bs.drop (k + 1) := by
        have hkl : k < bs.length := by omega
        rw [List.drop_eq_getElem_cons hkl]
        rw [List.getElem?_eq_getElem hkl] at hx
        injection hx with hx
        rw [hx]
      have HD := Lib.hid hdrop
      clear hdrop hx
      have htc : w.cell? ⟨tb, (bits .xor .u16 (C / 256) (x.toNat : Int)).toNat, none⟩ = some (.int .u16 (t16 (bits .xor .u16 (C / 256) (x.toNat : Int)).toNat)) := by
        rw [ht.cell, tabC_at _ _ _ (by omega)]
      go_wp2
      go_round
      case rel => exact ⟨k + 1, _, by omega, by go_num, rfl, (upd16_range _ _).1, (upd16_range _ _).2, by have := HE.out; rw [HD.out] at this; exact this⟩
      case measure => simp [intOf]; omega
    · have hge : ¬ (k : Int) < n := by omega
      go_wp2
      go_ret
      have e1 := HE.out
      rw [List.drop_eq_nil_of_le (by omega)] at e1
      have e2 : C = crc16 c bs := e1
      exact ⟨congrArg (fun z => Ending.returned (.int .u16 z)) e2, rfl⟩

/-- A digest of 16 bits: its block, its table's block. -/
structure D16 (d tb : Nat) (c : Int) (w : World) : Prop where
  blk : Bk w d 243 #[.int .u16 c, .pointer (some ⟨tb, 0, none⟩)]
  tab : Bk w tb 245 (tabC .u16 t16 256)
  rng : 0 ≤ c ∧ c < 65536

theorem dWrite16 (d tb : Nat) (c : Int) (bs : List UInt8) (a : Addr) (n cp : Nat) (w : World) (hd : D16 d tb c w) (hr : Rd w a bs) (hl : bs.length = n) (hn : 0 < n) (hnc : n ≤ cp) (hcp : cp ≤ 4096) :
    Calls Tryz.prog 192 #[.pointer (some ⟨d, 0, none⟩), .slice (some a) n cp] w fun e w' => e = .returned (.tuple #[.int .i64 (n : Int), .nilIface]) ∧ ∃ q, w' = (w.drewN q).setCell ⟨d, 0, none⟩ (.int .u16 (crc16 c bs)) := by
  have c0 := hd.blk.cell 0
  have c1 := hd.blk.cell 1
  have f0 := hd.blk.frozen 0
  simp at c0 c1
  have hU : ∀ q, Calls Tryz.prog 193 #[.int .u16 c, .pointer (some ⟨tb, 0, none⟩), .slice (some a) n cp] (w.drewN q) fun e w' => e = .returned (.int .u16 (crc16 c bs)) ∧ w.drewN q = w' := fun q => update16 c hd.rng tb bs a n cp (w.drewN q) hd.tab hr hl hn hnc hcp
  go_enter Tryz.func192, Tryz.ntmps192
  go_wp2
  go_region_with (go_at_call 193; refine (hU 1).mono ?_; rintro e w' ⟨rfl, rfl⟩)
  all_goals
    go_wp2
    go_ret2
    exact ⟨rfl, 1, rfl⟩

theorem sum16 (d tb : Nat) (c : Int) (w : World) (hd : D16 d tb c w) :
    Calls Tryz.prog 191 #[.pointer (some ⟨d, 0, none⟩)] w fun e w' => e = .returned (.int .u16 c) ∧ w = w' := by
  have c0 := hd.blk.cell 0
  simp at c0
  go_enter Tryz.func191, Tryz.ntmps191
  go_wp2
  go_ret
  exact ⟨rfl, rfl⟩

theorem newSum16 (w : World) :
    Calls Tryz.prog 36 #[] w fun e w' => e = .returned (.iface 241 (.pointer (some ⟨w.heap.size + 1, 0, none⟩))) ∧ (w.alloc (.cells (tabC .u16 t16 256) 245)).alloc (.cells #[.int .u16 0, .pointer (some ⟨w.heap.size, 0, none⟩)] 243) = w' := by
  go_enter Tryz.func36, Tryz.ntmps36
  go_wp2_with (first | (go_at_call 62; refine (table16 _).mono ?_; rintro e w' ⟨rfl, rfl⟩) | (go_at_call 61; go_in))
  go_ret
  exact ⟨rfl, rfl⟩
theorem steps8_range (k : Nat) (c : Int) (hc : 0 ≤ c ∧ c < 256) : 0 ≤ steps8 k c ∧ steps8 k c < 256 := by
  induction k with
  | zero => exact hc
  | succ k ih =>
    unfold steps8 step8
    split
    · exact bits8_range _ _ _
    · omega

theorem t8_range (i : Nat) (h : i < 256) : 0 ≤ t8 i ∧ t8 i < 256 := steps8_range 8 _ (by omega)

def upd8 (c v : Int) : Int := t8 (bits .xor .u8 c v).toNat
def crc8 (c : Int) : List UInt8 → Int
  | [] => c
  | b :: bs => crc8 (upd8 c (b.toNat : Int)) bs

theorem upd8_range (c v : Int) : 0 ≤ upd8 c v ∧ upd8 c v < 256 := t8_range _ (by have := bits8_range .xor c v; omega)

theorem crc8_append (c : Int) (xs bs : List UInt8) : crc8 c (xs ++ bs) = crc8 (crc8 c xs) bs := by
  induction xs generalizing c with
  | nil => rfl
  | cons a xs ih => exact ih _

theorem crc8_range (c : Int) (hc : 0 ≤ c ∧ c < 256) (bs : List UInt8) : 0 ≤ crc8 c bs ∧ crc8 c bs < 256 := by
  induction bs generalizing c with
  | nil => exact hc
  | cons b bs ih => exact ih _ (upd8_range _ _)

set_option maxRecDepth 100000 in
set_option maxHeartbeats 400000 in
theorem update8 (c : Int) (hc : 0 ≤ c ∧ c < 256) (tb : Nat) (bs : List UInt8) (a : Addr) (n cp : Nat) (w : World) (ht : Bk w tb 265 (tabC .u8 t8 256)) (hr : Rd w a bs) (hl : bs.length = n) (hn : 0 < n) (hnc : n ≤ cp) (hcp : cp ≤ 4096) :
    Calls Tryz.prog 200 #[.int .u8 c, .pointer (some ⟨tb, 0, none⟩), .slice (some a) n cp] w fun e w' => e = .returned (.int .u8 (crc8 c bs)) ∧ w = w' := by
  obtain ⟨ab, ao, rfl, hat⟩ := hr.at (by omega)
  go_enter Tryz.func200, Tryz.ntmps200
  go_wp2
  go_loop [0, 11] (fun cv i => ∃ (k : Nat) (C : Int), k ≤ n ∧ i = .int .i64 k ∧ cv = .int .u8 C ∧ 0 ≤ C ∧ C < 256 ∧ crc8 C (bs.drop k) = crc8 c bs) (fun _ i => n - (intOf i).toNat)
  case atStart => exact ⟨0, c, by omega, rfl, rfl, hc.1, hc.2, rfl⟩
  case round =>
    obtain ⟨k, C, hk, rfl, rfl, h0, h1, hE⟩ := hrel
    have HE := Lib.hid hE
    clear hE
    by_cases hlt : k < n
    · obtain ⟨x, hx, hcell⟩ := hat k (by omega)
      have hv := u8_toNat x
      have hi := bits8_range .xor C (x.toNat : Int)
      obtain ⟨hi0, hi1⟩ := hi
      obtain ⟨hv0, hv1⟩ := hv
      have hHx := Lib.hid hx
      have hdrop : bs.drop k = x :: bs.drop (k + 1) := by
        have hkl : k < bs.length := by omega
        rw [List.drop_eq_getElem_cons hkl]
        rw [List.getElem?_eq_getElem hkl] at hx
        injection hx with hx
        rw [hx]
      have HD := Lib.hid hdrop
      clear hdrop hx
      have htc : w.cell? ⟨tb, (bits .xor .u8 C (x.toNat : Int)).toNat, none⟩ = some (.int .u8 (t8 (bits .xor .u8 C (x.toNat : Int)).toNat)) := by
        rw [ht.cell, tabC_at _ _ _ (by omega)]
      go_wp2
      go_round
      case rel => exact ⟨k + 1, _, by omega, by go_num, rfl, (upd8_range _ _).1, (upd8_range _ _).2, by have := HE.out; rw [HD.out] at this; exact this⟩
      case measure => simp [intOf]; omega
    · have hge : ¬ (k : Int) < n := by omega
      go_wp2
      go_ret
      have e1 := HE.out
      rw [List.drop_eq_nil_of_le (by omega)] at e1
      have e2 : C = crc8 c bs := e1
      exact ⟨congrArg (fun z => Ending.returned (.int .u8 z)) e2, rfl⟩

/-- A digest of 8 bits: its block, its table's block. -/
structure D8 (d tb : Nat) (c : Int) (w : World) : Prop where
  blk : Bk w d 263 #[.int .u8 c, .pointer (some ⟨tb, 0, none⟩)]
  tab : Bk w tb 265 (tabC .u8 t8 256)
  rng : 0 ≤ c ∧ c < 256

theorem dWrite8 (d tb : Nat) (c : Int) (bs : List UInt8) (a : Addr) (n cp : Nat) (w : World) (hd : D8 d tb c w) (hr : Rd w a bs) (hl : bs.length = n) (hn : 0 < n) (hnc : n ≤ cp) (hcp : cp ≤ 4096) :
    Calls Tryz.prog 199 #[.pointer (some ⟨d, 0, none⟩), .slice (some a) n cp] w fun e w' => e = .returned (.tuple #[.int .i64 (n : Int), .nilIface]) ∧ ∃ q, w' = (w.drewN q).setCell ⟨d, 0, none⟩ (.int .u8 (crc8 c bs)) := by
  have c0 := hd.blk.cell 0
  have c1 := hd.blk.cell 1
  have f0 := hd.blk.frozen 0
  simp at c0 c1
  have hU : ∀ q, Calls Tryz.prog 200 #[.int .u8 c, .pointer (some ⟨tb, 0, none⟩), .slice (some a) n cp] (w.drewN q) fun e w' => e = .returned (.int .u8 (crc8 c bs)) ∧ w.drewN q = w' := fun q => update8 c hd.rng tb bs a n cp (w.drewN q) hd.tab hr hl hn hnc hcp
  go_enter Tryz.func199, Tryz.ntmps199
  go_wp2
  go_region_with (go_at_call 200; refine (hU 1).mono ?_; rintro e w' ⟨rfl, rfl⟩)
  all_goals
    go_wp2
    go_ret2
    exact ⟨rfl, 1, rfl⟩

theorem sum8 (d tb : Nat) (c : Int) (w : World) (hd : D8 d tb c w) :
    Calls Tryz.prog 198 #[.pointer (some ⟨d, 0, none⟩)] w fun e w' => e = .returned (.int .u8 c) ∧ w = w' := by
  have c0 := hd.blk.cell 0
  simp at c0
  go_enter Tryz.func198, Tryz.ntmps198
  go_wp2
  go_ret
  exact ⟨rfl, rfl⟩

theorem newSum8 (w : World) :
    Calls Tryz.prog 63 #[] w fun e w' => e = .returned (.iface 261 (.pointer (some ⟨w.heap.size + 1, 0, none⟩))) ∧ (w.alloc (.cells (tabC .u8 t8 256) 265)).alloc (.cells #[.int .u8 0, .pointer (some ⟨w.heap.size, 0, none⟩)] 263) = w' := by
  go_enter Tryz.func63, Tryz.ntmps63
  go_wp2_with (first | (go_at_call 97; refine (table8 _).mono ?_; rintro e w' ⟨rfl, rfl⟩) | (go_at_call 96; go_in))
  go_ret
  exact ⟨rfl, rfl⟩
end Go.Proofs.YtlabcknoooaefaaGreatDoor

/-
  io.MultiWriter AND HOW IT WRITES: a digest beside a place to write to; two digests beside one.
-/
namespace Go.Proofs.YtlabcknoooaefaaGreatDoor
open Go.RowKit
set_option linter.unusedVariables false

/-- Block mw is a multiWriter over the values vs, which lie in row r. -/
structure Multi (mw r : Nat) (vs : List Value) (w : World) : Prop where
  ex : ∃ (cap : Nat) (cur : Array Value), Bk w mw 201 #[.slice (some ⟨r, 0, none⟩) vs.length cap] ∧ Bk w r 101 cur ∧ (∀ (j : Nat) (v : Value), vs[j]? = some v → cur[j]? = some v) ∧ vs.length ≤ cap ∧ cap ≤ maxLen

theorem Multi.keep {B : Nat} {S : Nat → Prop} {mw r : Nat} {vs : List Value} {w w' : World} (h : Multi mw r vs w) (hk : Keep B S w w') (h1 : ¬ S mw) (h2 : ¬ S r) : Multi mw r vs w' := by
  obtain ⟨cap, cur, hb, hr, hv, hl, hm⟩ := h
  exact ⟨cap, cur, hk.bk hb h1 (by decide), hk.bk hr h2 (by decide), hv, hl, hm⟩

theorem assert241 (x : Value) (w : World) : (Instr.typeAssert (.iface 241 x) 101 198 true).run Tryz.prog w = .ok (.tuple #[.pointer none, .bool false]) w := by kernel_rfl
theorem assert261 (x : Value) (w : World) : (Instr.typeAssert (.iface 261 x) 101 198 true).run Tryz.prog w = .ok (.tuple #[.pointer none, .bool false]) w := by kernel_rfl
theorem assert65 (x : Value) (w : World) : (Instr.typeAssert (.iface 65 x) 101 198 true).run Tryz.prog w = .ok (.tuple #[.pointer none, .bool false]) w := by kernel_rfl
theorem assert87 (x : Value) (w : World) : (Instr.typeAssert (.iface 87 x) 101 198 true).run Tryz.prog w = .ok (.tuple #[.pointer none, .bool false]) w := by kernel_rfl
theorem assert198 (x : Value) (w : World) : (Instr.typeAssert (.iface 198 x) 101 198 true).run Tryz.prog w = .ok (.tuple #[x, .bool true]) w := by kernel_rfl

set_option maxRecDepth 100000 in
set_option maxHeartbeats 1000000 in
theorem multi2 (ab d : Nat) (ty : TypeId) (v : Value) (hty : ty = 65 ∨ ty = 87) (w : World) (h : Bk w ab 101 #[.iface 241 (.pointer (some ⟨d, 0, none⟩)), .iface ty v]) :
    Calls Tryz.prog 37 #[.slice (some ⟨ab, 0, none⟩) 2 2] w fun e w' => ∃ mw r, e = .returned (.iface 198 (.pointer (some ⟨mw, 0, none⟩))) ∧ Multi mw r [.iface 241 (.pointer (some ⟨d, 0, none⟩)), .iface ty v] w' ∧ w.heap.size ≤ mw ∧ w.heap.size ≤ r ∧ Below w.heap.size w w' := by
  have c0 := h.cell 0
  have c1 := h.cell 1
  simp at c0 c1
  have hlt := h.lt
  have hmk : ∀ w, (Instr.makeSlice 197 (.int .i64 0) (.int .i64 2)).run Tryz.prog w = .ok (.slice (some ⟨w.heap.size, 0, none⟩) 0 2) (w.alloc (.cells #[.nilIface, .nilIface] 101)) := fun _ => by kernel_rfl
  have ta1 := assert241
  have ta2 := assert65
  have ta3 := assert87
  rcases hty with rfl | rfl
  all_goals
    go_enter Tryz.func37, Tryz.ntmps37
    go_wp2_with fail
    refine wp_loop_rounds 3 ?_
    rw [rounds_succ]
    go_wp2_with fail
    rw [rounds_succ]
    go_wp2_with fail
    rw [rounds_succ]
    go_wp2_with fail
    go_ret
    refine ⟨_, w.heap.size, rfl, ⟨2, _, Bk.newAt _ _ _ _ (by simp), (((Bk.newAt _ _ _ _ rfl).alloc _).alloc _).alloc _, fun j x hj => ?_, by simp, by simp [maxLen]⟩, by omega, by omega, ((((Below.refl _ _).alloc (by simp) _).alloc (by simp) _).alloc (by simp; omega) _).alloc (by simp; omega) _⟩
    match j, hj with
    | 0, hj => simpa using hj
    | 1, hj => simpa using hj
    | j + 2, hj => simp at hj

theorem info101 : (Tryz.prog.info? 101).map (fun i => (i.zero, i.size, i.bytes)) = some (some .nilIface, 1, 16) := by kernel_rfl

set_option maxRecDepth 100000 in
set_option maxHeartbeats 1000000 in
theorem multi3 (ab d mw r : Nat) (v1 v2 : Value) (h1 : v1.oneCell' = true) (h2 : v2.oneCell' = true) (w : World) (h : Bk w ab 101 #[.iface 261 (.pointer (some ⟨d, 0, none⟩)), .iface 198 (.pointer (some ⟨mw, 0, none⟩))]) (hm : Multi mw r [v1, v2] w) :
    Calls Tryz.prog 37 #[.slice (some ⟨ab, 0, none⟩) 2 2] w fun e w' => ∃ mx rx, e = .returned (.iface 198 (.pointer (some ⟨mx, 0, none⟩))) ∧ Multi mx rx [.iface 261 (.pointer (some ⟨d, 0, none⟩)), v1, v2] w' ∧ w.heap.size ≤ mx ∧ w.heap.size ≤ rx ∧ Below w.heap.size w w' := by
  have c0 := h.cell 0
  have c1 := h.cell 1
  simp at c0 c1
  have hlt := h.lt
  obtain ⟨cap, cur, hb, hr, hv, hl, hc⟩ := hm
  have d0 := hb.cell 0
  simp at d0
  have hblt := hb.lt
  have hrlt := hr.lt
  obtain ⟨i0, hi, hz0, hz1, hz2⟩ := info_parts info101
  have hmk : ∀ w, (Instr.makeSlice 197 (.int .i64 0) (.int .i64 2)).run Tryz.prog w = .ok (.slice (some ⟨w.heap.size, 0, none⟩) 0 2) (w.alloc (.cells #[.nilIface, .nilIface] 101)) := fun _ => by kernel_rfl
  have ta1 := assert261
  have ta2 := assert198
  go_enter Tryz.func37, Tryz.ntmps37
  go_wp2_with fail
  refine wp_loop_rounds 3 ?_
  rw [rounds_succ]
  go_wp2_with fail
  rw [rounds_succ]
  have hW := (Bk.newAt w 101 #[.iface 261 (.pointer (some ⟨d, 0, none⟩)), .nilIface] w.heap.size rfl).alloc (.cells #[.iface 261 (.pointer (some ⟨d, 0, none⟩))] 101)
  have hr2 := (hr.alloc (.cells #[.iface 261 (.pointer (some ⟨d, 0, none⟩)), .nilIface] 101)).alloc (.cells #[.iface 261 (.pointer (some ⟨d, 0, none⟩))] 101)
  have hown : ((w.alloc (.cells #[.iface 261 (.pointer (some ⟨d, 0, none⟩)), .nilIface] 101)).alloc (.cells #[.iface 261 (.pointer (some ⟨d, 0, none⟩))] 101)).ownsRow w.heap.size 101 1 (.slice (some ⟨w.heap.size, 0, none⟩) 1 2) 1 [.iface 261 (.pointer (some ⟨d, 0, none⟩))] :=
    ⟨rfl, .inr ⟨w.heap.size, 2, _, rfl, Nat.le_refl _, hW, by omega, by simp [maxLen], rfl, rfl⟩⟩
  have hk : Below w.heap.size w ((w.alloc (.cells #[.iface 261 (.pointer (some ⟨d, 0, none⟩)), .nilIface] 101)).alloc (.cells #[.iface 261 (.pointer (some ⟨d, 0, none⟩))] 101)) := ((Below.refl _ _).alloc (by simp) _).alloc (by simp) _
  have hcl : cap ≤ 9223372036854775807 := by unfold maxLen at hc; omega
  have HO := Lib.hid hown
  have HK := Lib.hid hk
  have HW2 := Lib.hid hr2
  clear hown hk hr2 hW
  go_wp2_with (at_builtin; refine wpList_append_own _ rfl (.tmp 23) (.tmp 27) 197 rfl w.heap.size 101 i0 .nilIface 1 16 Tryz.underlying197 hi hz0 hz1 hz2 rfl (by decide) _ _ _ rfl HO.out ⟨r, 0, none⟩ 2 cap [v1, v2] rfl rfl ?c1 ?c2 ?c3 ?c4 ?c5 ?_)
  case c1 =>
    intro j u hj
    have e : (⟨r, 0, none⟩ : Addr).add j = ⟨r, j, none⟩ := by
      unfold Addr.add
      split
      · rename_i h; subst h; rfl
      · simp
    rw [e, HW2.out.cell]
    exact hv j u hj
  case c2 =>
    intro u hu
    simp at hu
    rcases hu with rfl | rfl <;> assumption
  case c3 => simp [maxLen]
  case c4 => omega
  case c5 => simp; omega
  intro v' w1 hown1 hg1 hnn
  have hb1 := HK.out.grown hg1 (by simp; omega) (by intro k hk; simp [Value.ownBlock] at hk; omega)
  rcases hown1.2 with ⟨_, h0⟩ | ⟨g, cp, cu, hv', hgb, hgh, hgc, hgm, hgs, hgt⟩
  · omega
  · subst hv'
    have hgsz := (Array.getElem?_eq_some_iff.1 hgh).1
    have hw1s := hb1.size
    clear hg1 hnn HO HK HW2
    go_wp2_with fail
    rw [rounds_succ]
    go_wp2_with fail
    go_ret
    refine ⟨_, g, rfl, ⟨cp, cu, Bk.newAt _ _ _ _ rfl, Bk.alloc hgh _, fun j x hj => ?_, by simpa using hgc, hgm⟩, hw1s, hgb, hb1.alloc hw1s _⟩
    have ht2 : cu.toList.take 3 = [.iface 261 (.pointer (some ⟨d, 0, none⟩)), v1, v2] := by simpa using hgt
    have hj3 : j < 3 := by have := (List.getElem?_eq_some_iff.1 hj).1; simpa using this
    rw [← ht2, List.getElem?_take, if_pos hj3] at hj
    simpa using hj
end Go.Proofs.YtlabcknoooaefaaGreatDoor

/-
  A multiWriter IS A PLACE TO WRITE TO: over a digest and a place; over two digests and a place.
-/
namespace Go.Proofs.YtlabcknoooaefaaGreatDoor
open Go.RowKit
set_option linter.unusedVariables false

theorem meth241 (a : Addr) (w : World) : (method 429 241 (.pointer (some a)) "Write").run Tryz.prog w = .ok (192, .pointer (some a)) w := by kernel_rfl
theorem meth261 (a : Addr) (w : World) : (method 429 261 (.pointer (some a)) "Write").run Tryz.prog w = .ok (199, .pointer (some a)) w := by kernel_rfl
theorem meth198 (a : Addr) (w : World) : (method 429 198 (.pointer (some a)) "Write").run Tryz.prog w = .ok (184, .pointer (some a)) w := by kernel_rfl

/-- The blocks on which a digest and a multiWriter over it and s lean. -/
def own2 (s : Sk) (mw r d tb : Nat) : Nat → Prop := fun k => s.own k ∨ k = mw ∨ k = r ∨ k = d ∨ k = tb

/-- A multiWriter over a digest of 16 bits and s, which held out0 when it was made. -/
structure Inv2 (s : Sk) (out0 : List UInt8) (mw r d tb : Nat) (out : List UInt8) (w : World) : Prop where
  inv : s.inv (out0 ++ out) w
  dig : D16 d tb (crc16 0 out) w
  mul : Multi mw r [.iface 241 (.pointer (some ⟨d, 0, none⟩)), .iface s.ty s.val] w
  n1 : ¬ s.own mw
  n2 : ¬ s.own r
  n3 : ¬ s.own d
  n4 : ¬ s.own tb

def sk2 (s : Sk) (out0 : List UInt8) (mw r d tb : Nat) : Sk :=
  { own := own2 s mw r d tb, ty := 198, val := .pointer (some ⟨mw, 0, none⟩), cap := s.cap - out0.length, inv := Inv2 s out0 mw r d tb }

theorem D16.step {d tb : Nat} {c : Int} {w : World} (h : D16 d tb c w) (hne : d ≠ tb) (c' : Int) (hc : 0 ≤ c' ∧ c' < 65536) (q : Nat) : D16 d tb c' ((w.drewN q).setCell ⟨d, 0, none⟩ (.int .u16 c')) := by
  have h1 := Bk.put (w := w.drewN q) h.blk 0 (.int .u16 c')
  refine ⟨by simpa using h1, ?_, hc⟩
  exact Bk.far (w := w.drewN q) h.tab (p := ⟨d, 0, none⟩) (fun e => hne e.symm) _

theorem Multi.far {mw r : Nat} {vs : List Value} {w : World} (h : Multi mw r vs w) (p : Addr) (h1 : mw ≠ p.block) (h2 : r ≠ p.block) (u : Value) (q : Nat) : Multi mw r vs ((w.drewN q).setCell p u) := by
  obtain ⟨cap, cur, hb, hr, rest⟩ := h
  exact ⟨cap, cur, Bk.far (w := w.drewN q) hb h1 u, Bk.far (w := w.drewN q) hr h2 u, rest⟩

theorem Multi.ne {mw r : Nat} {vs : List Value} {w : World} (h : Multi mw r vs w) {g : Nat} {t : TypeId} {cs : Array Value} (hb : Bk w g t cs) (h1 : t ≠ 201) (h2 : t ≠ 101) : mw ≠ g ∧ r ≠ g := by
  obtain ⟨cap, cur, hm, hr, rest⟩ := h
  exact ⟨fun e => Bk.ne hm (e ▸ hb) (fun e => h1 e.symm) rfl, fun e => Bk.ne hr (e ▸ hb) (fun e => h2 e.symm) rfl⟩

theorem Rd.far {w : World} {a : Addr} {bs : List UInt8} (h : Rd w a bs) (p : Addr) (hp : p.block ≠ a.block) (u : Value) : Rd (w.setCell p u) a bs := by
  intro j b hj
  rw [World.cell?_setCell_other w p (a.add j) u ?_]
  · exact h j b hj
  · intro e
    apply hp
    rw [e]
    unfold Addr.add
    split <;> rfl

set_option maxRecDepth 100000 in
set_option maxHeartbeats 1000000 in
theorem multiWrite2 (s : Sk) (B : Nat) (hs : s.Ok Tryz.prog 429 B) (out0 : List UInt8) (mw r d tb : Nat) (hgd : B ≤ d) (out bs : List UInt8) (a : Addr) (n c : Nat) (w : World) (h : Inv2 s out0 mw r d tb out w) (hr : Rd w a bs) (hl : bs.length = n) (hn : 0 < n) (hnc : n ≤ c) (hc : c ≤ 4096) (ha : ¬ own2 s mw r d tb a.block) (hx : (sk2 s out0 mw r d tb).Apart out a.block w) (hB : B ≤ w.heap.size) (hcap : out.length + n ≤ s.cap - out0.length) :
    Calls Tryz.prog 184 #[.pointer (some ⟨mw, 0, none⟩), .slice (some a) n c] w fun e w' => e = .returned (.tuple #[.int .i64 (n : Int), .nilIface]) ∧ Inv2 s out0 mw r d tb (out ++ bs) w' ∧ Keep B (own2 s mw r d tb) w w' := by
  have hna : ¬ s.own a.block := fun e => ha (Or.inl e)
  have hx0 : s.Apart (out0 ++ out) a.block w := by
    obtain ⟨w0, j0, j1, j2⟩ := hx
    exact ⟨w0, Inv2.inv j0, j1, fun i o hi hy => j2 i o hi (hy.elim (fun e => Or.inl (Or.inl e)) Or.inr)⟩
  have HX0 := Lib.hid hx0
  clear hx hx0
  have hda : d ≠ a.block := fun e => ha (Or.inr (Or.inr (Or.inr (Or.inl e.symm))))
  have hdt : d ≠ tb := Bk.ne h.dig.blk h.dig.tab (by decide)
  have hmd := h.mul.ne h.dig.blk (by decide) (by decide)
  have hmt := h.mul.ne h.dig.tab (by decide) (by decide)
  obtain ⟨cap, cur, hb, hrw, hv, hlc, hm⟩ := h.mul
  have d0 := hb.cell 0
  have r0 := (hrw.cell 0).trans (hv 0 _ rfl)
  have r1 := (hrw.cell 1).trans (hv 1 _ rfl)
  simp at d0
  have m1 := meth241
  obtain ⟨fn, rv, m2, e2, hcall⟩ := hs.call
  have HC := Lib.hid hcall
  clear hcall
  have hcr := crc16_range (crc16 0 out) h.dig.rng bs
  go_enter Tryz.func184, Tryz.ntmps184
  go_wp2_with fail
  refine wp_loop_rounds 3 ?_
  rw [rounds_succ]
  go_wp2_with fail
  refine (dWrite16 d tb (crc16 0 out) bs a n c _ h.dig hr hl hn hnc hc).mono ?_
  rintro e w1 ⟨rfl, q, hq⟩
  have k1 : Keep B (own2 s mw r d tb) w w1 := by
    subst hq
    exact Keep.setCell (B := B) (S := own2 s mw r d tb) (a := w) (w := w.drewN q) ⟨⟨rfl, rfl, rfl, Nat.le_refl _, fun _ _ => rfl⟩, fun _ _ h _ _ => h⟩ (p := ⟨d, 0, none⟩) hgd (Or.inr (Or.inr (Or.inr (Or.inl rfl)))) _
  have g1 : D16 d tb (crc16 (crc16 0 out) bs) w1 := hq ▸ h.dig.step hdt _ hcr q
  have mu1 : Multi mw r [.iface 241 (.pointer (some ⟨d, 0, none⟩)), .iface s.ty s.val] w1 := hq ▸ h.mul.far ⟨d, 0, none⟩ hmd.1 hmd.2 _ q
  have i1 : s.inv (out0 ++ out) w1 := hq ▸ hs.far (w := w.drewN q) (hs.stable _ _ _ h.inv fun _ _ hk _ => hk) h.dig.blk (by decide) h.n3 0 _
  have x1 : s.Apart (out0 ++ out) a.block w1 := hq ▸ Sk.Apart.far (w := w.drewN q) (HX0.out.on fun _ _ hk _ => hk) h.dig.blk (by decide) h.n3 0 _
  have rd1 : Rd w1 a bs := hq ▸ Rd.far (w := w.drewN q) hr ⟨d, 0, none⟩ hda _
  have z1 : B ≤ w1.heap.size := Nat.le_trans hB k1.below.size
  have hb1 := hq ▸ Bk.far (w := w.drewN q) hb (p := ⟨d, 0, none⟩) hmd.1 (.int .u16 (crc16 (crc16 0 out) bs))
  have hrw1 := hq ▸ Bk.far (w := w.drewN q) hrw (p := ⟨d, 0, none⟩) hmd.2 (.int .u16 (crc16 (crc16 0 out) bs))
  have r1' := (hrw1.cell 1).trans (hv 1 _ rfl)
  clear d0 r0 r1 hq
  go_wp2_with fail
  rw [rounds_succ]
  go_wp2_with fail
  refine (HC.out (out0 ++ out) bs a n c _ i1 rd1 hl hn hnc hc hna x1 z1 (by rw [List.length_append]; omega)).mono ?_
  rintro e w2 ⟨rfl, i2, k2⟩
  have k3 := k1.trans (k2.mono fun _ => Or.inl)
  have mu2 := mu1.keep k2 h.n1 h.n2
  have g2 : D16 d tb (crc16 (crc16 0 out) bs) w2 := ⟨k2.bk g1.blk h.n3 (by decide), k2.bk g1.tab h.n4 (by decide), g1.rng⟩
  clear k1 k2 g1 i1 x1 rd1 hb1 hrw1 r1'
  go_wp2_with fail
  rw [rounds_succ]
  go_wp2_with fail
  go_ret2
  refine ⟨rfl, ⟨by rwa [← List.append_assoc], by rw [crc16_append]; exact g2, mu2, h.n1, h.n2, h.n3, h.n4⟩, k3⟩

theorem sk2_ok (s : Sk) (B : Nat) (hs : s.Ok Tryz.prog 429 B) (out0 : List UInt8) (mw r d tb : Nat) (h1 : B ≤ mw) (h2 : B ≤ r) (h3 : B ≤ d) (h4 : B ≤ tb) : (sk2 s out0 mw r d tb).Ok Tryz.prog 429 B where
  call := ⟨184, .pointer (some ⟨mw, 0, none⟩), meth198 _, fun _ _ => by kernel_rfl, fun out bs a n c w h hr hl hn hnc hc ha hx hB hcap => multiWrite2 s B hs out0 mw r d tb h3 out bs a n c w h hr hl hn hnc hc ha hx hB hcap⟩
  stable := fun out w w' h hk => by
    obtain ⟨i, g, m, n1, n2, n3, n4⟩ := h
    refine ⟨hs.stable _ _ _ i fun k o ho hx => hk k o ho (hx.elim (fun e => Or.inl (Or.inl e)) Or.inr), ⟨hk _ _ g.blk (Or.inl (Or.inr (Or.inr (Or.inr (Or.inl rfl))))), hk _ _ g.tab (Or.inl (Or.inr (Or.inr (Or.inr (Or.inr rfl))))), g.rng⟩, ?_, n1, n2, n3, n4⟩
    obtain ⟨cap, cur, hb, hr, rest⟩ := m
    exact ⟨cap, cur, hk _ _ hb (Or.inl (Or.inr (Or.inl rfl))), hk _ _ hr (Or.inl (Or.inr (Or.inr (Or.inl rfl)))), rest⟩
  lt := fun out w k h hk => by
    obtain ⟨cap, cur, hb, hr, rest⟩ := h.mul
    rcases hk with e | rfl | rfl | rfl | rfl
    · exact hs.lt _ _ _ h.inv e
    · exact hb.lt
    · exact hr.lt
    · exact h.dig.blk.lt
    · exact h.dig.tab.lt
  ge := fun k hk => by
    rcases hk with e | rfl | rfl | rfl | rfl
    · exact hs.ge _ e
    all_goals assumption
end Go.Proofs.YtlabcknoooaefaaGreatDoor

/-
  A multiWriter over two digests and a place is a place to write to.
-/
namespace Go.Proofs.YtlabcknoooaefaaGreatDoor
open Go.RowKit
set_option linter.unusedVariables false

def own3 (s : Sk) (mx rx e te d tb : Nat) : Nat → Prop := fun k => s.own k ∨ k = mx ∨ k = rx ∨ k = e ∨ k = te ∨ k = d ∨ k = tb

structure Inv3 (s : Sk) (out0 : List UInt8) (mx rx e te d tb : Nat) (out : List UInt8) (w : World) : Prop where
  inv : s.inv (out0 ++ out) w
  dg8 : D8 e te (crc8 0 out) w
  dig : D16 d tb (crc16 0 out) w
  mul : Multi mx rx [.iface 261 (.pointer (some ⟨e, 0, none⟩)), .iface 241 (.pointer (some ⟨d, 0, none⟩)), .iface s.ty s.val] w
  n1 : ¬ s.own mx
  n2 : ¬ s.own rx
  n3 : ¬ s.own d
  n4 : ¬ s.own tb
  n5 : ¬ s.own e
  n6 : ¬ s.own te

def sk3 (s : Sk) (out0 : List UInt8) (mx rx e te d tb : Nat) : Sk :=
  { own := own3 s mx rx e te d tb, ty := 198, val := .pointer (some ⟨mx, 0, none⟩), cap := s.cap - out0.length, inv := Inv3 s out0 mx rx e te d tb }

theorem D8.step {d tb : Nat} {c : Int} {w : World} (h : D8 d tb c w) (hne : d ≠ tb) (c' : Int) (hc : 0 ≤ c' ∧ c' < 256) (q : Nat) : D8 d tb c' ((w.drewN q).setCell ⟨d, 0, none⟩ (.int .u8 c')) := by
  have h1 := Bk.put (w := w.drewN q) h.blk 0 (.int .u8 c')
  refine ⟨by simpa using h1, ?_, hc⟩
  exact Bk.far (w := w.drewN q) h.tab (p := ⟨d, 0, none⟩) (fun e => hne e.symm) _

set_option maxRecDepth 100000 in
set_option maxHeartbeats 2000000 in
theorem multiWrite3 (s : Sk) (B : Nat) (hs : s.Ok Tryz.prog 429 B) (out0 : List UInt8) (mx rx e te d tb : Nat) (hge : B ≤ e) (hgd : B ≤ d) (out bs : List UInt8) (a : Addr) (n c : Nat) (w : World) (h : Inv3 s out0 mx rx e te d tb out w) (hr : Rd w a bs) (hl : bs.length = n) (hn : 0 < n) (hnc : n ≤ c) (hc : c ≤ 4096) (ha : ¬ own3 s mx rx e te d tb a.block) (hx : (sk3 s out0 mx rx e te d tb).Apart out a.block w) (hB : B ≤ w.heap.size) (hcap : out.length + n ≤ s.cap - out0.length) :
    Calls Tryz.prog 184 #[.pointer (some ⟨mx, 0, none⟩), .slice (some a) n c] w fun ee w' => ee = .returned (.tuple #[.int .i64 (n : Int), .nilIface]) ∧ Inv3 s out0 mx rx e te d tb (out ++ bs) w' ∧ Keep B (own3 s mx rx e te d tb) w w' := by
  have hna : ¬ s.own a.block := fun e => ha (Or.inl e)
  have hx0 : s.Apart (out0 ++ out) a.block w := by
    obtain ⟨w0, j0, j1, j2⟩ := hx
    exact ⟨w0, Inv3.inv j0, j1, fun i o hi hy => j2 i o hi (hy.elim (fun e => Or.inl (Or.inl e)) Or.inr)⟩
  have HX0 := Lib.hid hx0
  clear hx hx0
  have hea : e ≠ a.block := fun x => ha (Or.inr (Or.inr (Or.inr (Or.inl x.symm))))
  have hda : d ≠ a.block := fun x => ha (Or.inr (Or.inr (Or.inr (Or.inr (Or.inr (Or.inl x.symm))))))
  have het : e ≠ te := Bk.ne h.dg8.blk h.dg8.tab (by decide)
  have hdt : d ≠ tb := Bk.ne h.dig.blk h.dig.tab (by decide)
  have hed : e ≠ d := Bk.ne h.dg8.blk h.dig.blk (by decide)
  have hetb : e ≠ tb := Bk.ne h.dg8.blk h.dig.tab (by decide)
  have hdte : d ≠ te := Bk.ne h.dig.blk h.dg8.tab (by decide)
  have hmd := h.mul.ne h.dig.blk (by decide) (by decide)
  have hme := h.mul.ne h.dg8.blk (by decide) (by decide)
  obtain ⟨cap, cur, hb, hrw, hv, hlc, hm⟩ := h.mul
  have d0 := hb.cell 0
  have r0 := (hrw.cell 0).trans (hv 0 _ rfl)
  simp at d0
  have m0 := meth261
  have m1 := meth241
  obtain ⟨fn, rv, m2, e2, hcall⟩ := hs.call
  have HC := Lib.hid hcall
  clear hcall
  have hcr8 := crc8_range (crc8 0 out) h.dg8.rng bs
  have hcr := crc16_range (crc16 0 out) h.dig.rng bs
  go_enter Tryz.func184, Tryz.ntmps184
  go_wp2_with fail
  refine wp_loop_rounds 4 ?_
  rw [rounds_succ]
  go_wp2_with fail
  refine (dWrite8 e te (crc8 0 out) bs a n c _ h.dg8 hr hl hn hnc hc).mono ?_
  rintro ee w1 ⟨rfl, q, hq⟩
  have k1 : Keep B (own3 s mx rx e te d tb) w w1 := by
    subst hq
    exact Keep.setCell (B := B) (S := own3 s mx rx e te d tb) (a := w) (w := w.drewN q) ⟨⟨rfl, rfl, rfl, Nat.le_refl _, fun _ _ => rfl⟩, fun _ _ h _ _ => h⟩ (p := ⟨e, 0, none⟩) hge (Or.inr (Or.inr (Or.inr (Or.inl rfl)))) _
  have f1 : D8 e te (crc8 (crc8 0 out) bs) w1 := hq ▸ h.dg8.step het _ hcr8 q
  have g1 : D16 d tb (crc16 0 out) w1 := hq ▸ ⟨Bk.far (w := w.drewN q) h.dig.blk (p := ⟨e, 0, none⟩) (fun x => hed x.symm) _, Bk.far (w := w.drewN q) h.dig.tab (p := ⟨e, 0, none⟩) (fun x => hetb x.symm) _, h.dig.rng⟩
  have mu1 : Multi mx rx [.iface 261 (.pointer (some ⟨e, 0, none⟩)), .iface 241 (.pointer (some ⟨d, 0, none⟩)), .iface s.ty s.val] w1 := hq ▸ h.mul.far ⟨e, 0, none⟩ hme.1 hme.2 _ q
  have i1 : s.inv (out0 ++ out) w1 := hq ▸ hs.far (w := w.drewN q) (hs.stable _ _ _ h.inv fun _ _ hk _ => hk) h.dg8.blk (by decide) h.n5 0 _
  have x1 : s.Apart (out0 ++ out) a.block w1 := hq ▸ Sk.Apart.far (w := w.drewN q) (HX0.out.on fun _ _ hk _ => hk) h.dg8.blk (by decide) h.n5 0 _
  have X1 := Lib.hid x1
  clear x1
  have rd1 : Rd w1 a bs := hq ▸ Rd.far (w := w.drewN q) hr ⟨e, 0, none⟩ hea _
  have hb1 := hq ▸ Bk.far (w := w.drewN q) hb (p := ⟨e, 0, none⟩) hme.1 (.int .u8 (crc8 (crc8 0 out) bs))
  have hrw1 := hq ▸ Bk.far (w := w.drewN q) hrw (p := ⟨e, 0, none⟩) hme.2 (.int .u8 (crc8 (crc8 0 out) bs))
  have r1 := (hrw1.cell 1).trans (hv 1 _ rfl)
  clear d0 r0 hq
  go_wp2_with fail
  rw [rounds_succ]
  go_wp2_with fail
  refine (dWrite16 d tb (crc16 0 out) bs a n c _ g1 rd1 hl hn hnc hc).mono ?_
  rintro ee w2 ⟨rfl, q2, hq⟩
  have k2 : Keep B (own3 s mx rx e te d tb) w w2 := by
    subst hq
    exact Keep.setCell (B := B) (S := own3 s mx rx e te d tb) (a := w) (w := w1.drewN q2) ⟨⟨k1.below.os, k1.below.tape, k1.below.output, k1.below.size, k1.below.block⟩, k1.blk⟩ (p := ⟨d, 0, none⟩) hgd (Or.inr (Or.inr (Or.inr (Or.inr (Or.inr (Or.inl rfl)))))) _
  have f2 : D8 e te (crc8 (crc8 0 out) bs) w2 := hq ▸ ⟨Bk.far (w := w1.drewN q2) f1.blk (p := ⟨d, 0, none⟩) hed _, Bk.far (w := w1.drewN q2) f1.tab (p := ⟨d, 0, none⟩) (fun x => hdte x.symm) _, f1.rng⟩
  have g2 : D16 d tb (crc16 (crc16 0 out) bs) w2 := hq ▸ g1.step hdt _ hcr q2
  have mu2 : Multi mx rx [.iface 261 (.pointer (some ⟨e, 0, none⟩)), .iface 241 (.pointer (some ⟨d, 0, none⟩)), .iface s.ty s.val] w2 := hq ▸ mu1.far ⟨d, 0, none⟩ hmd.1 hmd.2 _ q2
  have i2 : s.inv (out0 ++ out) w2 := hq ▸ hs.far (w := w1.drewN q2) (hs.stable _ _ _ i1 fun _ _ hk _ => hk) g1.blk (by decide) h.n3 0 _
  have x2 : s.Apart (out0 ++ out) a.block w2 := hq ▸ Sk.Apart.far (w := w1.drewN q2) (X1.out.on fun _ _ hk _ => hk) g1.blk (by decide) h.n3 0 _
  have rd2 : Rd w2 a bs := hq ▸ Rd.far (w := w1.drewN q2) rd1 ⟨d, 0, none⟩ hda _
  have hrw2 := hq ▸ Bk.far (w := w1.drewN q2) hrw1 (p := ⟨d, 0, none⟩) hmd.2 (.int .u16 (crc16 (crc16 0 out) bs))
  have r2 := (hrw2.cell 2).trans (hv 2 _ rfl)
  have z2 : B ≤ w2.heap.size := Nat.le_trans hB k2.below.size
  clear r1 hq hb1 hrw1 f1 g1 mu1 i1 rd1 k1
  go_wp2_with fail
  rw [rounds_succ]
  go_wp2_with fail
  refine (HC.out (out0 ++ out) bs a n c _ i2 rd2 hl hn hnc hc hna x2 z2 (by rw [List.length_append]; omega)).mono ?_
  rintro ee w3 ⟨rfl, i3, k3⟩
  have k4 := k2.trans (k3.mono fun _ => Or.inl)
  have mu3 := mu2.keep k3 h.n1 h.n2
  have f3 : D8 e te (crc8 (crc8 0 out) bs) w3 := ⟨k3.bk f2.blk h.n5 (by decide), k3.bk f2.tab h.n6 (by decide), f2.rng⟩
  have g3 : D16 d tb (crc16 (crc16 0 out) bs) w3 := ⟨k3.bk g2.blk h.n3 (by decide), k3.bk g2.tab h.n4 (by decide), g2.rng⟩
  clear k2 k3 f2 g2 i2 x2 rd2 hrw2 r2
  go_wp2_with fail
  rw [rounds_succ]
  go_wp2_with fail
  go_ret2
  refine ⟨rfl, ⟨by rwa [← List.append_assoc], by rw [crc8_append]; exact f3, by rw [crc16_append]; exact g3, mu3, h.n1, h.n2, h.n3, h.n4, h.n5, h.n6⟩, k4⟩

theorem sk3_ok (s : Sk) (B : Nat) (hs : s.Ok Tryz.prog 429 B) (out0 : List UInt8) (mx rx e te d tb : Nat) (h1 : B ≤ mx) (h2 : B ≤ rx) (h3 : B ≤ e) (h4 : B ≤ te) (h5 : B ≤ d) (h6 : B ≤ tb) : (sk3 s out0 mx rx e te d tb).Ok Tryz.prog 429 B where
  call := ⟨184, .pointer (some ⟨mx, 0, none⟩), meth198 _, fun _ _ => by kernel_rfl, fun out bs a n c w h hr hl hn hnc hc ha hx hB hcap => multiWrite3 s B hs out0 mx rx e te d tb h3 h5 out bs a n c w h hr hl hn hnc hc ha hx hB hcap⟩
  stable := fun out w w' h hk => by
    obtain ⟨i, f, g, m, n1, n2, n3, n4, n5, n6⟩ := h
    refine ⟨hs.stable _ _ _ i fun k o ho hx => hk k o ho (hx.elim (fun x => Or.inl (Or.inl x)) Or.inr), ⟨hk _ _ f.blk (Or.inl (Or.inr (Or.inr (Or.inr (Or.inl rfl))))), hk _ _ f.tab (Or.inl (Or.inr (Or.inr (Or.inr (Or.inr (Or.inl rfl)))))), f.rng⟩, ⟨hk _ _ g.blk (Or.inl (Or.inr (Or.inr (Or.inr (Or.inr (Or.inr (Or.inl rfl))))))), hk _ _ g.tab (Or.inl (Or.inr (Or.inr (Or.inr (Or.inr (Or.inr (Or.inr rfl))))))), g.rng⟩, ?_, n1, n2, n3, n4, n5, n6⟩
    obtain ⟨cap, cur, hb, hr, rest⟩ := m
    exact ⟨cap, cur, hk _ _ hb (Or.inl (Or.inr (Or.inl rfl))), hk _ _ hr (Or.inl (Or.inr (Or.inr (Or.inl rfl)))), rest⟩
  lt := fun out w k h hk => by
    obtain ⟨cap, cur, hb, hr, rest⟩ := h.mul
    rcases hk with x | rfl | rfl | rfl | rfl | rfl | rfl
    · exact hs.lt _ _ _ h.inv x
    · exact hb.lt
    · exact hr.lt
    · exact h.dg8.blk.lt
    · exact h.dg8.tab.lt
    · exact h.dig.blk.lt
    · exact h.dig.tab.lt
  ge := fun k hk => by
    rcases hk with x | rfl | rfl | rfl | rfl | rfl | rfl
    · exact hs.ge _ x
    all_goals assumption
end Go.Proofs.YtlabcknoooaefaaGreatDoor
