/-
  md5: leUint32, RotateLeft32: that they give words and turn nothing.
-/
import Derived.Test.YtlabcknoooaefaaGreatDoorProg
import Derived.Test.YtlabcknoooaefaaGreatDoorZNe
import Derived.Deep.QuietTactic
import Derived.BigQuiet
namespace Go.Proofs.YtlabcknoooaefaaGreatDoor
open Go.RowKit
set_option linter.unusedVariables false

theorem word32_range (o : BinOp) (a b : Int) : 0 ≤ bits o .u32 a b ∧ bits o .u32 a b < 4294967296 := by
  unfold bits
  split <;> simp only [IntKind.wrap_u32] <;> omega

set_option maxRecDepth 100000 in
theorem leU32 (xb o n : Nat) (hn : 4 ≤ n ∧ n ≤ 64) (w : World) (hx : ∀ j, j < 4 → ∃ v : Int, w.cell? ⟨xb, o + j, none⟩ = some (.int .u8 v) ∧ 0 ≤ v ∧ v < 256) :
    Calls Tryz.prog 178 #[.slice (some ⟨xb, o, none⟩) n n] w fun e w' => (∃ v : Int, e = .returned (.int .u32 v) ∧ 0 ≤ v ∧ v < 4294967296) ∧ ∃ q, w' = w.drewN q := by
  obtain ⟨v0, c0, r0⟩ := hx 0 (by omega)
  obtain ⟨v1, c1, r1⟩ := hx 1 (by omega)
  obtain ⟨v2, c2, r2⟩ := hx 2 (by omega)
  obtain ⟨v3, c3, r3⟩ := hx 3 (by omega)
  simp only [Nat.add_zero] at c0
  have b0 : (0 : Int) < n := by omega
  have b1 : (1 : Int) < n := by omega
  have b2 : (2 : Int) < n := by omega
  have b3 : (3 : Int) < n := by omega
  go_enter Tryz.func178, Tryz.ntmps178
  go_wp2
  go_quiet (fail)
  go_wp2
  go_ret
  exact ⟨⟨_, rfl, word32_range _ _ _⟩, _, rfl⟩

def isRot (k : Int) : Prop := k = 7 ∨ k = 12 ∨ k = 17 ∨ k = 22 ∨ k = 5 ∨ k = 9 ∨ k = 14 ∨ k = 20 ∨ k = 4 ∨ k = 11 ∨ k = 16 ∨ k = 23 ∨ k = 6 ∨ k = 10 ∨ k = 15 ∨ k = 21

set_option maxRecDepth 100000 in
theorem rotl (x k : Int) (hx : 0 ≤ x ∧ x < 4294967296) (hk : isRot k) (w : World) :
    Calls Tryz.prog 179 #[.int .u32 x, .int .i64 k] w fun e w' => (∃ v : Int, e = .returned (.int .u32 v) ∧ 0 ≤ v ∧ v < 4294967296) ∧ ∃ q, w' = w.drewN q := by
  have e1 : bits .and .u64 7 31 = 7 := by kernel_rfl
  have e2 : bits .and .u64 12 31 = 12 := by kernel_rfl
  have e3 : bits .and .u64 17 31 = 17 := by kernel_rfl
  have e4 : bits .and .u64 22 31 = 22 := by kernel_rfl
  have e5 : bits .and .u64 5 31 = 5 := by kernel_rfl
  have e6 : bits .and .u64 9 31 = 9 := by kernel_rfl
  have e7 : bits .and .u64 14 31 = 14 := by kernel_rfl
  have e8 : bits .and .u64 20 31 = 20 := by kernel_rfl
  have e9 : bits .and .u64 4 31 = 4 := by kernel_rfl
  have e10 : bits .and .u64 11 31 = 11 := by kernel_rfl
  have e11 : bits .and .u64 16 31 = 16 := by kernel_rfl
  have e12 : bits .and .u64 23 31 = 23 := by kernel_rfl
  have e13 : bits .and .u64 6 31 = 6 := by kernel_rfl
  have e14 : bits .and .u64 10 31 = 10 := by kernel_rfl
  have e15 : bits .and .u64 15 31 = 15 := by kernel_rfl
  have e16 : bits .and .u64 21 31 = 21 := by kernel_rfl
  rcases hk with rfl | rfl | rfl | rfl | rfl | rfl | rfl | rfl | rfl | rfl | rfl | rfl | rfl | rfl | rfl | rfl
  all_goals
    go_enter Tryz.func179, Tryz.ntmps179
    go_wp2
    go_ret
    exact ⟨⟨_, rfl, word32_range _ _ _⟩, 0, rfl⟩
end Go.Proofs.YtlabcknoooaefaaGreatDoor
