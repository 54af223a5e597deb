/-
  THE THIN PACKAGE: streamInfo, precision, code.
-/
import Derived.Test.YtlabcknoooaefaaGreatDoorZGm
import Derived.Test.YtlabcknoooaefaaGreatDoorZRb
import Derived.Laws.IdiomCopy
namespace Go.Proofs.YtlabcknoooaefaaGreatDoor
open Go.RowKit
set_option linter.unusedVariables false

/-- What STREAMINFO tells, as the laws give it. -/
def infoV (rate ch bits nsam : Int) : Array Value := #[.int .i64 16, .int .i64 4096, .int .i64 0, .int .i64 0, .int .i64 rate, .int .i64 ch, .int .i64 bits, .int .u64 nsam, .slice none 0 0]

def infoD (rate ch bits nsam : Int) : InfoD := ⟨16, 4096, 0, 0, rate, ch, bits, nsam, List.replicate 16 0⟩

structure InfoR (rate ch bits nsam : Int) : Prop where
  rate : 0 ≤ rate ∧ rate ≤ 1000000
  ch : 1 ≤ ch ∧ ch ≤ 8
  bits : 8 ≤ bits ∧ bits ≤ 24
  nsam : 0 ≤ nsam ∧ nsam ≤ 2000

theorem infoD_ok {rate ch bits nsam : Int} (h : InfoR rate ch bits nsam) : (infoD rate ch bits nsam).ok := by
  obtain ⟨h1, h2, h3, h4⟩ := h
  constructor <;> simp [infoD] <;> omega

theorem precP (w : World) : Calls Tryz.prog 33 #[.slice none 0 0] w fun e w' => e = .returned (.int .u64 1) ∧ w = w' := by
  go_enter Tryz.func33, Tryz.ntmps33
  go_wp2_with fail
  refine wp_loop_once ?_
  go_wp2_with fail
  go_ret
  exact ⟨rfl, rfl⟩

theorem codeP (w : World) : Calls Tryz.prog 20 #[.nilIface] w fun e w' => e = .returned (.int .i64 0) ∧ w = w' := by
  go_enter Tryz.func20, Tryz.ntmps20
  go_wp2_with fail
  go_ret
  exact ⟨rfl, rfl⟩

set_option maxRecDepth 100000 in
set_option maxHeartbeats 1000000 in
theorem sinfoP {rate ch bits nsam : Int} (h : InfoR rate ch bits nsam) (w : World) :
    Calls Tryz.prog 14 #[.agg (infoV rate ch bits nsam)] w fun e w' => ∃ ib, e = .returned (.pointer (some ⟨ib, 0, none⟩)) ∧ w.heap.size ≤ ib ∧ Bk w' ib 123 (infoD rate ch bits nsam).cells ∧ Below w.heap.size w w' := by
  obtain ⟨h1, h2, h3, h4⟩ := h
  have hcp : ∀ d dl dc W, (Builtin.copy_ #[23, 23] 3 #[.slice d dl dc, .slice none 0 0]).run Tryz.prog W = .ok (goInt 0) W := fun d dl dc W => run_copy_none W 23 23 3 5 d none dl dc 0 0 Tryz.underlying23 (show (Tryz.prog.info? 5).map (·.size) = some 1 by kernel_rfl) (by simp)
  unfold infoV
  go_enter Tryz.func14, Tryz.ntmps14
  go_wp2_with fail
  go_region
  go_wp2_with fail
  go_ret
  refine ⟨_, rfl, Nat.le_succ _, ?_, ?_⟩
  · have e : (infoD rate ch bits nsam).cells = #[.int .u16 16, .int .u16 4096, .int .u32 0, .int .u32 0, .int .u32 rate, .int .u8 ch, .int .u8 bits, .int .u64 nsam, .int .u8 0, .int .u8 0, .int .u8 0, .int .u8 0, .int .u8 0, .int .u8 0, .int .u8 0, .int .u8 0, .int .u8 0, .int .u8 0, .int .u8 0, .int .u8 0, .int .u8 0, .int .u8 0, .int .u8 0, .int .u8 0] := rfl
    rw [e]
    exact Bk.newAt _ 123 _ _ (by simp)
  · exact Below.drew (((Below.refl _ w).alloc (Nat.le_refl _) _).alloc (by simp) _)
end Go.Proofs.YtlabcknoooaefaaGreatDoor
