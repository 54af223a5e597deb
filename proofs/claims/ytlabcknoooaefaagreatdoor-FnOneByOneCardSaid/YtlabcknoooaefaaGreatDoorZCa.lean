/-
  Close: over a bytes.Buffer.
-/
import Derived.Test.YtlabcknoooaefaaGreatDoorZNe
import Derived.Stop.Asserts
namespace Go.Proofs.YtlabcknoooaefaaGreatDoor
open Go.RowKit
set_option linter.unusedVariables false

theorem encCell1 {s : Sk} {e : EncS} {eb : Nat} {w : World} (h : Bk w eb 111 (e.cells s)) : w.cell? ⟨eb, 1, none⟩ = some (.iface s.ty s.val) := by
  rw [h.cell]
  rfl

theorem ta65a (v : Value) (W : World) : (Instr.typeAssert (.iface 65 v) 101 148 true).run Tryz.prog W = .ok (.tuple #[.nilIface, .bool false]) W := run_typeAssert_lacksB Tryz.underlying148 (by kernel_rfl) (by kernel_rfl) v 101 W
theorem ta65b (v : Value) (W : World) : (Instr.typeAssert (.iface 65 v) 101 154 true).run Tryz.prog W = .ok (.tuple #[.nilIface, .bool false]) W := run_typeAssert_lacksB Tryz.underlying154 (by kernel_rfl) (by kernel_rfl) v 101 W
theorem ta87a (a : Addr) (W : World) : (Instr.typeAssert (.iface 87 (.pointer (some a))) 101 148 true).run Tryz.prog W = .ok (.tuple #[.iface 87 (.pointer (some a)), .bool true]) W := by kernel_rfl
theorem ta87b (v : Value) (W : World) : (Instr.typeAssert (.iface 87 v) 101 154 true).run Tryz.prog W = .ok (.tuple #[.nilIface, .bool false]) W := run_typeAssert_lacksB Tryz.underlying154 (by kernel_rfl) (by kernel_rfl) v 101 W

set_option maxRecDepth 100000 in
set_option maxHeartbeats 1000000 in
theorem closeBuf (s : Sk) (e : EncS) (eb b : Nat) (w : World) (h : Bk w eb 111 (e.cells s)) (ht : s.ty = 65) (hv : s.val = .pointer (some ⟨b, 0, none⟩)) :
    Calls Tryz.prog 19 #[.pointer (some ⟨eb, 0, none⟩)] w fun e w' => e = .returned .nilIface ∧ w = w' := by
  have c1 := encCell1 h
  rw [ht, hv] at c1
  have ta := ta65a
  have tb := ta65b
  go_enter Tryz.func19, Tryz.ntmps19
  go_wp2_with fail
  go_ret
  exact ⟨rfl, rfl⟩
end Go.Proofs.YtlabcknoooaefaaGreatDoor
