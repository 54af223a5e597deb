/-
  A bytes.Buffer IS A PLACE TO WRITE TO.
-/
import Derived.Test.YtlabcknoooaefaaGreatDoorZShelf
import Derived.Test.YtlabcknoooaefaaGreatDoorZGn
namespace Go.Proofs.YtlabcknoooaefaaGreatDoor
open Go.RowKit
set_option linter.unusedVariables false

theorem others_keep {B b : Nat} {w w' : World} (hb : Below B w w') (h : Lib.OthersKept 5 (some b) w w') : Keep B (fun k => k = b) w w' :=
  ⟨hb, fun k o hk hn hx => h k o hk (by simpa using hn) (fun c fz e => hx ⟨c, fz, e⟩)⟩

theorem meth65 (a : Addr) (w : World) : (method 429 65 (.pointer (some a)) "Write").run Tryz.prog w = .ok (152, .pointer (some a)) w := by kernel_rfl

def skBuf (B b : Nat) : Sk :=
  { own := fun k => k = b, ty := 65, val := .pointer (some ⟨b, 0, none⟩), cap := 140737488355328, inv := fun out w => Lib.IsBuffer 59 5 B b (bytesV out) w }

theorem skBuf_ok (B b : Nat) (hBb : B ≤ b) : (skBuf B b).Ok Tryz.prog 429 B where
  call := ⟨152, .pointer (some ⟨b, 0, none⟩), meth65 _, fun _ _ => by kernel_rfl, fun out bs a n c w h hr hl hn hnc hc ha _ hB hcap => by
    have hlen : (bytesV out).length + n ≤ 140737488355328 := by rw [bytesV_len]; exact hcap
    have hsrc : ∀ j v, (bytesV bs)[j]? = some v → w.cell? (a.add j) = some v := by
      intro j v hj
      obtain ⟨x, hx, rfl⟩ := bytesV_get bs j v hj
      exact hr j x hx
    refine (Tryz.Buffer_Write_any B b (bytesV out) (bytesV bs) a n c w h hB (bytesV_one _) (by rw [bytesV_len]; exact hl) ha hsrc (bytesV_one _) hlen).mono ?_
    rintro e w' ⟨rfl, h1, h2, h3⟩
    rw [← bytesV_append] at h1
    exact ⟨rfl, h1, others_keep h2 h3⟩⟩
  stable := fun out w w' h hk => by
    obtain ⟨hB, v, lr, hb, hr, hv⟩ := h
    refine ⟨hB, v, lr, hk _ _ hb (Or.inl rfl), ownsRow_stay hr fun k o ho hv => hk k o ho (Or.inr ?_), hv⟩
    obtain ⟨cur, hc⟩ := ownsRow_block hr hv
    unfold Bk at hc
    rw [hc] at ho
    injection ho with ho
    exact ⟨_, _, ho.symm⟩
  lt := fun out w k h hk => by
    subst hk
    exact Lib.IsBuffer.lt h
  ge := fun k hk => by subst hk; exact hBb

/-- Bytes, handed out: the row itself. -/
theorem bufBytes (B b : Nat) (l : List UInt8) (w : World) (h : (skBuf B b).inv l w) :
    Calls Tryz.prog 18 #[.pointer (some ⟨b, 0, none⟩)] w fun e w' => ∃ v, e = .returned v ∧ w'.ownsRow B 5 1 v l.length (bytesV l) ∧ ∃ q, w' = w.drewN q := by
  refine (Tryz.Buffer_Bytes B b (bytesV l) w h).mono ?_
  rintro e w' ⟨v, rfl, h1, h2⟩
  rw [bytesV_len] at h1
  exact ⟨v, rfl, h1, h2⟩
end Go.Proofs.YtlabcknoooaefaaGreatDoor
