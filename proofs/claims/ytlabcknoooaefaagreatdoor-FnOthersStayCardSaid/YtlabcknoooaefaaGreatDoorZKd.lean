/-
  md5: Sum.
-/
import Derived.Test.YtlabcknoooaefaaGreatDoorZKc
import Derived.Test.YtlabcknoooaefaaGreatDoorZGm
namespace Go.Proofs.YtlabcknoooaefaaGreatDoor
open Go.RowKit
set_option linter.unusedVariables false

theorem mdOne (m : MdS) : ∀ v ∈ m.cells.toList, v.oneCell' = true := by
  intro v hv
  simp [MdS.cells] at hv
  rcases hv with rfl | rfl | rfl | rfl | ⟨x, _, rfl⟩ | rfl | rfl <;> rfl

theorem mdSize {m : MdS} (h : m.xs.length = 64) : m.cells.size = 70 := by
  simp [MdS.cells, h]

set_option maxRecDepth 100000 in
set_option maxHeartbeats 1000000 in
theorem sumP (md : Nat) (m : MdS) (hm : m.ok) (hf : m.fit) (w : World) (h : Bk w md 170 m.cells) :
    Calls Tryz.prog 171 #[.pointer (some ⟨md, 0, none⟩), .slice none 0 0] w fun e w' => ∃ v xs, e = .returned v ∧ xs.length = 16 ∧ (∀ x ∈ xs, (0 : Int) ≤ x ∧ x < 256) ∧ w'.ownsRow w.heap.size 5 1 v 16 (u8V xs) ∧ Below w.heap.size w w' := by
  obtain ⟨i0, hi, hz0, hz1, hz2'⟩ := info_parts (show (Tryz.prog.info? 5).map (fun i => (i.zero, i.size, i.bytes)) = some (some (.int .u8 0), 1, 1) by kernel_rfl)
  have mlt := h.lt
  have hi70 : (Tryz.prog.info? 170).map (·.size) = some m.cells.size := by
    rw [mdSize hm.xs]
    kernel_rfl
  go_enter Tryz.func171, Tryz.ntmps171
  have h1c : m.cells.all (·.oneCell') = true := by
    rw [Array.all_eq_true']
    intro v hv
    exact mdOne m v (by simpa using hv)
  have hsz70 := mdSize hm.xs
  have HSZ := Lib.hid hsz70
  have HI := Lib.hid hi70
  have H1C := Lib.hid h1c
  clear hsz70 hi70 h1c
  go_wp2_with (first
    | (refine wpList_load_row rfl 170 (.tmp 8) rfl md rfl 170 m.cells (0, 0) _ h Tryz.underlying170 rfl HI.out ?_)
    | (refine wpList_store_row rfl 170 (.tmp 5) (.tmp 9) rfl w.heap.size m.cells rfl rfl 170 _ (heap_alloc_new w _) HI.out (by rw [HSZ.out]; rfl) H1C.out ?_; rw [World.setRow_alloc_new]))
  refine (checkSum w.heap.size m hm hf _ (Bk.new w 170 m.cells)).mono ?_
  rintro e w2 ⟨xs, hxl, hxr, rfl, hb2⟩
  have hB2 := ((Below.refl _ w).alloc (Nat.le_refl _) (.cells m.cells 170)).trans hb2
  have hz2 : w.heap.size ≤ w2.heap.size := hB2.size
  have hlen : (u8V xs).toArray.size = 16 := by simp [u8V, hxl]
  have hi16 : (Tryz.prog.info? 121).map (·.size) = some (u8V xs).toArray.size := by
    rw [hlen]
    kernel_rfl
  have h1u : (u8V xs).toArray.all (·.oneCell') = true := by
    rw [Array.all_eq_true']
    intro v hv
    exact u8V_one xs v (by simpa using hv)
  have RD : Reads (w2.alloc (.cells (u8V xs).toArray 121)) (w2.heap.size + 1) 1 (some ⟨w2.heap.size, 0, none⟩) 16 (u8V xs) := by
    have e := Reads.row (w := w2.alloc (.cells (u8V xs).toArray 121)) (g := w2.heap.size) (t := 121) (xs := u8V xs) ⟨_, Bk.newAt w2 121 _ _ rfl, by simp⟩
    rw [show (u8V xs).length = 16 by simpa using hlen] at e
    simpa using e
  have HL := Lib.hid hlen
  have HI16 := Lib.hid hi16
  have H1U := Lib.hid h1u
  have HRD := Lib.hid RD
  have HXL := Lib.hid hxl
  clear hlen hi16 h1u RD hxl HSZ HI H1C
  go_wp2_with (first
    | (refine wpList_store_row rfl 121 (.tmp 6) (.tmp 10) rfl w2.heap.size (u8V xs).toArray rfl rfl 121 _ (heap_alloc_new w2 _) HI16.out (by rw [HL.out]; rfl) H1U.out ?_; rw [World.setRow_alloc_new])
    | (at_builtin; refine wpList_append_any _ rfl (.tmp 11) (.tmp 12) 23 rfl w.heap.size 5 i0 (.int .u8 0) 1 1 Tryz.underlying23 hi hz0 hz1 hz2' rfl (by decide) (.slice none 0 0) 0 [] rfl (World.ownsRow_nil _ _ _ _) _ (some ⟨w2.heap.size, 0, none⟩) 16 16 (u8V xs) rfl HRD.out (u8V_one xs) (by decide) (by decide) (by simp; omega) ?_; intro v9 w9 hown9 hg9 hat9))
  go_ret
  refine ⟨v9, xs, rfl, HXL.out, hxr, by simpa using hown9, (hB2.alloc hz2 _).grown hg9 (by simp; omega) (fun k hk => by cases hk)⟩
end Go.Proofs.YtlabcknoooaefaaGreatDoor
