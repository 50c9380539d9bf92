/-
  FnStoppedSeesThroughLeftover (3): the walk.
-/
import Derived.Test.Qxb6616973aDoorMain
namespace Go.Proofs.Qxb6616973aDoor
open Go.RowKit
set_option linter.unusedVariables false

theorem ptr_same (a : Addr) (w : World) : (binOp .neq 24 (.pointer (some a)) (.pointer (some a))).run Tryd.prog w = .ok (.bool false) w := by
  have h : ((Tryd.prog.info? 37).map (·.size)) = some 2 := by kernel_rfl
  obtain ⟨i, hi, _⟩ := Option.map_eq_some_iff.1 h
  exact Lib.run_neq_ptr_same (P := Tryd.prog) w (tp := 24) (te := 37) a Tryd.underlying24 hi

set_option maxHeartbeats 1000000 in
set_option maxRecDepth 100000 in
theorem law (branch msg : ByteArray) (w : World) (hg : w.cell? ⟨0, 0, none⟩ = some (.iface 69 (.agg #[.pointer (some ⟨1, 29, none⟩)]))) :
    Calls Tryd.prog 3 #[.string branch, .string msg] w fun e w' => e = .returned (.bool true) ∧ Below w.heap.size w w' := by
  have hgl := World.block_lt_of_cell? w _ hg
  have HG : Hid (w.cell? ⟨0, 0, none⟩ = some (.iface 69 (.agg #[.pointer (some ⟨1, 29, none⟩)]))) := hg
  clear hg
  have hps := ptr_same
  have hsn := fun wx => Lib.run_eql_slice_nil (P := Tryd.prog) wx 32 9 none 0 0 0 0 Tryd.underlying32
  go_enter Tryd.func3, Tryd.ntmps3
  go_wp2_with (first | (go_at_call 4; refine (bytes_any _ _ _).mono ?_; rintro e w1 ⟨⟨r, rfl⟩, hw⟩; have hw := hw.symm; subst hw) | (go_at_call 5; refine (spend_any _ _ _).mono ?_; rintro e w1 ⟨⟨r, rfl⟩, hw⟩; have hw := hw.symm; subst hw))
  any_goals (go_ret; exact ⟨rfl, Below.refl _ _⟩)
  refine (paused_any branch msg w).mono ?_
  rintro e w1 ⟨rfl, hw1⟩
  have hb1 : Below w.heap.size w w1 := by rw [hw1]; exact ((Below.refl _ _).alloc (Nat.le_refl _) _).alloc (by simp) _
  have hch : Chain (w.heap.size + 1) (.pointer (some ⟨w.heap.size, 0, none⟩)) branch w1 := by
    refine ⟨(hb1.cell hgl).trans HG.out, ?_, ?_⟩
    · rw [hw1, World.cell?_alloc_at _ _ _ _ (by simp)]; rfl
    · rw [hw1, World.cell?_alloc_at _ _ _ _ (by simp)]; rfl
  have HH : Hid (Chain (w.heap.size + 1) (.pointer (some ⟨w.heap.size, 0, none⟩)) branch w1 ∧ Below w.heap.size w w1) := ⟨hch, hb1⟩
  clear hw1 hch hb1
  go_wp2_with fail
  refine (leftover_any _ _ w1).mono ?_
  rintro e w2 ⟨rfl, hw2⟩
  have hb2 : Below w1.heap.size w1 w2 := by rw [hw2]; exact (Below.refl _ _).alloc (Nat.le_refl _) _
  have hl2 : w2.cell? ⟨w1.heap.size, 0, none⟩ = some (.iface 24 (.pointer (some ⟨w.heap.size + 1, 0, none⟩))) := by rw [hw2, World.cell?_alloc_at _ _ _ _ rfl]; rfl
  have HH2 : Hid (Chain (w.heap.size + 1) (.pointer (some ⟨w.heap.size, 0, none⟩)) branch w2 ∧ Below w.heap.size w w2 ∧ w2.cell? ⟨w1.heap.size, 0, none⟩ = some (.iface 24 (.pointer (some ⟨w.heap.size + 1, 0, none⟩)))) :=
    ⟨HH.out.1.below hb2, HH.out.2.trans (hb2.mono HH.out.2.size), hl2⟩
  clear hw2 hb2 hl2 HH
  go_wp2_with fail
  refine (unwrap8 ⟨w1.heap.size, 0, none⟩ _ w2 HH2.out.2.2 (.inr ⟨_, _, rfl⟩) rfl).mono ?_
  rintro e w3 ⟨rfl, hw⟩
  have hw := hw.symm
  subst hw
  go_wp2_with fail
  refine (asPaused_any _ w2).mono ?_
  rintro e w3 ⟨rfl, hw⟩
  have hw := hw.symm
  subst hw
  go_wp2_with fail
  refine (stopped26 w1.heap.size (w.heap.size + 1) _ branch w2 HH2.out.1 HH2.out.2.2).mono ?_
  rintro e w3 ⟨rfl, hb3⟩
  have HH3 : Hid (Chain (w.heap.size + 1) (.pointer (some ⟨w.heap.size, 0, none⟩)) branch w3 ∧ Below w.heap.size w w3) := ⟨HH2.out.1.below hb3, HH2.out.2.1.trans (hb3.mono HH2.out.2.1.size)⟩
  clear hb3 HH2
  go_wp2_with fail
  refine (stopped24 (w.heap.size + 1) _ branch w3 HH3.out.1).mono ?_
  rintro e w4 ⟨rfl, hb4⟩
  have HH4 : Hid (Chain (w.heap.size + 1) (.pointer (some ⟨w.heap.size, 0, none⟩)) branch w4 ∧ Below w.heap.size w w4) := ⟨HH3.out.1.below hb4, HH3.out.2.trans (hb4.mono HH3.out.2.size)⟩
  clear hb4 HH3
  go_wp2_with fail
  refine (stopped24 (w.heap.size + 1) _ branch w4 HH4.out.1).mono ?_
  rintro e w5 ⟨rfl, hb5⟩
  have HH5 : Hid (Below w.heap.size w w5) := HH4.out.2.trans (hb5.mono HH4.out.2.size)
  clear hb5 HH4
  go_wp2
  go_ret
  exact ⟨rfl, HH5.out⟩
end Go.Proofs.Qxb6616973aDoor
