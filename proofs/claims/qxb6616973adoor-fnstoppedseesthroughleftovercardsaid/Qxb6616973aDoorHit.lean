/-
  errors.as (16) where the chain holds the paused error: the target is set.
-/
import Derived.Test.Qxb6616973aDoorAs
namespace Go.Proofs.Qxb6616973aDoor
open Go.RowKit Go.Extern.Stop Go.Stop Go.Extern
set_option linter.unusedVariables false

/-- '*target' is set: behind new blocks alone, one cell has turned. -/
def SetAt (w : World) (t : Nat) (v : Value) (w' : World) : Prop := Below w.heap.size (w.setCell ⟨t, 0, none⟩ v) w'

theorem setCell_block {w w1 : World} {a : Addr} {v : Value} {k : Nat} (h : w1.heap[k]? = w.heap[k]?) : (w1.setCell a v).heap[k]? = (w.setCell a v).heap[k]? := by
  simp only [World.setCell, Array.getElem?_modify, h]
theorem setCell_size (w : World) (a : Addr) (v : Value) : (w.setCell a v).heap.size = w.heap.size := by simp [World.setCell]
theorem SetAt.of_below {w w1 w' : World} {t : Nat} {v : Value} (hb : Below w.heap.size w w1) (h : SetAt w1 t v w') : SetAt w t v w' := by
  have hs := hb.size
  have hs' := h.size
  rw [setCell_size] at hs'
  exact ⟨h.os.trans hb.os, h.tape.trans hb.tape, h.output.trans hb.output, by rw [setCell_size]; omega, fun k hk => (h.block k (by omega)).trans (setCell_block (hb.block k hk))⟩
theorem SetAt.then {w w1 w' : World} {t : Nat} {v : Value} (h : SetAt w t v w1) (hb : Below w1.heap.size w1 w') : SetAt w t v w' := by
  have hs := h.size
  rw [setCell_size] at hs
  exact Below.trans h (hb.mono hs)

theorem setAt_two (w : World) (t : Nat) (v : Value) (A B : Obj) : SetAt w t v (((w.setCell ⟨t, 0, none⟩ v).alloc A).alloc B) := by
  have hs := setCell_size w ⟨t, 0, none⟩ v
  exact ((Below.refl _ _).alloc (by omega) _).alloc (by simp) _

set_option maxHeartbeats 2000000 in
theorem as_hit24 (p t A : Nat) (old : Value) (w : World) (hA : w.cell? ⟨A, 0, none⟩ = some (.pointer (some ⟨t, 0, none⟩))) (ht : w.cell? ⟨t, 0, none⟩ = some old) (hf : w.frozen? ⟨t, 0, none⟩ = false) :
    Calls Tryd.prog 16 #[.iface 24 (.pointer (some ⟨p, 0, none⟩)), .iface 42 (.pointer (some ⟨t, 0, none⟩)), .agg #[.pointer (some ⟨1, 42, none⟩), .pointer (some ⟨A, 0, none⟩), .int .u64 150], .iface 69 (.agg #[.pointer (some ⟨1, 24, none⟩)])] w
      fun ev w' => ev = .returned (.bool true) ∧ SetAt w t (.pointer (some ⟨p, 0, none⟩)) w' := by
  have hAl := World.block_lt_of_cell? w _ hA
  have htl := World.block_lt_of_cell? w _ ht
  simp only at hAl htl
  have h17 := ext17
  have h49 := ext49
  have h18 := ext18
  have h13 := ext13
  have h19 := ext19
  have t24 := typeOf24
  have a24 := asgn24_24
  have v24 := valueOf24
  have m1 := mAssignableTo
  have el := fun o => elemV42 ⟨A, 0, none⟩ ⟨t, 0, none⟩ (w.alloc o) (by rw [World.cell?_alloc_lt _ _ _ hAl]; exact hA)
  have st := fun o => set24 ⟨t, 0, none⟩ ⟨w.heap.size + 1, 0, none⟩ ⟨p, 0, none⟩ old ((w.alloc o).alloc (.cells #[.pointer (some ⟨p, 0, none⟩)] 24)) (by rw [World.cell?_alloc_at _ _ _ _ (by simp)]; rfl)
    (by rw [World.cell?_alloc_lt _ _ _ (by simp; omega), World.cell?_alloc_lt _ _ _ htl]; exact ht) (by rw [World.frozen?_alloc_old _ _ _ (by simp; omega), World.frozen?_alloc_old _ _ _ (Nat.ne_of_lt htl)]; exact hf)
  go_enter Tryd.func16, Tryd.ntmps16
  go_wp2
  refine wp_loop_rounds 1 ?_
  rw [rounds_succ]
  go_wp2
  go_ret
  exact ⟨rfl, setAt_two _ _ _ _ _⟩

set_option maxHeartbeats 2000000 in
theorem as_hit26 (l p t A : Nat) (old : Value) (w : World) (hl : w.cell? ⟨l, 0, none⟩ = some (.iface 24 (.pointer (some ⟨p, 0, none⟩)))) (hA : w.cell? ⟨A, 0, none⟩ = some (.pointer (some ⟨t, 0, none⟩))) (ht : w.cell? ⟨t, 0, none⟩ = some old) (hf : w.frozen? ⟨t, 0, none⟩ = false) :
    Calls Tryd.prog 16 #[.iface 26 (.pointer (some ⟨l, 0, none⟩)), .iface 42 (.pointer (some ⟨t, 0, none⟩)), .agg #[.pointer (some ⟨1, 42, none⟩), .pointer (some ⟨A, 0, none⟩), .int .u64 150], .iface 69 (.agg #[.pointer (some ⟨1, 24, none⟩)])] w
      fun ev w' => ev = .returned (.bool true) ∧ SetAt w t (.pointer (some ⟨p, 0, none⟩)) w' := by
  have hll := World.block_lt_of_cell? w _ hl
  have hAl := World.block_lt_of_cell? w _ hA
  have htl := World.block_lt_of_cell? w _ ht
  simp only at hAl htl hll
  have h17 := ext17
  have h49 := ext49
  have h18 := ext18
  have h13 := ext13
  have h19 := ext19
  have t24 := typeOf24
  have a24 := asgn24_24
  have t26 := typeOf26
  have a26 := asgn26_24
  have v24 := valueOf24
  have m1 := mAssignableTo
  have m3 := mUnwrap26
  have x6 := as74_26
  have x7 := as77_26
  have el := fun o => elemV42 ⟨A, 0, none⟩ ⟨t, 0, none⟩ (w.alloc o) (by rw [World.cell?_alloc_lt _ _ _ hAl]; exact hA)
  have st := fun o => set24 ⟨t, 0, none⟩ ⟨w.heap.size + 1, 0, none⟩ ⟨p, 0, none⟩ old ((w.alloc o).alloc (.cells #[.pointer (some ⟨p, 0, none⟩)] 24)) (by rw [World.cell?_alloc_at _ _ _ _ (by simp)]; rfl)
    (by rw [World.cell?_alloc_lt _ _ _ (by simp; omega), World.cell?_alloc_lt _ _ _ htl]; exact ht) (by rw [World.frozen?_alloc_old _ _ _ (by simp; omega), World.frozen?_alloc_old _ _ _ (Nat.ne_of_lt htl)]; exact hf)
  go_enter Tryd.func16, Tryd.ntmps16
  go_wp2
  refine wp_loop_rounds 2 ?_
  rw [rounds_succ]
  go_wp2_with (first | (go_at_call 8; refine (unwrap8 _ (.iface 24 (.pointer (some ⟨p, 0, none⟩))) _ ?_ (.inr ⟨_, _, rfl⟩) rfl).mono ?_; (rw [World.cell?_alloc_lt _ _ _ hll]; exact hl); rintro ev w1 ⟨rfl, rfl⟩))
  rw [rounds_succ]
  go_wp2
  go_ret
  exact ⟨rfl, setAt_two _ _ _ _ _⟩
end Go.Proofs.Qxb6616973aDoor
