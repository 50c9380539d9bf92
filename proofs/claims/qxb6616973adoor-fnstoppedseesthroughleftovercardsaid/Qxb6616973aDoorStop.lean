/-
  errors.As (12) at the two targets.
-/
import Derived.Test.Qxb6616973aDoorHit
namespace Go.Proofs.Qxb6616973aDoor
open Go.RowKit Go.Extern.Stop Go.Stop Go.Extern
set_option linter.unusedVariables false

set_option maxHeartbeats 2000000 in
theorem As42 (T : TypeId) (x : Value) (t : Nat) (b : Bool) (R : World → Prop) (w : World) (hg : w.cell? ⟨0, 0, none⟩ = some (.iface 69 (.agg #[.pointer (some ⟨1, 29, none⟩)])))
    (hc : ∀ w1, Below w.heap.size w w1 → w1.cell? ⟨w.heap.size, 0, none⟩ = some (.pointer (some ⟨t, 0, none⟩)) →
      Calls Tryd.prog 16 #[.iface T x, .iface 42 (.pointer (some ⟨t, 0, none⟩)), .agg #[.pointer (some ⟨1, 42, none⟩), .pointer (some ⟨w.heap.size, 0, none⟩), .int .u64 150], .iface 69 (.agg #[.pointer (some ⟨1, 24, none⟩)])] w1 fun e w' => e = .returned (.bool b) ∧ R w') :
    Calls Tryd.prog 12 #[.iface T x, .iface 42 (.pointer (some ⟨t, 0, none⟩))] w fun e w' => e = .returned (.bool b) ∧ R w' := by
  have hgl := World.block_lt_of_cell? w _ hg
  simp only at hgl
  have HC : Hid (∀ w1, Below w.heap.size w w1 → w1.cell? ⟨w.heap.size, 0, none⟩ = some (.pointer (some ⟨t, 0, none⟩)) →
      Calls Tryd.prog 16 #[.iface T x, .iface 42 (.pointer (some ⟨t, 0, none⟩)), .agg #[.pointer (some ⟨1, 42, none⟩), .pointer (some ⟨w.heap.size, 0, none⟩), .int .u64 150], .iface 69 (.agg #[.pointer (some ⟨1, 24, none⟩)])] w1 fun e w' => e = .returned (.bool b) ∧ R w') := hc
  clear hc
  have h13 := ext13
  have h14 := ext14
  have h15 := ext15
  have h34 := ext34
  have h51 := ext51
  have h52 := ext52
  have v42 := valueOf42
  have y42 := type42
  have k42 := kind42
  have k24 := kind24
  have e42 := elem42
  have i24 := implements24
  have m2 := mKind
  have m3 := mElem
  have m4 := mImplements
  have n42 := fun o => isNil42 ⟨w.heap.size, 0, none⟩ ⟨t, 0, none⟩ ((w.alloc (.cells #[.pointer (some ⟨t, 0, none⟩)] 42)).alloc o) (by rw [World.cell?_alloc_lt _ _ _ (by simp)]; simp)
  have hg2 : ∀ o o' : Obj, ((w.alloc o).alloc o').cell? ⟨0, 0, none⟩ = some (.iface 69 (.agg #[.pointer (some ⟨1, 29, none⟩)])) := fun o o' => by
    rw [World.cell?_alloc_lt _ _ _ (by simp), World.cell?_alloc_lt _ _ _ hgl]; exact hg
  go_enter Tryd.func12, Tryd.ntmps12
  go_wp2_with (first | (go_at_call 16; refine (HC.out _ ?_ ?_).mono ?_; exact (((Below.refl _ _).alloc (Nat.le_refl _) _).alloc (by simp) _); (rw [World.cell?_alloc_lt _ _ _ (by simp)]; simp); rintro e w1 ⟨rfl, hR⟩))
  go_ret
  exact ⟨rfl, hR⟩

set_option maxHeartbeats 2000000 in
theorem As44 (T : TypeId) (x : Value) (t : Nat) (b : Bool) (R : World → Prop) (w : World) (hg : w.cell? ⟨0, 0, none⟩ = some (.iface 69 (.agg #[.pointer (some ⟨1, 29, none⟩)])))
    (hc : ∀ w1, Below w.heap.size w w1 → w1.cell? ⟨w.heap.size, 0, none⟩ = some (.pointer (some ⟨t, 0, none⟩)) →
      Calls Tryd.prog 16 #[.iface T x, .iface 44 (.pointer (some ⟨t, 0, none⟩)), .agg #[.pointer (some ⟨1, 44, none⟩), .pointer (some ⟨w.heap.size, 0, none⟩), .int .u64 150], .iface 69 (.agg #[.pointer (some ⟨1, 43, none⟩)])] w1 fun e w' => e = .returned (.bool b) ∧ R w') :
    Calls Tryd.prog 12 #[.iface T x, .iface 44 (.pointer (some ⟨t, 0, none⟩))] w fun e w' => e = .returned (.bool b) ∧ R w' := by
  have hgl := World.block_lt_of_cell? w _ hg
  simp only at hgl
  have HC : Hid (∀ w1, Below w.heap.size w w1 → w1.cell? ⟨w.heap.size, 0, none⟩ = some (.pointer (some ⟨t, 0, none⟩)) →
      Calls Tryd.prog 16 #[.iface T x, .iface 44 (.pointer (some ⟨t, 0, none⟩)), .agg #[.pointer (some ⟨1, 44, none⟩), .pointer (some ⟨w.heap.size, 0, none⟩), .int .u64 150], .iface 69 (.agg #[.pointer (some ⟨1, 43, none⟩)])] w1 fun e w' => e = .returned (.bool b) ∧ R w') := hc
  clear hc
  have h13 := ext13
  have h14 := ext14
  have h15 := ext15
  have h34 := ext34
  have h51 := ext51
  have h52 := ext52
  have v42 := valueOf44
  have y42 := type44
  have k42 := kind44
  have k24 := kind43
  have e42 := elem44
  have i24 := implements43
  have m2 := mKind
  have m3 := mElem
  have m4 := mImplements
  have n42 := fun o => isNil44 ⟨w.heap.size, 0, none⟩ ⟨t, 0, none⟩ ((w.alloc (.cells #[.pointer (some ⟨t, 0, none⟩)] 44)).alloc o) (by rw [World.cell?_alloc_lt _ _ _ (by simp)]; simp)
  have hg2 : ∀ o o' : Obj, ((w.alloc o).alloc o').cell? ⟨0, 0, none⟩ = some (.iface 69 (.agg #[.pointer (some ⟨1, 29, none⟩)])) := fun o o' => by
    rw [World.cell?_alloc_lt _ _ _ (by simp), World.cell?_alloc_lt _ _ _ hgl]; exact hg
  go_enter Tryd.func12, Tryd.ntmps12
  go_wp2_with (first | (go_at_call 16; refine (HC.out _ ?_ ?_).mono ?_; exact (((Below.refl _ _).alloc (Nat.le_refl _) _).alloc (by simp) _); (rw [World.cell?_alloc_lt _ _ _ (by simp)]; simp); rintro e w1 ⟨rfl, hR⟩))
  go_ret
  exact ⟨rfl, hR⟩
end Go.Proofs.Qxb6616973aDoor
