/-
  errors.as (16) at the two targets.
-/
import Derived.Test.Qxb6616973aDoorMeth
namespace Go.Proofs.Qxb6616973aDoor
open Go.RowKit Go.Extern.Stop Go.Stop Go.Extern
set_option linter.unusedVariables false

theorem unwrap38 (a : Addr) (v : Value) (w : World) (hc : w.cell? a = some v) (hv : v = .nilIface ∨ ∃ t x, v = .iface t x) (ha : a.spot = none) : Calls Tryd.prog 38 #[.pointer (some a)] w fun e w' => e = .returned v ∧ w' = w := by
  obtain ⟨b, off, spot⟩ := a
  obtain rfl : spot = none := ha
  go_enter Tryd.func38, Tryd.ntmps38
  go_wp2
  go_ret
  exact ⟨rfl, rfl⟩
theorem unwrap8 (a : Addr) (v : Value) (w : World) (hc : w.cell? a = some v) (hv : v = .nilIface ∨ ∃ t x, v = .iface t x) (ha : a.spot = none) : Calls Tryd.prog 8 #[.pointer (some a)] w fun e w' => e = .returned v ∧ w' = w := by
  obtain ⟨b, off, spot⟩ := a
  obtain rfl : spot = none := ha
  go_enter Tryd.func8, Tryd.ntmps8
  go_wp2
  go_ret
  exact ⟨rfl, rfl⟩

set_option maxHeartbeats 1000000 in
theorem as_miss52 (e : Value) (t A : Addr) (w : World) :
    Calls Tryd.prog 16 #[.iface 52 e, .iface 44 (.pointer (some t)), .agg #[.pointer (some ⟨1, 44, none⟩), .pointer (some A), .int .u64 150], .iface 69 (.agg #[.pointer (some ⟨1, 43, none⟩)])] w
      fun ev w' => ev = .returned (.bool false) ∧ Below w.heap.size w w' := by
  have h17 := ext17
  have h49 := ext49
  have t52 := typeOf52
  have a52 := asgn52_43
  have m1 := mAssignableTo
  have x1 := as74_52
  have x2 := as77_52
  have x3 := as78_52
  go_enter Tryd.func16, Tryd.ntmps16
  go_wp2
  refine wp_loop_rounds 1 ?_
  rw [rounds_succ]
  go_wp2
  go_ret
  exact ⟨rfl, (Below.refl _ _).alloc (Nat.le_refl _) _⟩

set_option maxHeartbeats 2000000 in
theorem as_miss24 (p : Nat) (e : Value) (t A : Addr) (w : World) (hp : w.cell? ⟨p, 0, none⟩ = some (.iface 52 e)) :
    Calls Tryd.prog 16 #[.iface 24 (.pointer (some ⟨p, 0, none⟩)), .iface 44 (.pointer (some t)), .agg #[.pointer (some ⟨1, 44, none⟩), .pointer (some A), .int .u64 150], .iface 69 (.agg #[.pointer (some ⟨1, 43, none⟩)])] w
      fun ev w' => ev = .returned (.bool false) ∧ Below w.heap.size w w' := by
  have hpl := World.block_lt_of_cell? w _ hp
  simp only at hpl
  have h17 := ext17
  have h49 := ext49
  have t52 := typeOf52
  have a52 := asgn52_43
  have t24 := typeOf24
  have a24 := asgn24_43
  have m1 := mAssignableTo
  have m2 := mUnwrap24
  have x1 := as74_52
  have x2 := as77_52
  have x3 := as78_52
  have x4 := as74_24
  have x5 := as77_24
  go_enter Tryd.func16, Tryd.ntmps16
  go_wp2
  refine wp_loop_rounds 2 ?_
  rw [rounds_succ]
  go_wp2_with (first | (go_at_call 38; refine (unwrap38 _ (.iface 52 e) _ ?_ (.inr ⟨_, _, rfl⟩) rfl).mono ?_; (rw [World.cell?_alloc_lt _ _ _ hpl]; exact hp); rintro ev w1 ⟨rfl, rfl⟩))
  rw [rounds_succ]
  go_wp2
  go_ret
  exact ⟨rfl, (Below.refl _ _).alloc (Nat.le_refl _) _⟩

set_option maxHeartbeats 2000000 in
theorem as_miss26 (l p : Nat) (e : Value) (t A : Addr) (w : World) (hl : w.cell? ⟨l, 0, none⟩ = some (.iface 24 (.pointer (some ⟨p, 0, none⟩)))) (hp : w.cell? ⟨p, 0, none⟩ = some (.iface 52 e)) :
    Calls Tryd.prog 16 #[.iface 26 (.pointer (some ⟨l, 0, none⟩)), .iface 44 (.pointer (some t)), .agg #[.pointer (some ⟨1, 44, none⟩), .pointer (some A), .int .u64 150], .iface 69 (.agg #[.pointer (some ⟨1, 43, none⟩)])] w
      fun ev w' => ev = .returned (.bool false) ∧ Below w.heap.size w w' := by
  have hpl := World.block_lt_of_cell? w _ hp
  have hll := World.block_lt_of_cell? w _ hl
  simp only at hpl hll
  have h17 := ext17
  have h49 := ext49
  have t52 := typeOf52
  have a52 := asgn52_43
  have t24 := typeOf24
  have a24 := asgn24_43
  have t26 := typeOf26
  have a26 := asgn26_43
  have m1 := mAssignableTo
  have m2 := mUnwrap24
  have m3 := mUnwrap26
  have x1 := as74_52
  have x2 := as77_52
  have x3 := as78_52
  have x4 := as74_24
  have x5 := as77_24
  have x6 := as74_26
  have x7 := as77_26
  go_enter Tryd.func16, Tryd.ntmps16
  go_wp2
  refine wp_loop_rounds 3 ?_
  rw [rounds_succ]
  go_wp2_with (first | (go_at_call 8; refine (unwrap8 _ (.iface 24 (.pointer (some ⟨p, 0, none⟩))) _ ?_ (.inr ⟨_, _, rfl⟩) rfl).mono ?_; (rw [World.cell?_alloc_lt _ _ _ hll]; exact hl); rintro ev w1 ⟨rfl, rfl⟩))
  rw [rounds_succ]
  go_wp2_with (first | (go_at_call 38; refine (unwrap38 _ (.iface 52 e) _ ?_ (.inr ⟨_, _, rfl⟩) rfl).mono ?_; (rw [World.cell?_alloc_lt _ _ _ hpl]; exact hp); rintro ev w1 ⟨rfl, rfl⟩))
  rw [rounds_succ]
  go_wp2
  go_ret
  exact ⟨rfl, (Below.refl _ _).alloc (Nat.le_refl _) _⟩

end Go.Proofs.Qxb6616973aDoor
