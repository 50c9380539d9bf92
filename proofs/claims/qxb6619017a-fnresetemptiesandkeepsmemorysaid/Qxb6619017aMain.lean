/-
  rbEmptied (11), the accessors (8, 9, 10, 18), and the law's own walk (3).
-/
import Derived.Test.Qxb6619017aParts
import Derived.Lib.Builder
namespace Go.Proofs.Qxb6619017a
open Go.RowKit
set_option linter.unusedVariables false

theorem ptr_same (a : Addr) (w : World) : (binOp .neq 47 (.pointer (some a)) (.pointer (some a))).run Try.prog w = .ok (.bool false) w := by
  obtain ⟨i0, hi, _⟩ := info_parts info5
  exact Lib.run_neq_ptr_same (P := Try.prog) w (tp := 47) (te := 5) a Try.underlying47 hi

set_option maxHeartbeats 800000 in
set_option maxRecDepth 100000 in
theorem emptied_any (aS aL aW : Option Addr) (n cL cW : Nat) (zs : List Int) (w : World) (hL : BytesAt w aL zs) (hW : BytesAt w aW zs) (hn : zs.length ≤ 65536) (hn2 : n ≤ 65536) :
    Calls Try.prog 11 #[.slice aS 0 n, .slice aS 0 n, .slice aL zs.length cL, .slice aS n n, .slice aL zs.length cL, .slice aW zs.length cW] w fun e w' => e = .returned (.bool true) ∧ ∃ k, w' = w.drewN k := by
  have e1 := fun wx => Lib.run_eql_slice_nil (P := Try.prog) wx 22 5 aS 0 n 0 0 Try.underlying22
  have e2 := fun wx => Lib.run_eql_slice_nil (P := Try.prog) wx 22 5 aS n n 0 0 Try.underlying22
  have e3 := fun wx => Lib.run_eql_slice_nil (P := Try.prog) wx 22 5 aL zs.length cL 0 0 Try.underlying22
  by_cases h0 : 0 < zs.length
  · obtain ⟨b, off, rfl, hc⟩ := hL 0 h0
    have h0' : (0 : Int) < (zs.length : Int) := by omega
    have hpe := fun wx => ptr_same ⟨b, off, none⟩ wx
    go_enter Try.func11, Try.ntmps11
    go_wp2
    go_quiet (fail)
    go_wp2_with (first | (go_at_call 19; refine (equal_any _ _ _ _ zs _ ?_ ?_ hn).mono ?_; exact hL; exact hW; rintro e w1 ⟨rfl, k, rfl⟩))
    go_ret
    exact ⟨rfl, _, rfl⟩
  · have hd : decide ((0 : Int) < (zs.length : Int)) = false := decide_eq_false (by omega)
    have h0' : ¬ (0 : Int) < (zs.length : Int) := by omega
    go_enter Try.func11, Try.ntmps11
    go_wp2
    go_quiet (fail)
    go_wp2_with (first | (go_at_call 19; refine (equal_any _ _ _ _ zs _ ?_ ?_ hn).mono ?_; exact hL; exact hW; rintro e w1 ⟨rfl, k, rfl⟩))
    go_ret
    exact ⟨rfl, _, rfl⟩

/-- What lawCopy hands back: nil of nil; else a row of its own. -/
def CopyOf (w : World) (B : Nat) (a : Option Addr) (zs : List Int) : Prop :=
  (a = none ∧ zs = []) ∨ ∃ g, a = some ⟨g, 0, none⟩ ∧ B ≤ g ∧ w.heap[g]? = some (.cells (bytesV zs).toArray 5 (0, 0))

theorem CopyOf.below {w w' : World} {B : Nat} {a : Option Addr} {zs : List Int} (h : CopyOf w B a zs) (hb : Below w.heap.size w w') : CopyOf w' B a zs := by
  rcases h with h | ⟨g, h1, h2, h3⟩
  · exact .inl h
  · exact .inr ⟨g, h1, h2, (hb.block g (Array.getElem?_eq_some_iff.1 h3).1).trans h3⟩
theorem CopyOf.bytes {w : World} {B : Nat} {a : Option Addr} {zs : List Int} (h : CopyOf w B a zs) : BytesAt w a zs := by
  rcases h with ⟨_, rfl⟩ | ⟨g, rfl, _, h3⟩
  · exact fun i hi => absurd hi (by simp)
  · exact bytesAt_row h3
theorem CopyOf.lower {w : World} {B B' : Nat} {a : Option Addr} {zs : List Int} (h : CopyOf w B a zs) (hB : B' ≤ B) : CopyOf w B' a zs := by
  rcases h with h | ⟨g, h1, h2, h3⟩
  · exact .inl h
  · exact .inr ⟨g, h1, by omega, h3⟩

theorem copy_any (x : Option Addr) (cap : Nat) (zs : List Int) (w : World) (h : BytesAt w x zs) (hn : zs.length ≤ 65536) (hnil : x = none → cap = 0 ∧ zs = []) :
    Calls Try.prog 7 #[.slice x zs.length cap] w fun e w' => ∃ a, e = .returned (.slice a zs.length zs.length) ∧ CopyOf w' w.heap.size a zs ∧ Below w.heap.size w w' := by
  cases x with
  | none =>
    obtain ⟨rfl, rfl⟩ := hnil rfl
    refine (copy_nil w).mono ?_
    rintro e w' ⟨rfl, rfl⟩
    exact ⟨none, rfl, .inl ⟨rfl, rfl⟩, Below.refl _ _⟩
  | some x =>
    refine (copy_some x cap zs w h hn).mono ?_
    rintro e w' ⟨rfl, h1, h2, _⟩
    exact ⟨_, rfl, .inr ⟨_, rfl, Nat.le_refl _, h1⟩, h2⟩

/-- The record buffer in memory. -/
structure RB (R : Nat) (v0 v1 v2 : Value) (w : World) : Prop where
  c0 : w.cell? ⟨R, 0, none⟩ = some v0
  c1 : w.cell? ⟨R, 1, none⟩ = some v1
  c2 : w.cell? ⟨R, 2, none⟩ = some v2
  f0 : w.frozen? ⟨R, 0, none⟩ = false
  f1 : w.frozen? ⟨R, 1, none⟩ = false

set_option maxHeartbeats 400000 in
theorem fields_any (R : Nat) (v0 v1 v2 : Value) (w : World) (h : RB R v0 v1 v2 w) :
    Calls Try.prog 10 #[.pointer (some ⟨R, 0, none⟩)] w fun e w' => e = .returned (.tuple #[v0, v1, v2]) ∧ ∃ k, w' = w.drewN k := by
  obtain ⟨c0, c1, c2, f0, f1⟩ := h
  clear f0 f1
  go_enter Try.func10, Try.ntmps10
  go_wp2
  go_quiet (fail)
  go_wp2
  go_ret3
  exact ⟨rfl, _, rfl⟩

theorem RB.reset {R : Nat} {v0 v1 v2 : Value} {w : World} (h : RB R v0 v1 v2 w) (u : Value) : RB R u u v2 ((w.setCell ⟨R, 1, none⟩ u).setCell ⟨R, 0, none⟩ u) := by
  obtain ⟨c0, c1, c2, f0, f1⟩ := h
  have n10 : (⟨R, 1, none⟩ : Addr) ≠ ⟨R, 0, none⟩ := by intro e; injection e with e1 e2; omega
  have n01 : (⟨R, 0, none⟩ : Addr) ≠ ⟨R, 1, none⟩ := by intro e; injection e with e1 e2; omega
  have n12 : (⟨R, 1, none⟩ : Addr) ≠ ⟨R, 2, none⟩ := by intro e; injection e with e1 e2; omega
  have n02 : (⟨R, 0, none⟩ : Addr) ≠ ⟨R, 2, none⟩ := by intro e; injection e with e1 e2; omega
  refine ⟨World.cell?_setCell_same _ _ _ (u := v0) ?_, ?_, ?_, ?_, ?_⟩
  · rw [World.cell?_setCell_other _ _ _ _ n10, c0]
  · rw [World.cell?_setCell_other _ _ _ _ n01]; exact World.cell?_setCell_same _ _ _ c1
  · rw [World.cell?_setCell_other _ _ _ _ n02, World.cell?_setCell_other _ _ _ _ n12, c2]
  · simp [f0]
  · simp [f1]

set_option maxHeartbeats 400000 in
theorem reset18 (R : Nat) (v0 : Value) (aS : Option Addr) (n c : Nat) (v2 : Value) (w : World) (h : RB R v0 (.slice aS n c) v2 w) (hS : aS = none → n = 0 ∧ c = 0) (hA : ∀ x, aS = some x → x.spot = none) :
    Calls Try.prog 18 #[.pointer (some ⟨R, 0, none⟩)] w fun e w' => e = .returned (.tuple #[]) ∧ w' = (w.setCell ⟨R, 1, none⟩ (.slice aS 0 c)).setCell ⟨R, 0, none⟩ (.slice aS 0 c) := by
  obtain ⟨c0, c1, c2, f0, f1⟩ := h
  cases aS with
  | none =>
    obtain ⟨rfl, rfl⟩ := hS rfl
    go_enter Try.func18, Try.ntmps18
    go_wp2
    go_end0
    exact ⟨rfl, rfl⟩
  | some x =>
    obtain ⟨b, off, spot⟩ := x
    obtain rfl : spot = none := hA _ rfl
    go_enter Try.func18, Try.ntmps18
    go_wp2
    go_end0
    exact ⟨rfl, rfl⟩

set_option maxHeartbeats 400000 in
theorem reset_any (R : Nat) (v0 : Value) (aS : Option Addr) (n c : Nat) (v2 : Value) (w : World) (h : RB R v0 (.slice aS n c) v2 w) (hS : aS = none → n = 0 ∧ c = 0) (hA : ∀ x, aS = some x → x.spot = none) :
    Calls Try.prog 9 #[.pointer (some ⟨R, 0, none⟩)] w fun e w' => e = .returned (.tuple #[]) ∧ RB R (.slice aS 0 c) (.slice aS 0 c) v2 w' ∧ ∀ B, B ≤ R → Below B w w' ∧ ∀ k, k ≠ R → w'.heap[k]? = w.heap[k]? := by
  have hc := reset18 R v0 aS n c v2 w h hS hA
  have HC : Hid (Calls Try.prog 18 #[.pointer (some ⟨R, 0, none⟩)] w fun e w' => e = .returned (.tuple #[]) ∧ w' = (w.setCell ⟨R, 1, none⟩ (.slice aS 0 c)).setCell ⟨R, 0, none⟩ (.slice aS 0 c)) := hc
  have HR : Hid (RB R v0 (.slice aS n c) v2 w) := h
  clear hc h
  go_enter Try.func9, Try.ntmps9
  go_wp2_with (first | (go_at_call 18; refine HC.out.mono ?_; rintro e w1 ⟨rfl, rfl⟩))
  go_end0
  refine ⟨rfl, HR.out.reset _, fun B hB => ⟨((Below.refl _ _).setCell hB _).setCell hB _, fun k hk => ?_⟩⟩
  rw [Below.heap_setCell _ _ _ _ hk, Below.heap_setCell _ _ _ _ hk]

set_option maxHeartbeats 400000 in
theorem buffer_any (v0 v1 v2 : Value) (w : World) (h0 : ∃ a n c, v0 = .slice a n c) (h1 : ∃ a n c, v1 = .slice a n c) (h2 : ∃ a n c, v2 = .slice a n c) :
    Calls Try.prog 8 #[v0, v1, v2] w fun e w' => e = .returned (.pointer (some ⟨w.heap.size, 0, none⟩)) ∧ RB w.heap.size v0 v1 v2 w' ∧ Below w.heap.size w w' := by
  obtain ⟨a0, n0, c0, rfl⟩ := h0
  obtain ⟨a1, n1, c1, rfl⟩ := h1
  obtain ⟨a2, n2, c2, rfl⟩ := h2
  go_enter Try.func8, Try.ntmps8
  go_wp2
  go_ret
  refine ⟨rfl, ⟨?_, ?_, ?_, ?_, ?_⟩, (Below.refl _ _).alloc (Nat.le_refl _) _⟩
  all_goals (go_simp; done)
end Go.Proofs.Qxb6619017a
