/-
  emit (16), ZZemit (10), ZZgotLen (11), ZZdone (12), ZZgotAt (13): their contracts over the recorder in memory.
-/
import Derived.Test.Qxb6618605aYield
namespace Go.Proofs.Qxb6618605a
open Go.RowKit
set_option linter.unusedVariables false
attribute [local go_sem ↓] Go.wp_at_zero Go.wp_at_succ

theorem below1 (w : World) (A : Obj) : Below w.heap.size w (w.alloc A) := (Below.refl _ _).alloc (Nat.le_refl _) _

set_option maxRecDepth 100000 in
set_option maxHeartbeats 400000 in
theorem emit_done (R V D base : Nat) (limit : Int) (v : Value) (n : Nat) (xs : List Value) (p o q : ByteArray) (w : World)
    (h : Rec R V D base limit v n xs true w) :
    Calls Try.prog 16 #[.pointer (some ⟨D, 0, none⟩), .agg #[.string p, .string o, .string q]] w fun e w' => e = .returned (.tuple #[]) ∧
      Rec R V D base limit v n xs true w' ∧ ∀ B, B ≤ R → B ≤ V → B ≤ D → B ≤ base → Below B w w' := by
  have HR : Hid (Rec R V D base limit v n xs true w) := h
  obtain ⟨r0, r1, r2, v0, d0, d1, f1, fd, own, hb, hR, hV, hD, nRV, nRD, nVD⟩ := h
  clear r0 r1 r2 v0 d0 f1 fd own
  have bD := World.block_lt_of_cell? w _ d1
  simp only at bD
  go_enter Try.func16, Try.ntmps16
  go_wp2
  go_end0
  exact ⟨rfl, HR.out.below (below1 _ _), fun B h1 h2 h3 h4 => (below1 _ _).mono (by omega)⟩

set_option maxRecDepth 100000 in
set_option maxHeartbeats 1600000 in
theorem emit_go (R V D base : Nat) (limit : Int) (v : Value) (n : Nat) (xs : List Value) (p o q : ByteArray) (w : World)
    (h : Rec R V D base limit v n xs false w) (hn : n ≤ 65536) :
    Calls Try.prog 16 #[.pointer (some ⟨D, 0, none⟩), .agg #[.string p, .string o, .string q]] w fun e w' => ∃ g cap, e = .returned (.tuple #[]) ∧
      Rec R V D base limit (.slice (some ⟨g, 0, none⟩) (n + 1) cap) (n + 1) (xs ++ [.string p, .string o, .string q]) (!decide ((n : Int) + 1 < limit)) w' ∧ ∀ B, B ≤ R → B ≤ V → B ≤ D → B ≤ base → Below B w w' := by
  have HR : Hid (Rec R V D base limit v n xs false w) := h
  obtain ⟨r0, r1, r2, v0, d0, d1, f1, fd, own, hb, hR, hV, hD, nRV, nRD, nVD⟩ := h
  clear r0 r1 r2 v0 f1 own
  have bD := World.block_lt_of_cell? w _ d1
  simp only at bD
  go_enter Try.func16, Try.ntmps16
  go_wp2_with fail
  go_region_with (first | (go_at_call 15; refine (yield_any R V D base limit v n xs false p o q _ ?_ hn).mono ?_; exact HR.out.below ((below1 _ _).drew); rintro e w1 ⟨g, cap, rfl, hrec, hbel⟩; have HR2 : Hid (Rec R V D base limit (.slice (some ⟨g, 0, none⟩) (n + 1) cap) (n + 1) (xs ++ [.string p, .string o, .string q]) false w1) := hrec; have hd1 := hrec.d1; have hfd := hrec.fd; clear hrec))
  all_goals go_wp2
  all_goals go_end0
  all_goals exact ⟨g, cap, rfl, HR2.out.mark _, fun B h1 h2 h3 h4 => (((below1 w _).mono (by omega)).drew.trans (hbel B h1 h2 h3 h4)).setCell h3 _⟩

set_option maxRecDepth 100000 in
set_option maxHeartbeats 800000 in
theorem zzemit_of (R V D base : Nat) (limit : Int) (v : Value) (n : Nat) (xs : List Value) (done : Bool) (p o q : ByteArray) (w : World) (Q : World → Prop)
    (h : Rec R V D base limit v n xs done w)
    (hc : ∀ w2, Rec R V D base limit v n xs done w2 → Below w.heap.size w w2 → Calls Try.prog 16 #[.pointer (some ⟨D, 0, none⟩), .agg #[.string p, .string o, .string q]] w2 fun e w' => e = .returned (.tuple #[]) ∧ Q w') :
    Calls Try.prog 10 #[.pointer (some ⟨R, 0, none⟩), .agg #[.string p, .string o, .string q]] w fun e w' => e = .returned (.tuple #[]) ∧ Q w' := by
  have HR : Hid (Rec R V D base limit v n xs done w) := h
  have HC : Hid (∀ w2, Rec R V D base limit v n xs done w2 → Below w.heap.size w w2 → Calls Try.prog 16 #[.pointer (some ⟨D, 0, none⟩), .agg #[.string p, .string o, .string q]] w2 fun e w' => e = .returned (.tuple #[]) ∧ Q w') := hc
  clear hc
  obtain ⟨r0, r1, r2, v0, d0, d1, f1, fd, own, hb, hR, hV, hD, nRV, nRD, nVD⟩ := h
  clear r1 r2 v0 d0 d1 f1 fd own
  have bR := World.block_lt_of_cell? w _ r0
  simp only at bR
  go_enter Try.func10, Try.ntmps10
  go_wp2_with fail
  go_region_with (first | (go_at_call 16; refine (HC.out _ ?_ ?_).mono ?_; exact HR.out.below ((below1 _ _).drew); exact (below1 _ _).drew; rintro e w1 ⟨rfl, hq⟩))
  all_goals go_wp2
  all_goals go_end0
  all_goals exact ⟨rfl, hq⟩

/-- One Difference, handed to the recorder: kept as it was once it is done; else it holds one more. -/
theorem zz_done (R V D base : Nat) (limit : Int) (v : Value) (n : Nat) (xs : List Value) (p o q : ByteArray) (w : World)
    (h : Rec R V D base limit v n xs true w) :
    Calls Try.prog 10 #[.pointer (some ⟨R, 0, none⟩), .agg #[.string p, .string o, .string q]] w fun e w' => e = .returned (.tuple #[]) ∧
      (Rec R V D base limit v n xs true w' ∧ ∀ B, B ≤ R → B ≤ V → B ≤ D → B ≤ base → Below B w w') :=
  zzemit_of R V D base limit v n xs true p o q w _ h fun w2 h2 hb2 => (emit_done R V D base limit v n xs p o q w2 h2).mono fun e w' ⟨he, hr, hbel⟩ => ⟨he, hr, fun B h1 h3 h4 h5 => (hb2.mono (by have := h.hb; omega)).trans (hbel B h1 h3 h4 h5)⟩
theorem zz_go (R V D base : Nat) (limit : Int) (v : Value) (n : Nat) (xs : List Value) (p o q : ByteArray) (w : World)
    (h : Rec R V D base limit v n xs false w) (hn : n ≤ 65536) :
    Calls Try.prog 10 #[.pointer (some ⟨R, 0, none⟩), .agg #[.string p, .string o, .string q]] w fun e w' => e = .returned (.tuple #[]) ∧
      ((∃ v', Rec R V D base limit v' (n + 1) (xs ++ [.string p, .string o, .string q]) (!decide ((n : Int) + 1 < limit)) w') ∧ ∀ B, B ≤ R → B ≤ V → B ≤ D → B ≤ base → Below B w w') :=
  zzemit_of R V D base limit v n xs false p o q w _ h fun w2 h2 hb2 => (emit_go R V D base limit v n xs p o q w2 h2 hn).mono fun e w' ⟨g, cap, he, hr, hbel⟩ => ⟨he, ⟨_, hr⟩, fun B h1 h3 h4 h5 => (hb2.mono (by have := h.hb; omega)).trans (hbel B h1 h3 h4 h5)⟩

set_option maxHeartbeats 400000 in
theorem len_any (R V D base : Nat) (limit : Int) (v : Value) (n : Nat) (xs : List Value) (done : Bool) (w : World) (h : Rec R V D base limit v n xs done w) :
    Calls Try.prog 11 #[.pointer (some ⟨R, 0, none⟩)] w fun e w' => e = .returned (.int .i64 n) ∧ w' = w := by
  have hv : ∃ a c, v = .slice a n c := by
    rcases h.own.2 with ⟨h1, h2⟩ | ⟨g, cap, cur, h1, _⟩
    · exact ⟨none, 0, by rw [h1, h2]⟩
    · exact ⟨_, _, h1⟩
  obtain ⟨a, c, rfl⟩ := hv
  have r1 := h.r1
  clear h
  go_enter Try.func11, Try.ntmps11
  go_wp2
  go_ret
  exact ⟨rfl, rfl⟩

set_option maxHeartbeats 400000 in
theorem done_any (R V D base : Nat) (limit : Int) (v : Value) (n : Nat) (xs : List Value) (done : Bool) (w : World) (h : Rec R V D base limit v n xs done w) :
    Calls Try.prog 12 #[.pointer (some ⟨R, 0, none⟩)] w fun e w' => e = .returned (.bool done) ∧ w' = w := by
  have r0 := h.r0
  have d1 := h.d1
  clear h
  go_enter Try.func12, Try.ntmps12
  go_wp2
  go_ret
  exact ⟨rfl, rfl⟩

set_option maxHeartbeats 400000 in
theorem at_any (R V D base : Nat) (limit : Int) (v : Value) (n : Nat) (xs : List Value) (done : Bool) (k : Nat) (p o q : ByteArray) (w : World) (h : Rec R V D base limit v n xs done w) (hk : k < n) (hn : n ≤ 65536)
    (x0 : xs[k * 3]? = some (.string p)) (x1 : xs[k * 3 + 1]? = some (.string o)) (x2 : xs[k * 3 + 2]? = some (.string q)) :
    Calls Try.prog 13 #[.pointer (some ⟨R, 0, none⟩), .int .i64 k] w fun e w' => e = .returned (.agg #[.string p, .string o, .string q]) ∧ Below w.heap.size w w' := by
  have r1 := h.r1
  have own := h.own
  obtain ⟨g, cap, rfl, hg, hgl⟩ := own.form (by omega)
  have c0 := (own.cellAt (k * 3) (by omega)).trans x0
  have c1 := (own.cellAt (k * 3 + 1) (by omega)).trans x1
  have c2 := (own.cellAt (k * 3 + 2) (by omega)).trans x2
  have bR := World.block_lt_of_cell? w _ r1
  simp only at bR
  clear h own x0 x1 x2
  go_enter Try.func13, Try.ntmps13
  go_wp2
  exact bodyPost_ret (v := .agg #[.string p, .string o, .string q]) (by simp [results, Try.results13, go_sem]) rfl ⟨rfl, below1 _ _⟩
end Go.Proofs.Qxb6618605a
