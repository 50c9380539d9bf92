import Derived.Test.Qxb6618605aStr
import Derived.Laws.EntriesVeiled
import Derived.Deep.RegionHeld3
import Derived.Deep.RegionLaw
import Derived.Deep.DeepCutAuto
import Derived.Deep.AppendLies
import Derived.Deep.QuietTactic
import Derived.BigQuiet
import Derived.Deep.DrawnRows
namespace Go.Proofs.Qxb6618605a
open Go.RowKit
set_option linter.unusedVariables false
attribute [local go_sem ↓] Go.wp_at_zero Go.wp_at_succ

/-- The recorder in memory: its struct at R, the captured variable at V, the differ at D; the n Differences that it holds are the cells xs of the row v. -/
structure Rec (R V D base : Nat) (limit : Int) (v : Value) (n : Nat) (xs : List Value) (done : Bool) (w : World) : Prop where
  r0 : w.cell? ⟨R, 0, none⟩ = some (.pointer (some ⟨D, 0, none⟩))
  r1 : w.cell? ⟨R, 1, none⟩ = some v
  r2 : w.cell? ⟨R, 2, none⟩ = some (.int .i64 limit)
  v0 : w.cell? ⟨V, 0, none⟩ = some (.pointer (some ⟨R, 0, none⟩))
  d0 : w.cell? ⟨D, 0, none⟩ = some (.func (.func 15) #[] #[.pointer (some ⟨V, 0, none⟩)])
  d1 : w.cell? ⟨D, 1, none⟩ = some (.bool done)
  f1 : w.frozen? ⟨R, 1, none⟩ = false
  fd : w.frozen? ⟨D, 1, none⟩ = false
  own : w.ownsRow base 33 3 v n xs
  hb : base ≤ w.heap.size
  hR : R < base
  hV : V < base
  hD : D < base
  nRV : R ≠ V
  nRD : R ≠ D
  nVD : V ≠ D

set_option maxHeartbeats 400000 in
theorem new_any (limit : Int) (w : World) :
    Calls Try.prog 9 #[.int .i64 limit] w fun e w' => e = .returned (.pointer (some ⟨w.heap.size, 0, none⟩)) ∧ Rec w.heap.size (w.heap.size + 1) (w.heap.size + 2) (w.heap.size + 3) limit (.slice none 0 0) 0 [] false w' ∧ Below w.heap.size w w' := by
  go_enter Try.func9, Try.ntmps9
  go_wp2
  go_ret
  refine ⟨rfl, ?_, ?_⟩
  · constructor
    case own => exact World.ownsRow_nil _ _ _ _
    all_goals first | omega | (go_simp; done) | (simp; done) | (simp; omega) 
  exact (((Below.refl _ _).alloc (Nat.le_refl _) _).alloc (by simp) _).alloc (by simp; omega) _

theorem news2 (w : World) (A B : Obj) : ((w.alloc A).alloc B).drew.heap[w.heap.size + 1]? = some B := by
  have := heap_alloc_new (w.alloc A) B
  show ((w.alloc A).alloc B).heap[w.heap.size + 1]? = some B
  simpa using this

theorem below2 (w : World) (A B : Obj) : Below w.heap.size w ((w.alloc A).alloc B).drew := (((Below.refl _ _).alloc (Nat.le_refl _) _).alloc (by simp) _).drew
theorem frozen2 (w : World) (A B : Obj) (a : Addr) (h : a.block < w.heap.size) (hf : w.frozen? a = false) : ((w.alloc A).alloc B).drew.frozen? a = false := by
  have hb : Below w.heap.size w ((w.alloc A).alloc B).drew := (((Below.refl _ _).alloc (Nat.le_refl _) _).alloc (by simp) _).drew
  rw [hb.frozen h, hf]

theorem cell2 (w : World) (A B : Obj) (a : Addr) (v : Value) (h : a.block < w.heap.size) (hf : w.cell? a = some v) : ((w.alloc A).alloc B).drew.cell? a = some v := by
  have hb : Below w.heap.size w ((w.alloc A).alloc B).drew := (((Below.refl _ _).alloc (Nat.le_refl _) _).alloc (by simp) _).drew
  rw [hb.cell h, hf]

theorem Try.info33 : (Try.prog.info? 33).map (fun i => (i.zero, i.size, i.bytes)) = some (some (.agg #[.string ByteArray.empty, .string ByteArray.empty, .string ByteArray.empty]), 3, 48) := by kernel_rfl

theorem cell_set_ne (w : World) (a b : Addr) (u : Value) (h : a ≠ b) : (w.setCell a u).cell? b = w.cell? b := World.cell?_setCell_other _ _ _ _ h

/-- The recorder hangs on the heap alone. -/
theorem Rec.heap {R V D base : Nat} {limit : Int} {v : Value} {n : Nat} {xs : List Value} {done : Bool} {w w' : World} (h : Rec R V D base limit v n xs done w) (he : w'.heap = w.heap) : Rec R V D base limit v n xs done w' := by
  obtain ⟨r0, r1, r2, v0, d0, d1, f1, fd, own, hbase, hR, hV, hD, nRV, nRD, nVD⟩ := h
  have hc : ∀ a, w'.cell? a = w.cell? a := fun a => World.cell?_of_block (by rw [he])
  have hf : ∀ a, w'.frozen? a = w.frozen? a := fun a => World.frozen?_of_block (by rw [he])
  refine ⟨by rw [hc, r0], by rw [hc, r1], by rw [hc, r2], by rw [hc, v0], by rw [hc, d0], by rw [hc, d1], by rw [hf, f1], by rw [hf, fd], ?_, by rw [he]; exact hbase, hR, hV, hD, nRV, nRD, nVD⟩
  unfold World.ownsRow at own ⊢
  rw [he]
  exact own

/-- What stands below the heap's size stands. -/
theorem Rec.below {R V D base : Nat} {limit : Int} {v : Value} {n : Nat} {xs : List Value} {done : Bool} {w w' : World} (h : Rec R V D base limit v n xs done w) (hb : Below w.heap.size w w') : Rec R V D base limit v n xs done w' := by
  obtain ⟨r0, r1, r2, v0, d0, d1, f1, fd, own, hbase, hR, hV, hD, nRV, nRD, nVD⟩ := h
  have hc : ∀ X o, X < base → w'.cell? ⟨X, o, none⟩ = w.cell? ⟨X, o, none⟩ := fun X o hX => hb.cell (by simp; omega)
  have hf : ∀ X o, X < base → w'.frozen? ⟨X, o, none⟩ = w.frozen? ⟨X, o, none⟩ := fun X o hX => hb.frozen (by simp; omega)
  have hs := hb.size
  refine ⟨by rw [hc _ _ hR, r0], by rw [hc _ _ hR, r1], by rw [hc _ _ hR, r2], by rw [hc _ _ hV, v0], by rw [hc _ _ hD, d0], by rw [hc _ _ hD, d1], by rw [hf _ _ hR, f1], by rw [hf _ _ hD, fd], ?_, by omega, hR, hV, hD, nRV, nRD, nVD⟩
  exact own.kept (row := none) ⟨hb.os, hb.tape, hb.output, hb.size, fun k hk _ => hb.block k hk⟩ (by cases v.ownBlock <;> simp)

/-- The differ's mark is laid anew. -/
theorem Rec.mark {R V D base : Nat} {limit : Int} {v : Value} {n : Nat} {xs : List Value} {done : Bool} {w : World} (h : Rec R V D base limit v n xs done w) (dn : Bool) : Rec R V D base limit v n xs dn (w.setCell ⟨D, 1, none⟩ (.bool dn)) := by
  obtain ⟨r0, r1, r2, v0, d0, d1, f1, fd, own, hbase, hR, hV, hD, nRV, nRD, nVD⟩ := h
  refine ⟨?_, ?_, ?_, ?_, ?_, World.cell?_setCell_same _ _ _ d1, by rw [World.frozen?_setCell, f1], by rw [World.frozen?_setCell, fd], ownsRow_setCell_below own hD _, by simpa [World.setCell] using hbase, hR, hV, hD, nRV, nRD, nVD⟩
  · rw [cell_set_ne _ _ _ _ (by intro e; injection e with e1 e2; omega), r0]
  · rw [cell_set_ne _ _ _ _ (by intro e; injection e with e1 e2; omega), r1]
  · rw [cell_set_ne _ _ _ _ (by intro e; injection e with e1 e2; omega), r2]
  · rw [cell_set_ne _ _ _ _ (by intro e; injection e with e1 e2; omega), v0]
  · rw [cell_set_ne _ _ _ _ (by intro e; injection e with e1 e2; omega), d0]

/-- One Difference more: what the append and the store into r.got leave. -/
theorem Rec.push {R V D base : Nat} {limit : Int} {v v' : Value} {n n' : Nat} {xs xs' : List Value} {done : Bool} {w w1 w2 : World} (h : Rec R V D base limit v n xs done w)
    (hb : Below w.heap.size w w2) (hgrow : w2.grownBy w1 v.ownBlock) (hown : w1.ownsRow base 33 3 v' n' xs') :
    Rec R V D base limit v' n' xs' done (w1.setCell ⟨R, 1, none⟩ v') ∧ ∀ B, B ≤ R → B ≤ V → B ≤ D → B ≤ base → Below B w (w1.setCell ⟨R, 1, none⟩ v') := by
  obtain ⟨r0, r1, r2, v0, d0, d1, f1, fd, own, hbase, hR, hV, hD, nRV, nRD, nVD⟩ := h
  have hsz := hb.size
  have hsz1 := hgrow.size
  have oX : ∀ X, X < base → some X ≠ v.ownBlock := fun X hX e => by have := own.lt X e.symm; omega
  have c : ∀ X o, X < base → w1.cell? ⟨X, o, none⟩ = w.cell? ⟨X, o, none⟩ := fun X o hX => by
    rw [hgrow.cell_far ⟨X, o, none⟩ (by simp; omega) (oX X hX), hb.cell (by simp; omega)]
  have f : ∀ X o, X < base → w1.frozen? ⟨X, o, none⟩ = w.frozen? ⟨X, o, none⟩ := fun X o hX => by
    rw [hgrow.frozen_far ⟨X, o, none⟩ (by simp; omega) (oX X hX), hb.frozen (by simp; omega)]
  refine ⟨⟨?_, ?_, ?_, ?_, ?_, ?_, ?_, ?_, ownsRow_setCell_below hown hR _, by simp [World.setCell]; omega, hR, hV, hD, nRV, nRD, nVD⟩, fun B h1 h2 h3 h4 => ?_⟩
  · rw [cell_set_ne _ _ _ _ (by simp), c R 0 hR, r0]
  · exact World.cell?_setCell_same _ _ _ (u := v) (by rw [c R 1 hR, r1])
  · rw [cell_set_ne _ _ _ _ (by simp), c R 2 hR, r2]
  · rw [cell_set_ne _ _ _ _ (by intro e; injection e with e1 e2; omega), c V 0 hV, v0]
  · rw [cell_set_ne _ _ _ _ (by intro e; injection e with e1 e2; omega), c D 0 hD, d0]
  · rw [cell_set_ne _ _ _ _ (by intro e; injection e with e1 e2; omega), c D 1 hD, d1]
  · rw [World.frozen?_setCell, f R 1 hR, f1]
  · rw [World.frozen?_setCell, f D 1 hD, fd]
  · exact (((hb.mono (by omega)).grown hgrow (by omega) (fun k e => by have := own.lt k e; omega)).setCell (by simp; omega) _)

end Go.Proofs.Qxb6618605a
