/-
  ZZheadSize (8): at a header that was built, and at none.
-/
import Derived.Test.Qxb6616995aSize
namespace Go.Proofs.Qxb6616995a
open Go.RowKit Go.ChangeMaps
set_option linter.unusedVariables false

theorem run_next_none (w : World) (r : Nat) (ty : TypeId) (hr : w.heap[r]? = some (.mapIter none 0 #[] 0)) : (Instr.next (.pointer (some ⟨r, 0, none⟩)) false ty).run Try.prog w = .ok (.tuple #[.bool false]) w := by
  simp [Instr.next, getObj, Sem.run, hr, Result.andThen]

set_option maxRecDepth 20000 in
set_option maxHeartbeats 800000 in
theorem head_nil (q : Nat) (t : ByteArray) (w : World) (h1 : w.cell? ⟨q, 1, none⟩ = some (.string t)) (h2 : w.cell? ⟨q, 2, none⟩ = some (.map none)) (hT : t.size ≤ 4611686018427387904) :
    Calls Try.prog 11 #[.pointer (some ⟨q, 0, none⟩)] w fun e w' => e = .returned (.int .i64 (t.size : Nat)) ∧ Below w.heap.size w w' := by
  have hrg : (Instr.range 33 (.map none)).run Try.prog w = .ok (.pointer (some ⟨w.heap.size, 0, none⟩)) (w.alloc (.mapIter none 0 #[] 0)) := run_range_nilMap w 33 9 22 Try.underlying33
  have hnx : ∀ ty, (Instr.next (.pointer (some ⟨w.heap.size, 0, none⟩)) false ty).run Try.prog (w.alloc (.mapIter none 0 #[] 0)) = .ok (.tuple #[.bool false]) (w.alloc (.mapIter none 0 #[] 0)) := fun ty => run_next_none _ _ ty (MapKept.heap_alloc w _).1
  go_enter Try.func11, Try.ntmps11
  go_wp2
  go_loopw [3, 4, 5] (fun sz _ _ wr => sz = .int .i64 t.size ∧ wr = w.alloc (.mapIter none 0 #[] 0)) (fun _ _ _ _ => 0)
  case atStart => exact ⟨rfl, rfl⟩
  case round =>
    obtain ⟨rfl, rfl⟩ := hrel
    go_wp2
    go_ret
    exact ⟨rfl, (Below.refl _ _).alloc (Nat.le_refl _) _⟩

set_option maxHeartbeats 800000 in
theorem zz_nil (t : ByteArray) (w : World) (hT : t.size ≤ 4611686018427387904) :
    Calls Try.prog 8 #[.string t, .map none] w fun e w' => e = .returned (.int .i64 (t.size : Nat)) ∧ Below w.heap.size w w' := by
  go_enter Try.func8, Try.ntmps8
  go_wp2_with fail
  refine (head_nil w.heap.size t _ (by simp) (by simp) hT).mono ?_
  rintro e w' ⟨rfl, hb⟩
  have HB : Hid (Below w.heap.size w w') := ((Below.refl w.heap.size w).alloc (Nat.le_refl _) _).trans (hb.mono (by simp))
  clear hb
  go_wp2
  go_ret
  exact ⟨rfl, HB.out⟩

set_option maxHeartbeats 800000 in
theorem zz_any (t : ByteArray) (kvs : List (ByteArray × Sl)) (b : Nat) (w : World)
    (hb : w.heap[b]? = some (blk kvs)) (hat : ∀ p ∈ kvs, p.2.At w) (hfit : ∀ p ∈ kvs, p.2.Fits) (hT : t.size + total kvs ≤ 4611686018427387904) :
    Calls Try.prog 8 #[.string t, .map (some b)] w fun e w' => e = .returned (.int .i64 (t.size + total kvs : Nat)) ∧ Below w.heap.size w w' := by
  have hbl : b < w.heap.size := (Array.getElem?_eq_some_iff.1 hb).1
  have HB : Hid (w.heap[b]? = some (blk kvs)) := hb
  have HAT : Hid (∀ p ∈ kvs, p.2.At w) := hat
  have HF : Hid (∀ p ∈ kvs, p.2.Fits) := hfit
  clear hb hat hfit
  go_enter Try.func8, Try.ntmps8
  go_wp2_with fail
  refine (head_at w.heap.size t kvs b _ (by simp) (by simp) ((Below.heap_alloc w _ b hbl).trans HB.out) (fun p hp => (HAT.out p hp).below ((Below.refl _ _).alloc (Nat.le_refl _) _)) HF.out hT).mono ?_
  rintro e w' ⟨rfl, hb⟩
  have HW : Hid (Below w.heap.size w w') := ((Below.refl w.heap.size w).alloc (Nat.le_refl _) _).trans (hb.mono (by simp))
  clear hb
  go_wp2
  go_ret
  exact ⟨rfl, HW.out⟩
end Go.Proofs.Qxb6616995a
