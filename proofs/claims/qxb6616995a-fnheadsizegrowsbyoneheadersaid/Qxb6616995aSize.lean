/-
  headSize (11) and ZZheadSize (8), walked.
-/
import Derived.Test.Qxb6616995aHead
namespace Go.Proofs.Qxb6616995a
open Go.RowKit Go.ChangeMaps
set_option linter.unusedVariables false

theorem iter_start (w : World) (b : Nat) (n : Nat) : (w.alloc (.mapIter (some b) n #[] n)).heap[w.heap.size]? = some (.mapIter (some b) n #[] n) := (MapKept.heap_alloc w _).1

set_option maxRecDepth 20000 in
set_option maxHeartbeats 800000 in
theorem head_at (q : Nat) (t : ByteArray) (kvs : List (ByteArray × Sl)) (b : Nat) (w : World) (h1 : w.cell? ⟨q, 1, none⟩ = some (.string t)) (h2 : w.cell? ⟨q, 2, none⟩ = some (.map (some b)))
    (hb : w.heap[b]? = some (blk kvs)) (hat : ∀ p ∈ kvs, p.2.At w) (hfit : ∀ p ∈ kvs, p.2.Fits) (hT : t.size + total kvs ≤ 4611686018427387904) :
    Calls Try.prog 11 #[.pointer (some ⟨q, 0, none⟩)] w fun e w' => e = .returned (.int .i64 (t.size + total kvs : Nat)) ∧ Below w.heap.size w w' := by
  have hrg : (Instr.range 33 (.map (some b))).run Try.prog w = .ok (.pointer (some ⟨w.heap.size, 0, none⟩)) (w.alloc (.mapIter (some b) kvs.length #[] kvs.length)) := run_range_map w 33 9 22 b (ents kvs).toArray kvs.length Try.underlying33 hb
  have hbl : b < w.heap.size := (Array.getElem?_eq_some_iff.1 hb).1
  have HB : Hid (w.heap[b]? = some (blk kvs)) := hb
  have HAT : Hid (∀ p ∈ kvs, p.2.At w) := hat
  have HF : Hid (∀ p ∈ kvs, p.2.Fits) := hfit
  clear hb hat hfit
  go_enter Try.func11, Try.ntmps11
  go_wp2
  go_loopw [3, 4, 5] (fun sz _ _ wr => ∃ (seen : Array Nat) (c0 : Nat), sz = .int .i64 (t.size + done kvs seen : Nat) ∧ wr.heap[w.heap.size]? = some (.mapIter (some b) kvs.length seen c0) ∧ kvs.length ≤ c0 ∧ Below w.heap.size w wr) (fun _ _ _ wr => itLeft kvs w.heap.size wr)
  case atStart => exact ⟨#[], kvs.length, by rw [show done kvs #[] = 0 from doneW_none _ _]; rfl, iter_start _ _ _, Nat.le_refl _, (Below.refl _ _).alloc (Nat.le_refl _) _⟩
  case round =>
    obtain ⟨seen, c0, rfl, hr, hc, hbel⟩ := hrel
    have HBB : Hid (Below w.heap.size w wr) := hbel
    have hle := done_le kvs seen
    have hb2 : wr.heap[b]? = some (blk kvs) := (hbel.block b hbl).trans HB.out
    clear hbel hrg
    obtain ⟨y, hy⟩ : ∃ y, y = t.size + done kvs seen := ⟨_, rfl⟩
    rw [← hy]
    have HY : Hid (y = t.size + done kvs seen) := hy
    have hyb0 : y ≤ 4611686018427387904 := by omega
    clear hy
    go_wp2_with (first
      | (at_next; refine wpList_next_hdr _ rfl _ rfl kvs b w.heap.size seen c0 rfl hr hb2 hc ?_ ?_)
      | go_in)
    · intro hd
      go_wp2
      go_ret
      have hy := HY.out
      rw [hd] at hy
      exact ⟨by rw [← hy]; rfl, HBB.out⟩
    · intro k sa sc ss seen' w1 hmem hd hr1 hb1 hs1 hlt hen
      have hle' := done_le kvs seen'
      have hbw : Below w.heap.size w w1 := HBB.out.trans hb1
      have HA : Hid (Sl.At ⟨sa, sc, ss⟩ w1) := (HAT.out _ hmem).below hbw
      have HF1 : Hid (Sl.Fits ⟨sa, sc, ss⟩) := HF.out _ hmem
      have HM : Hid (itLeft kvs w.heap.size w1 < itLeft kvs w.heap.size wr) := hlt
      have HD : Hid (y + (k.size + sizes ss) = t.size + done kvs seen') := by have := HY.out; unfold Hid; omega
      have hyb : y + (k.size + sizes ss) ≤ 4611686018427387904 := by have := HD.out; omega
      have HW : Hid (Below w.heap.size w w1) := hbw
      have HR : Hid (w1.heap[w.heap.size]? = some (.mapIter (some b) kvs.length seen' kvs.length)) := hr1
      have hsz : w.heap.size < w1.heap.size := (Array.getElem?_eq_some_iff.1 hr1).1
      clear hmem hlt hd hle hle' hr1 hb1 hr hb2 hbw hs1 HBB
      go_wp2_with (first | (go_at_call 12; refine (join_len sa sc ss w1 HA.out HF1.out).mono ?_; rintro e w2 ⟨x, rfl, hx, hb3⟩) | go_in)
      have hr2 : w2.heap[w.heap.size]? = some (.mapIter (some b) kvs.length seen' kvs.length) := (hb3.block _ hsz).trans HR.out
      have hm2 : itLeft kvs w.heap.size w2 = itLeft kvs w.heap.size w1 := by simp only [itLeft, hr2, HR.out]
      go_roundw
      case rel => exact ⟨seen', kvs.length, by have := HD.out; rw [← this, ← hx]; go_num, hr2, Nat.le_refl _, HW.out.trans (hb3.mono (Nat.le_of_lt hsz))⟩
      case measure => have := HM.out; rw [hm2]; exact this
end Go.Proofs.Qxb6616995a
