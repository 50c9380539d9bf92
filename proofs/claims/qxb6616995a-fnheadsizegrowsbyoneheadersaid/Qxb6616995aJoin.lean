/-
  strings.Join (12) at the empty separator: how long the result is.
-/
import Derived.Test.Qxb6616995aFacts
namespace Go.Proofs.Qxb6616995a
open Go.RowKit
set_option linter.unusedVariables false

theorem lens_sizes (ss : List ByteArray) : Lib.lens (ss.map (·.data.toList)) = sizes ss := by
  simp only [Lib.lens, sizes, List.map_map]
  congr 1

theorem join_len (a : Option Addr) (cap : Nat) (ss : List ByteArray) (w : World) (h : Sl.At ⟨a, cap, ss⟩ w) (hf : Sl.Fits ⟨a, cap, ss⟩) :
    Calls Try.prog 12 #[.slice a ss.length cap, .string ⟨#[]⟩] w fun e w' => ∃ x : ByteArray, e = .returned (.string x) ∧ x.size = sizes ss ∧ Below w.heap.size w w' := by
  cases ss with
  | nil => exact (Try.strings_Join_none a cap _ w).mono fun e w' ⟨he, hw⟩ => ⟨_, he, rfl, hw ▸ Below.refl _ _⟩
  | cons x r =>
    obtain ⟨b, off, e, hc⟩ := h.1 0 (by simp)
    have e : a = some ⟨b, off, none⟩ := e
    subst e
    have hlen : (Lib.join ((x :: r).map (·.data.toList)) (ByteArray.mk #[]).data.toList).length = sizes (x :: r) := by
      rw [List.map_cons, Lib.join_length, ← List.map_cons (f := fun y : ByteArray => y.data.toList), lens_sizes]
      simp
    have hf1 : (x :: r).length ≤ 1048576 := hf.1
    have hf2 : sizes (x :: r) ≤ 1048576 := hf.2
    have hcp : (x :: r).length ≤ cap := h.2
    refine (Try.strings_Join b off cap (x :: r) ⟨#[]⟩ w (fun j y hy => ?_) (World.block_lt_of_cell? w _ hc) (by omega) hcp (by rw [hlen]; omega)).mono fun e w' ⟨he, hb⟩ => ⟨_, he, ?_, hb⟩
    · obtain ⟨hj, hjy⟩ := List.getElem?_eq_some_iff.1 hy
      obtain ⟨b', off', e', hc'⟩ := h.1 j hj
      cases e'
      have hg : (x :: r).getD j ByteArray.empty = y := by simp [List.getD_eq_getElem?_getD, hy]
      have hc' : w.cell? ⟨b, off + j, none⟩ = some (.string ((x :: r).getD j ByteArray.empty)) := hc'
      rw [hc', hg]
    · rw [← hlen]
      simp [ByteArray.size]
end Go.Proofs.Qxb6616995a
