/-
  ZZonlyDeploymentOfKinds (8): it builds the maps and calls OnlyDeployment.
-/
import Derived.Test.Qxb6618605aFmtOnly
import Derived.Deep.OwnRows
import Derived.Deep.QuietTactic
import Derived.BigQuiet
namespace Go.Proofs.Qxb6618605aFmt
open Go.RowKit Go.Extern.Stop Go.Stop Go.Extern
set_option linter.unusedVariables false
attribute [local go_sem] as3_nil as3_some look_none

/-- The elements of a slice of strings, at a plain address. -/
def StrsAt (w : World) (a : Option Addr) (ss : List ByteArray) : Prop :=
  ∀ i, i < ss.length → ∃ b off, a = some ⟨b, off, none⟩ ∧ w.cell? ⟨b, off + i, none⟩ = some (.string (ss.getD i ByteArray.empty))

/-- The index that is handed out, and whether it failed. -/
def idOf : List Nat → Int | [i] => i | _ => -1
def failedOf : List Nat → Bool | [_] => false | _ => true

theorem idOf_many {D : List Nat} (h : ∀ i, D ≠ [i]) : idOf D = -1 ∧ failedOf D = true := by
  match D, h with
  | [], _ => exact ⟨rfl, rfl⟩
  | [i], h => exact absurd rfl (h i)
  | _ :: _ :: _, _ => exact ⟨rfl, rfl⟩

theorem mem_deps {ss : List ByteArray} {k i : Nat} (h : i ∈ deps ss k) : i < k := by
  unfold deps at h
  exact List.mem_range.1 (List.mem_filter.1 h).1

/-- The maps built so far. -/
structure Made (g : Nat) (ss : List ByteArray) (k : Nat) (w : World) : Prop where
  size : w.heap.size = g + 1 + k
  row : w.rowIs g 31 ss.length (fun i => if i < k then .map (some (g + 1 + i)) else .map none)
  maps : ∀ i, i < k → w.heap[g + 1 + i]? = some (.map (ents (ss.getD i ByteArray.empty) i) 2)

theorem Made.step {g k : Nat} {ss : List ByteArray} {w : World} (h : Made g ss k w) (hk : k < ss.length) :
    Made g ss (k + 1) ((w.setCell ⟨g, k, none⟩ (.map (some w.heap.size))).alloc (.map (ents (ss.getD k ByteArray.empty) k) 2)) := by
  obtain ⟨h1, h2, h3⟩ := h
  have hs : (w.setCell ⟨g, k, none⟩ (.map (some w.heap.size))).heap.size = g + 1 + k := by simp [World.setCell, h1]
  refine ⟨by simp [hs]; omega, ?_, fun i hi => ?_⟩
  · refine ((h2.set k _).alloc _).congr fun i hi => ?_
    by_cases e : i = k
    · subst e; simp [h1]
    · by_cases e2 : i < k
      · simp [e, e2, show i < k + 1 by omega]
      · simp [e, e2, show ¬ i < k + 1 by omega]
  · by_cases e : i = k
    · subst e
      have := heap_alloc_new (w.setCell ⟨g, i, none⟩ (.map (some w.heap.size))) (.map (ents (ss.getD i ByteArray.empty) i) 2)
      rw [hs] at this
      exact this
    · rw [Below.heap_alloc _ _ _ (by omega), Below.heap_setCell _ _ _ _ (by simp; omega)]; exact h3 i (by omega)

set_option maxHeartbeats 800000 in
set_option maxRecDepth 100000 in
theorem of_any (a : Option Addr) (cap : Nat) (ss : List ByteArray) (w : World) (hss : StrsAt w a ss) (hn : ss.length ≤ 70000) :
    Calls Tryf.prog 8 #[.slice a ss.length cap] w fun e w' => e = .returned (.tuple #[.int .i64 (idOf (deps ss ss.length)), .bool (failedOf (deps ss ss.length))]) ∧ Below w.heap.size w w' := by
  have hmk := run_make_row' (P := Tryf.prog) 30 31 (.map none) 8 Tryf.underlying30 info31 rfl .i64 .i64 ss.length (by omega) (by omega)
  have hmm := @run_makeMap Tryf.prog
  have i1 := ins1
  have i2 := ins2
  go_enter Tryf.func8, Tryf.ntmps8
  go_wp2
  go_loopw [5, 15] (fun _ i wr => ∃ (k : Nat), k ≤ ss.length ∧ i = .int .i64 k ∧ Made w.heap.size ss k wr ∧ Below w.heap.size w wr) (fun _ i _ => ss.length - (intOf i).toNat)
  case atStart => exact ⟨0, Nat.zero_le _, rfl, ⟨by simp, by simpa using World.rowIs_made w (.map none) ss.length 31, fun i hi => absurd hi (by omega)⟩, (Below.refl _ _).alloc (Nat.le_refl _) _⟩
  case round =>
    obtain ⟨k, hk, rfl, hmade, hb⟩ := hrel
    by_cases hlt : k < ss.length
    · obtain ⟨b, off, rfl, hc⟩ := hss k hlt
      have hbl := World.block_lt_of_cell? w _ hc
      have hcr : wr.cell? ⟨b, off + k, none⟩ = some (.string (ss.getD k ByteArray.empty)) := (hb.cell hbl).trans hc
      have hstep := hmade.step hlt
      rw [show ss.getD k ByteArray.empty = ss[k] by simp [List.getD_eq_getElem?_getD, hlt]] at hstep
      have HS : Hid (Made w.heap.size ss (k + 1) ((wr.setCell ⟨w.heap.size, k, none⟩ (.map (some wr.heap.size))).alloc (.map (ents ss[k] k) 2))) := hstep
      have hsz := hmade.size
      have hrc := hmade.row.cell hlt
      have hrf := hmade.row.frozen k
      have hbl2 : b < wr.heap.size := by simp at hbl; omega
      have hgl : w.heap.size < wr.heap.size := by omega
      clear hstep hmade hc hsz
      go_wp2
      go_roundw
      case rel => exact ⟨k + 1, by omega, by go_num, HS.out, (hb.setCell (Nat.le_refl _) _).alloc (by have := hb.size; simp [World.setCell]; omega) _⟩
      case measure => simp [intOf]; omega
    · obtain rfl : k = ss.length := by omega
      have ho : ObjsAt wr (some ⟨w.heap.size, 0, none⟩) ss (fun i => w.heap.size + 1 + i) := fun i hi => ⟨w.heap.size, 0, rfl, by have := hmade.row.cell hi; simpa [hi] using this, hmade.maps i hi⟩
      have hmaps := hmade.maps
      have HO : Hid (ObjsAt wr (some ⟨w.heap.size, 0, none⟩) ss (fun i => w.heap.size + 1 + i) ∧ ∀ i, i < ss.length → wr.heap[w.heap.size + 1 + i]? = some (.map (ents (ss.getD i ByteArray.empty) i) 2)) := ⟨ho, hmaps⟩
      clear ho hmade hss hmaps i1 i2 hmk hmm
      go_wp2_with fail
      refine (only_any (some ⟨w.heap.size, 0, none⟩) ss.length ss _ _ HO.out.1 hn).mono ?_
      rintro e w1 ⟨⟨r0, r1, rfl, hout⟩, hb1⟩
      have HB1 : Hid (Below w.heap.size w w1) := hb.trans (hb1.mono hb.size)
      rcases hout with ⟨i, hD, rfl, rfl⟩ | ⟨hD, rfl, a1, rfl⟩
      · have hil : i < ss.length := mem_deps (by rw [hD]; simp)
        have hmi := HO.out.2 i hil
        have hl : (Instr.lookup 31 (.map (some (w.heap.size + 1 + i))) (.string ⟨#[122, 122, 105, 100]⟩) false).run Tryf.prog w1 = .ok (.iface 3 (.int .i64 i)) w1 :=
          look_at w1 _ (ss.getD i ByteArray.empty) i _ ((hb1.block _ (Array.getElem?_eq_some_iff.1 hmi).1).trans hmi) (some (1, .iface 3 (.int .i64 i))) rfl
        have HD : Hid (deps ss ss.length = [i]) := hD
        clear hmi hD hb1 hb
        go_wp2
        go_quiet (fail)
        go_wp2
        go_ret2
        exact ⟨by rw [HD.out]; rfl, HB1.out.trans ⟨rfl, rfl, rfl, Nat.le_refl _, fun _ _ => rfl⟩⟩
      · have HD : Hid (∀ i, deps ss ss.length ≠ [i]) := hD
        clear hD hb1 hb
        go_wp2
        go_quiet (fail)
        go_wp2
        go_ret2
        exact ⟨by rw [(idOf_many HD.out).1, (idOf_many HD.out).2]; rfl, HB1.out.trans ⟨rfl, rfl, rfl, Nat.le_refl _, fun _ _ => rfl⟩⟩
end Go.Proofs.Qxb6618605aFmt
