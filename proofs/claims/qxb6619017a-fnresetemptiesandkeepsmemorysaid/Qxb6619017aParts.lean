/-
  The callees of the law: zzBytes (6), lawCopy (7), lawEqual (19), rbEmptied (11).
-/
import Derived.Test.Qxb6619017aRows
import Derived.WalkKit
import Derived.WalkSpells
import Derived.Outline
import Derived.Below
import Derived.Deep.OwnRows
import Derived.Deep.QuietTactic
import Derived.BigQuiet
import Derived.Laws.CopyOwn
namespace Go.Proofs.Qxb6619017a
open Go.RowKit
set_option linter.unusedVariables false

/-- Some bool was returned. -/
def SomeBool (e : Ending) : Prop := ∃ r : Bool, e = .returned (.bool r)

/-- The bytes of a slice, at a plain address. -/
def BytesAt (w : World) (a : Option Addr) (zs : List Int) : Prop :=
  ∀ i, i < zs.length → ∃ b off, a = some ⟨b, off, none⟩ ∧ w.cell? ⟨b, off + i, none⟩ = some (.int .u8 (zs.getD i 0))

theorem bytesAt_below {w w' : World} {a : Option Addr} {zs : List Int} (h : BytesAt w a zs) (hb : Below w.heap.size w w') : BytesAt w' a zs := fun i hi => by
  obtain ⟨b, off, ha, hc⟩ := h i hi
  exact ⟨b, off, ha, (hb.cell (World.block_lt_of_cell? w _ hc)).trans hc⟩

set_option maxHeartbeats 400000 in
theorem bytes_any (a0 a1 a2 : Option Addr) (n0 n1 n2 c0 c1 c2 : Nat) (w : World) :
    Calls Try.prog 6 #[.slice a0 n0 c0, .slice a1 n1 c1, .slice a2 n2 c2] w fun e w' => SomeBool e ∧ w' = w := by
  go_enter Try.func6, Try.ntmps6
  go_wp2
  all_goals (go_ret; exact ⟨⟨_, rfl⟩, rfl⟩)

theorem info5 : (Try.prog.info? 5).map (fun i => (i.zero, i.size, i.bytes)) = some (some (.int .u8 0), 1, 1) := by kernel_rfl
theorem size5 : (Try.prog.info? 5).map (·.size) = some 1 := by kernel_rfl

def bytesV (zs : List Int) : List Value := zs.map fun z => .int .u8 z

theorem bytesAt_row {w : World} {g : Nat} {zs : List Int} {t : TypeId} (h : w.heap[g]? = some (.cells (bytesV zs).toArray t (0, 0))) : BytesAt w (some ⟨g, 0, none⟩) zs := fun i hi => by
  refine ⟨g, 0, rfl, ?_⟩
  rw [cell_of_row w g (0 + i) _ t _ h]
  simp [bytesV, hi]

/-- copy(c, b) into the row that was made just now. -/
theorem copy_bytes (x : Option Addr) (cap : Nat) (zs : List Int) (w : World) (hss : BytesAt w x zs) :
    ∃ w2, (Builtin.copy_ #[22, 22] 3 #[.slice (some ⟨w.heap.size, 0, none⟩) zs.length zs.length, .slice x zs.length cap]).run Try.prog (w.alloc (.cells (madeCells #[.int .u8 0] zs.length) 5)) = .ok (.int .i64 zs.length) w2 ∧
      w2.heap[w.heap.size]? = some (.cells (bytesV zs).toArray 5 (0, 0)) ∧ Below w.heap.size w w2 ∧ w2.heap.size = w.heap.size + 1 := by
  have hb : Below w.heap.size w (w.alloc (.cells (madeCells #[.int .u8 0] zs.length) 5)) := (Below.refl _ _).alloc (Nat.le_refl _) _
  have hg := heap_alloc_new w (.cells (madeCells #[.int .u8 0] zs.length) 5)
  by_cases h0 : zs.length = 0
  · obtain rfl : zs = [] := List.eq_nil_of_length_eq_zero h0
    refine ⟨_, ?_, hg.trans (by rw [show madeCells #[Value.int .u8 0] ([] : List Int).length = #[] from by apply Array.eq_empty_of_size_eq_zero; simp [size_madeCells]]; rfl), hb, by simp⟩
    rw [run_copy_none (P := Try.prog) _ 22 22 3 5 _ _ _ _ _ _ Try.underlying22 size5 rfl]
    rfl
  · obtain ⟨b, off, rfl, _⟩ := hss 0 (by omega)
    have hrun := run_copy_row (P := Try.prog) (w.alloc (.cells (madeCells #[.int .u8 0] zs.length) 5)) 22 22 3 5 w.heap.size 0 zs.length zs.length ⟨b, off, none⟩ zs.length cap _ 5 (bytesV zs) Try.underlying22 size5 hg (by simp [bytesV])
      (fun j v hj => by
        have hjl : j < zs.length := by
          have := (List.getElem?_eq_some_iff.1 hj).1
          simpa [bytesV] using this
        obtain ⟨b', off', hx, hc⟩ := hss j hjl
        cases hx
        have hbl := World.block_lt_of_cell? w _ hc
        rw [Go.WideShapes.add_plain, hb.cell hbl, hc]
        simp [bytesV, hjl] at hj ⊢
        exact hj)
      (by simp [size_madeCells, bytesV]) (fun v hv => by simp [bytesV] at hv; obtain ⟨s, _, rfl⟩ := hv; rfl)
    rw [show (bytesV zs).length = zs.length by simp [bytesV]] at hrun
    refine ⟨_, hrun, ?_, below_setRow hb (Nat.le_refl _) _, by simp [World.setRow]⟩
    rw [setRow_heap _ _ _ _ 5 (0, 0) hg]
    simp [size_madeCells]

set_option maxHeartbeats 400000 in
theorem copy_nil (w : World) : Calls Try.prog 7 #[.slice none 0 0] w fun e w' => e = .returned (.slice none 0 0) ∧ w' = w := by
  have hne := fun wx => Lib.run_eql_slice_nil (P := Try.prog) wx 22 5 none 0 0 0 0 Try.underlying22
  go_enter Try.func7, Try.ntmps7
  go_wp2
  go_ret
  exact ⟨rfl, rfl⟩

set_option maxHeartbeats 400000 in
theorem copy_some (x : Addr) (cap : Nat) (zs : List Int) (w : World) (h : BytesAt w (some x) zs) (hn : zs.length ≤ 65536) :
    Calls Try.prog 7 #[.slice (some x) zs.length cap] w fun e w' => e = .returned (.slice (some ⟨w.heap.size, 0, none⟩) zs.length zs.length) ∧
      w'.heap[w.heap.size]? = some (.cells (bytesV zs).toArray 5 (0, 0)) ∧ Below w.heap.size w w' ∧ w'.heap.size = w.heap.size + 1 := by
  have hne := fun wx => Lib.run_eql_slice_nil (P := Try.prog) wx 22 5 (some x) zs.length cap 0 0 Try.underlying22
  have hmk := run_make_row' (P := Try.prog) 22 5 (.int .u8 0) 1 Try.underlying22 info5 rfl .i64 .i64 zs.length (by omega) (by omega)
  obtain ⟨w2, hcp, h1, h2, h3⟩ := copy_bytes (some x) cap zs w h
  have HS : Hid (w2.heap[w.heap.size]? = some (.cells (bytesV zs).toArray 5 (0, 0)) ∧ Below w.heap.size w w2 ∧ w2.heap.size = w.heap.size + 1) := ⟨h1, h2, h3⟩
  clear h1 h2 h3 h
  go_enter Try.func7, Try.ntmps7
  go_wp2
  go_ret
  exact ⟨rfl, HS.out⟩

set_option maxHeartbeats 400000 in
theorem equal_any (a b : Option Addr) (ca cb : Nat) (zs : List Int) (w : World) (ha : BytesAt w a zs) (hb : BytesAt w b zs) (hn : zs.length ≤ 65536) :
    Calls Try.prog 19 #[.slice a zs.length ca, .slice b zs.length cb] w fun e w' => e = .returned (.bool true) ∧ ∃ k, w' = w.drewN k := by
  go_enter Try.func19, Try.ntmps19
  go_wp2
  go_loopw [5] (fun i wr => ∃ k m : Nat, k ≤ zs.length ∧ i = .int .i64 k ∧ wr = w.drewN m) (fun i _ => zs.length - (intOf i).toNat)
  case atStart => exact ⟨0, 0, Nat.zero_le _, rfl, rfl⟩
  case round =>
    obtain ⟨k, m, hk, rfl, rfl⟩ := hrel
    by_cases hlt : k < zs.length
    · obtain ⟨b1, o1, rfl, h1⟩ := ha k hlt
      obtain ⟨b2, o2, rfl, h2⟩ := hb k hlt
      have hlt' : (k : Int) < (zs.length : Int) := by omega
      have h0' : (0 : Int) ≤ (k : Int) := by omega
      go_wp2
      go_quiet (fail)
      go_wp2
      go_roundw
      case rel => exact ⟨k + 1, _, by omega, by go_num, rfl⟩
      case measure => simp [intOf]; omega
    · go_wp2
      go_ret
      exact ⟨rfl, _, rfl⟩
end Go.Proofs.Qxb6619017a
