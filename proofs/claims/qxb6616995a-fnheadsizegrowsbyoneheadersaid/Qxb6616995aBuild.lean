/-
  zzBuildHeader (9): the map of the names, laid in one new block.
-/
import Derived.Test.Qxb6616995aFacts
namespace Go.Proofs.Qxb6616995a
open Go.RowKit
set_option linter.unusedVariables false

theorem bld_nil (w : World) : w.alloc (.map #[] 0) = w.alloc (blk []) := by simp [blk, ents]

set_option maxHeartbeats 400000 in
theorem build_any (na va : Option Addr) (nc vc : Nat) (ns : List ByteArray) (vs : List Sl) (w : World) (hns : StrsAt w na ns) (hvs : SlsAt w va vs) (hl : ns.length ≤ maxLen) :
    Calls Try.prog 9 #[.slice na ns.length nc, .slice va vs.length vc, .int .i64 0, .int .i64 ns.length] w fun e w' => e = .returned (.map (some w.heap.size)) ∧ w' = w.alloc (blk (bld ns vs ns.length)) := by
  unfold maxLen at hl
  have hmk : ∀ w', (Instr.makeMap 28 none).run Try.prog w' = .ok (.map (some w'.heap.size)) (w'.alloc (.map #[] 0)) := fun w' => run_makeMap_plain w' 28
  go_enter Try.func9, Try.ntmps9
  go_wp2
  go_loopw [10, 11] (fun i x wr => ∃ k : Nat, k ≤ ns.length ∧ i = .int .i64 k ∧ wr = w.alloc (blk (bld ns vs k))) (fun i _ _ => ns.length - (intOf i).toNat)
  case atStart => exact ⟨0, Nat.zero_le _, rfl, bld_nil w⟩
  case round =>
    obtain ⟨k, hk, rfl, rfl⟩ := hrel
    by_cases hlt : k < ns.length
    · obtain ⟨b, off, rfl, hc⟩ := hns k hlt
      obtain ⟨⟨sa, sc, ss⟩, hs⟩ : ∃ s : Sl, vs.getD k Sl.nil = s := ⟨_, rfl⟩
      obtain ⟨nm, hnm⟩ : ∃ s : ByteArray, ns.getD k ByteArray.empty = s := ⟨_, rfl⟩
      have hup : (Instr.mapUpdate 28 (.map (some w.heap.size)) (.string nm) (.slice sa ss.length sc)).run Try.prog (w.alloc (blk (bld ns vs k))) = .ok () (w.alloc (blk (bld ns vs (k + 1)))) := by
        have := run_put_new w (bld ns vs k) nm ⟨sa, sc, ss⟩
        rw [show bld ns vs (k + 1) = put (bld ns vs k) (ns.getD k ByteArray.empty) (vs.getD k Sl.nil) from rfl]
        rw [hs, hnm]
        exact this
      rw [hnm] at hc
      have hlb := World.block_lt_of_cell? w _ hc
      have hcr : (w.alloc (blk (bld ns vs k))).cell? ⟨b, off + k, none⟩ = some (.string nm) := (((Below.refl w.heap.size w).alloc (Nat.le_refl _) _).cell hlb).trans hc
      clear hnm
      by_cases hv : k < vs.length
      · obtain ⟨b2, off2, rfl, hc2, _⟩ := hvs k hv
        rw [hs] at hc2
        have hc2 : w.cell? ⟨b2, off2 + k, none⟩ = some (.slice sa ss.length sc) := hc2
        have hcr2 : (w.alloc (blk (bld ns vs k))).cell? ⟨b2, off2 + k, none⟩ = some (.slice sa ss.length sc) := (((Below.refl w.heap.size w).alloc (Nat.le_refl _) _).cell (World.block_lt_of_cell? w _ hc2)).trans hc2
        clear hs hc hc2
        generalize blk (bld ns vs k) = O1 at *
        go_wp2
        go_roundw
        case rel => exact ⟨k + 1, by omega, by go_num, rfl⟩
        case measure => simp [intOf]; omega
      · have e0 : vs.getD k Sl.nil = Sl.nil := by simp [List.getD_eq_getElem?_getD, Nat.le_of_not_lt hv]
        rw [e0] at hs
        cases hs
        have hup : (Instr.mapUpdate 28 (.map (some w.heap.size)) (.string nm) (.slice none 0 0)).run Try.prog (w.alloc (blk (bld ns vs k))) = .ok () (w.alloc (blk (bld ns vs (k + 1)))) := hup
        clear hc
        generalize blk (bld ns vs k) = O1 at *
        go_wp2
        go_roundw
        case rel => exact ⟨k + 1, by omega, by go_num, rfl⟩
        case measure => simp [intOf]; omega
    · obtain rfl : k = ns.length := by omega
      go_wp2
      go_ret
      exact ⟨rfl, rfl⟩
end Go.Proofs.Qxb6616995a
