/-
  FnOnlyDeploymentPicksTheOnlyOne (3): the plain law and the walk.
-/
import Derived.Test.Qxb6618605aFmtEnds
import Derived.Laws.CopyOwn
namespace Go.Proofs.Qxb6618605aFmt
open Go.RowKit
set_option linter.unusedVariables false

theorem deps_none (ss : List ByteArray) : ∀ m, (∀ i, i < m → isDep (ss.getD i ByteArray.empty) = false) → deps ss m = []
  | 0, _ => rfl
  | m + 1, h => by
    rw [deps_succ, deps_none ss m (fun i hi => h i (by omega)), if_neg (by rw [h m (by omega)]; simp)]; rfl
theorem deps_one (ss : List ByteArray) (k : Nat) (hk : isDep (ss.getD k ByteArray.empty) = true) : ∀ m, k < m → (∀ i, i < m → i ≠ k → isDep (ss.getD i ByteArray.empty) = false) → deps ss m = [k]
  | 0, h, _ => absurd h (by omega)
  | m + 1, h, ha => by
    by_cases e : k = m
    · subst e
      rw [deps_succ, deps_none ss k (fun i hi => ha i (by omega) (by omega)), if_pos hk]; rfl
    · rw [deps_succ, deps_one ss k hk m (by omega) (fun i hi hne => ha i (by omega) hne), if_neg (by rw [ha m (by omega) (fun h => e h.symm)]; simp)]; rfl
theorem mem_of_dep {ss : List ByteArray} {k m : Nat} (hk : isDep (ss.getD k ByteArray.empty) = true) (h : k < m) : k ∈ deps ss m := by
  unfold deps
  exact List.mem_filter.2 ⟨List.mem_range.2 h, hk⟩

/-- The first and the last place tell the answer. -/
theorem law {ss : List ByteArray} {F L : Int} (hF : IsFirst ss F) (hL : IsLast ss L) :
    (0 ≤ F ∧ F = L ∧ idOf (deps ss ss.length) = F ∧ failedOf (deps ss ss.length) = false) ∨ ((F < 0 ∨ F ≠ L) ∧ idOf (deps ss ss.length) = -1 ∧ failedOf (deps ss ss.length) = true) := by
  rcases hF with ⟨rfl, h1⟩ | ⟨k, rfl, hk, hd, h1⟩
  · right
    rw [deps_none ss _ h1]
    exact ⟨.inl (by omega), rfl, rfl⟩
  · rcases hL with ⟨rfl, h2⟩ | ⟨l, rfl, hl, hdl, h2⟩
    · rw [h2 k hk] at hd; cases hd
    · by_cases e : k = l
      · subst e
        left
        rw [deps_one ss k hd ss.length hk (fun i hi hne => by
          rcases Nat.lt_or_gt_of_ne hne with h | h
          · exact h1 i h
          · exact h2 i h hi)]
        exact ⟨by omega, rfl, rfl, rfl⟩
      · right
        have m1 := mem_of_dep hd hk
        have m2 := mem_of_dep hdl hl
        obtain ⟨h3, h4⟩ := idOf_many (D := deps ss ss.length) (fun i hi => by
          rw [hi] at m1 m2
          simp at m1 m2
          omega)
        exact ⟨.inr (by omega), h3, h4⟩

theorem info9 : (Tryf.prog.info? 9).map (fun i => (i.zero, i.size, i.bytes)) = some (some (.string ⟨#[]⟩), 1, 16) := by kernel_rfl
theorem size9 : (Tryf.prog.info? 9).map (·.size) = some 1 := by kernel_rfl

/-- A row of strings that was laid whole. -/
theorem strsAt_row {w : World} {g : Nat} {ss : List ByteArray} {t : TypeId} (h : w.heap[g]? = some (.cells (ss.map Value.string).toArray t (0, 0))) : StrsAt w (some ⟨g, 0, none⟩) ss := fun i hi => by
  refine ⟨g, 0, rfl, ?_⟩
  rw [cell_of_row w g (0 + i) _ t _ h]
  simp [hi]

theorem splice_all {α : Type} (L cs : List α) (h : L.length = cs.length) : splice L 0 cs = cs := by
  unfold splice
  simp [← h]

/-- copy(zzc, kinds) into the row that was made just now. -/
theorem copy_strs (x : Option Addr) (cap : Nat) (ss : List ByteArray) (w : World) (hss : StrsAt w x ss) :
    ∃ w2, (Builtin.copy_ #[22, 22] 3 #[.slice (some ⟨w.heap.size, 0, none⟩) ss.length ss.length, .slice x ss.length cap]).run Tryf.prog (w.alloc (.cells (madeCells #[.string ⟨#[]⟩] ss.length) 9)) = .ok (.int .i64 ss.length) w2 ∧
      StrsAt w2 (some ⟨w.heap.size, 0, none⟩) ss ∧ Below w.heap.size w w2 := by
  have hb : Below w.heap.size w (w.alloc (.cells (madeCells #[.string ⟨#[]⟩] ss.length) 9)) := (Below.refl _ _).alloc (Nat.le_refl _) _
  by_cases h0 : ss.length = 0
  · refine ⟨_, ?_, fun i hi => absurd hi (by omega), hb⟩
    rw [run_copy_none (P := Tryf.prog) _ 22 22 3 9 _ _ _ _ _ _ Tryf.underlying22 size9 (by rw [h0]; rfl), h0]
    rfl
  · obtain ⟨b, off, rfl, _⟩ := hss 0 (by omega)
    have hg := heap_alloc_new w (.cells (madeCells #[.string ⟨#[]⟩] ss.length) 9)
    have hrun := run_copy_row (P := Tryf.prog) (w.alloc (.cells (madeCells #[.string ⟨#[]⟩] ss.length) 9)) 22 22 3 9 w.heap.size 0 ss.length ss.length ⟨b, off, none⟩ ss.length cap _ 9 (ss.map Value.string) Tryf.underlying22 size9 hg (by simp)
      (fun j v hj => by
        have hjl : j < ss.length := by
          have := (List.getElem?_eq_some_iff.1 hj).1
          simpa using this
        obtain ⟨b', off', hx, hc⟩ := hss j hjl
        cases hx
        have hbl := World.block_lt_of_cell? w _ hc
        rw [Go.WideShapes.add_plain, hb.cell hbl, hc]
        simp [hjl] at hj ⊢
        exact hj)
      (by simp [size_madeCells]) (fun v hv => by simp at hv; obtain ⟨s, _, rfl⟩ := hv; rfl)
    rw [List.length_map] at hrun
    refine ⟨_, hrun, ?_, below_setRow hb (Nat.le_refl _) _⟩
    refine strsAt_row (t := 9) ?_
    rw [setRow_heap _ _ _ _ 9 (0, 0) hg]
    simp [size_madeCells]

set_option maxHeartbeats 800000 in
set_option maxRecDepth 100000 in
theorem walk3 (a : Option Addr) (cap : Nat) (ss : List ByteArray) (w : World) (hss : StrsAt w a ss) (hl : ss.length ≤ maxLen) :
    Calls Tryf.prog 3 #[.slice a ss.length cap] w fun e w' => e = .returned (.bool true) ∧ Below w.heap.size w w' := by
  have hl0 := hl
  unfold maxLen at hl
  have hne := fun wx => run_neq_slice_nil_any (P := Tryf.prog) wx 22 9 a ss.length cap 0 0 Tryf.underlying22
  go_enter Tryf.func3, Tryf.ntmps3
  go_upto_if 18 with (first | (go_at_call 5; refine (bytes5_any a cap ss w hss hl0).mono ?_; rintro e w1 ⟨⟨r, rfl⟩, hw⟩; have hw := hw.symm; subst hw) | (go_at_call 6; refine (fit_any a cap ss _ w hss hl0).mono ?_; rintro e w1 ⟨⟨r2, rfl⟩, hw⟩; have hw := hw.symm; subst hw))
  any_goals (go_ret; exact ⟨rfl, Below.refl _ _⟩)
  have hn : ss.length ≤ 65536 := by omega
  go_cut [0, 3] (fun k _ wx => ∃ a' cap', k = .slice a' ss.length cap' ∧ StrsAt wx a' ss ∧ Below w.heap.size w wx)
  case first =>
    have hmk := run_make_row' (P := Tryf.prog) 22 9 (.string ⟨#[]⟩) 16 Tryf.underlying22 info9 rfl .i64 .i64 ss.length (by omega) (by omega)
    cases a with
    | none =>
      go_wp2
      go_meet
      case rel => exact ⟨_, _, rfl, hss, Below.refl _ _⟩
    | some x =>
      obtain ⟨w2, hcp, hs2, hb2⟩ := copy_strs (some x) cap ss w hss
      have HS : Hid (StrsAt w2 (some ⟨w.heap.size, 0, none⟩) ss) := hs2
      have HB : Hid (Below w.heap.size w w2) := hb2
      clear hs2 hb2
      go_wp2
      go_meet
      case rel => exact ⟨_, _, rfl, HS.out, HB.out⟩
  case rest =>
    obtain ⟨a', cap', rfl, hs2, hb2⟩ := hcut
    clear hss hne
    have HB : Hid (Below w.heap.size w wc) := hb2
    clear hb2
    go_wp2_with (first | (go_at_call 7; refine (ends_any a' cap' ss wc hs2 (by omega)).mono ?_; rintro e w1 ⟨F, L, rfl, hF, hL, hw⟩; have hw := hw.symm; subst hw; have HL : Hid (IsFirst ss F ∧ IsLast ss L) := ⟨hF, hL⟩; clear hF hL))
    rcases law HL.out.1 HL.out.2 with ⟨h0, h1, h2, h3⟩ | ⟨h0, h2, h3⟩
    · subst h1
      refine (of_any a' cap' ss wc hs2 (by omega)).mono ?_
      rintro e w1 ⟨rfl, hb1⟩
      rw [h2, h3]
      clear h2 h3 HL
      go_wp2
      go_ret
      exact ⟨rfl, HB.out.trans (hb1.mono HB.out.size)⟩
    · refine (of_any a' cap' ss wc hs2 (by omega)).mono ?_
      rintro e w1 ⟨rfl, hb1⟩
      rw [h2, h3]
      clear h2 h3 HL
      by_cases hF : F < 0
      · clear h0
        go_wp2
        go_ret
        exact ⟨rfl, HB.out.trans (hb1.mono HB.out.size)⟩
      · have hFL : (F == L) = false := by simp; omega
        clear h0
        go_wp2
        go_ret
        exact ⟨rfl, HB.out.trans (hb1.mono HB.out.size)⟩
end Go.Proofs.Qxb6618605aFmt
