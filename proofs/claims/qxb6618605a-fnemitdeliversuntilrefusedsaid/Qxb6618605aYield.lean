/-
  The recorder's yield (15): it appends the Difference to r.got and answers whether it takes more.
-/
import Derived.Test.Qxb6618605aRec
namespace Go.Proofs.Qxb6618605a
open Go.RowKit
set_option linter.unusedVariables false
attribute [local go_sem ↓] Go.wp_at_zero Go.wp_at_succ

set_option maxRecDepth 100000 in
set_option maxHeartbeats 1600000 in
theorem yield_any (R V D base : Nat) (limit : Int) (v : Value) (n : Nat) (xs : List Value) (done : Bool) (p o q : ByteArray) (w : World)
    (h : Rec R V D base limit v n xs done w) (hn : n ≤ 65536) :
    Calls Try.prog 15 #[.agg #[.string p, .string o, .string q], .pointer (some ⟨V, 0, none⟩)] w fun e w' => ∃ g cap, e = .returned (.bool (decide ((n : Int) + 1 < limit))) ∧
      Rec R V D base limit (.slice (some ⟨g, 0, none⟩) (n + 1) cap) (n + 1) (xs ++ [.string p, .string o, .string q]) done w' ∧ ∀ B, B ≤ R → B ≤ V → B ≤ D → B ≤ base → Below B w w' := by
  obtain ⟨i0, hi0, hz0, hz1, hz2⟩ := info_parts Try.info33
  have HR : Hid (Rec R V D base limit v n xs done w) := h
  obtain ⟨r0, r1, r2, v0, d0, d1, f1, fd, own, hb, hR, hV, hD, nRV, nRD, nVD⟩ := h
  have bR := World.block_lt_of_cell? w _ r0
  have bV := World.block_lt_of_cell? w _ v0
  have oR : v.ownBlock ≠ some R := fun e => by have := own.lt _ e; omega
  have oV : v.ownBlock ≠ some V := fun e => by have := own.lt _ e; omega
  simp only at bR bV
  clear d0 d1 fd r0 r2
  go_enter Try.func15, Try.ntmps15
  go_upto_region 1 with fail
  go_cut [3] (fun c wx => c = .bool false ∧ ∃ gg cap, Rec R V D base limit (.slice (some ⟨gg, 0, none⟩) (n + 1) cap) (n + 1) (xs ++ [.string p, .string o, .string q]) done wx ∧ ∀ B, B ≤ R → B ≤ V → B ≤ D → B ≤ base → Below B w wx)
  case first =>
    go_region_law ((refine step_append_lies _ (by rfl) _ _ _ (by rfl) base 33 i0 _ 3 48 Try.underlying41 hi0 hz0 hz1 hz2 rfl (by omega) v n xs (by rfl) (((own.alloc _).alloc _).drew) ⟨w.heap.size + 1, 0, none⟩ 1 1 [.string p, .string o, .string q] (by rfl) (by rfl) (World.news_of_block (cs := #[.string p, .string o, .string q]) (t := 33) (fr := (0, 0)) (news2 w _ _)) (by simp [Value.oneCell']) (by omega) (by unfold maxLen; omega) (by omega) (by simp; omega) (w.heap.size + 2) (by simp) ?_; intro gg cap w1 hown1 hgrow hat hlt; have hz : w1.frozen? ⟨R, 1, none⟩ = false := (by rw [hgrow.frozen_far _ (by simp; omega) (Ne.symm oR)]; exact frozen2 w _ _ _ (by simp; omega) f1); have hc : w1.cell? ⟨R, 1, none⟩ = some v := (by rw [hgrow.cell_far _ (by simp; omega) (Ne.symm oR)]; exact cell2 w _ _ _ _ (by simp; omega) r1); have hcv : w1.cell? ⟨V, 0, none⟩ = some (.pointer (some ⟨R, 0, none⟩)) := (by rw [hgrow.cell_far _ (by simp; omega) (Ne.symm oV)]; exact cell2 w _ _ _ _ (by simp; omega) v0)))
    all_goals
      have PU := HR.out.push (below2 w _ _) hgrow hown1
      go_wp2_with fail
      go_meet
      case rel => exact ⟨rfl, gg, cap, PU.1, PU.2⟩
  case rest =>
    obtain ⟨rfl, gg, cap, hrec, hbel⟩ := hcut
    have HR2 : Hid (Rec R V D base limit (.slice (some ⟨gg, 0, none⟩) (n + 1) cap) (n + 1) (xs ++ [.string p, .string o, .string q]) done wc) := hrec
    obtain ⟨r0, r1, r2, v0, d0, d1, f1, fd, own, hb, hR, hV, hD, nRV, nRD, nVD⟩ := hrec
    clear d0 d1 fd r0 f1
    go_wp2
    go_quiet (fail)
    go_wp2
    go_ret
    exact ⟨gg, cap, by simp, HR2.out.heap (World.drewN_alike _ _).1, fun B h1 h2 h3 h4 => (hbel B h1 h2 h3 h4).trans ⟨rfl, rfl, rfl, Nat.le_refl _, fun _ _ => rfl⟩⟩
end Go.Proofs.Qxb6618605a
