/-
  The row and the tied card, out of the walk. After the guide's worked texts ToyasProofs, ToyasCard.
-/
import Derived.Test.Qxb6616973aDoorLaw
import Derived.Test.Qxb6616973aDoorTie
import Derived.Test.Qxb6616973aDoorCards
import Derived.ProofKit
import Derived.ShutString
import Derived.ChangeSame
import Derived.ChangeVars
import Derived.JoinedOf
import Derived.RowKit
import Derived.RowKitTokens
import Derived.LaidLaws
import Derived.LaidHandle
import Derived.Stop.Joined
import Derived.SevenTiedAt
namespace Go.Proofs.Qxb6616973aDoor
open Go.ChangeShapes Go.WideShapes Go.RowKit
open Go.ChangeMaps (open_string shut_string)
set_option linter.unusedVariables false

theorem own : ownKnob Tryd.prog.godebug = none := by kernel_rfl
theorem et : Tryd.prog.globalNamed "errors.errorType" = some 0 := by kernel_rfl
theorem typesSize : Tryd.prog.types.size = 112 := by kernel_rfl
theorem oneRow : ((List.range 112).filter fun t => Tryd.prog.rowNamed t [101, 114, 114, 111, 114]) = [29] := by kernel_rfl

/-- What the listed variable's datum gives the walk: its one cell. -/
theorem handle_of_laid {W : World} (h : laidMetH Tryd.prog Rows.fnStoppedSeesThroughLeftoverRow.laid W) : W.cell? ⟨0, 0, none⟩ = some (.iface 69 (.agg #[.pointer (some ⟨1, 29, none⟩)])) := by
  have h' : laidMet Tryd.prog [] W ∧ handlesMet Tryd.prog Rows.fnStoppedSeesThroughLeftoverRow.laid W := h
  obtain ⟨name, u, ty, e1, e2, e3, e4, e5⟩ := h'.2 _ (List.mem_singleton.2 rfl)
  have en : name = [101, 114, 114, 111, 114] := (Option.some.inj e1).symm
  subst en
  obtain rfl : u = 69 := Option.some.inj (e2.symm.trans (by kernel_rfl))
  have hm : ty ∈ (List.range 112).filter fun t => Tryd.prog.rowNamed t [101, 114, 114, 111, 114] := List.mem_filter.2 ⟨List.mem_range.2 (by rw [← typesSize]; exact e3), e4⟩
  rw [oneRow] at hm
  obtain rfl := List.mem_singleton.1 hm
  have hh : typeHandle Tryd.prog 29 = .pointer (some ⟨1, 29, none⟩) := by kernel_rfl
  rw [hh] at e5
  simpa using World.var?_cell et e5 0

set_option maxRecDepth 100000 in
theorem lifted (os : Os) (started : os.Started) (H : Type) (enc : TypeId × Value → H) :
    ReturnsInHanded {} Tryd.checked os 3 .any (fun w args => (Rows.fnStoppedSeesThroughLeftoverSpec.pre enc Tryd.prog Tryd.f3 [] false w args ∧ laidMetH Tryd.prog Rows.fnStoppedSeesThroughLeftoverRow.laid w) ∧ sizedMet enc Tryd.prog Tryd.f3 (OpenSpec.ofChange Rows.fnStoppedSeesThroughLeftoverSpec) false w args)
      (Rows.fnStoppedSeesThroughLeftoverSpec.post enc Tryd.prog Tryd.f3 false true false false) := by
  refine returnsInHanded_of_change_and (C := Tryd.checked) (X := fun w _ => laidMetH Tryd.prog Rows.fnStoppedSeesThroughLeftoverRow.laid w) (fun _ _ _ hh h => h.of_heap hh) own started (by kernel_rfl) Tryd.func3
    (ChangeSpec.witness_at (enc := enc) (C := Tryd.checked) (os := os) (X := fun w _ => laidMetH Tryd.prog Rows.fnStoppedSeesThroughLeftoverRow.laid w) false
      ({ World.holding Tryd.prog os ⟨#[], #[], []⟩ with heap := (World.holding Tryd.prog os ⟨#[], #[], []⟩).heap.modify 0 fun
          | .cells _ t frozen => .cells #[.iface 69 (.agg #[.pointer (some ⟨1, 29, none⟩)])] t frozen
          | o => o }) #[.string ByteArray.empty, .string ByteArray.empty] 8 rfl (by kernel_rfl) (by kernel_rfl) (by kernel_rfl) (by kernel_rfl) (by kernel_rfl) (laidMetH_of_parts (laidMet_nil _ _) (by kernel_rfl))) ?_
  intro W base args ds gs before hval0 hW _ _ hL _
  have hval : ∀ (j : Nat) t v, Tryd.f3.params[j]? = some t → args[j]? = some v → Value.okWide Tryd.prog W .any base t v := hval0
  have hW' := hW
  obtain ⟨p, q, hA0, hV0, rfl, hfz, hnd⟩ := hW
  have hA : DataW.TrodAll enc Tryd.prog W 0 (fun _ => true) true Tryd.f3.params.toList args.toList ds p := hA0
  have hV : DataW.TrodVars enc Tryd.prog W (fun _ => true) [] gs q := hV0
  rw [Tryd.params3] at hA hval
  obtain ⟨v0, v1, d0, d1, p0, p1, rfl, rfl, rfl, h0, h1⟩ := trodAll_two hA
  obtain ⟨s0, rfl, rfl, rfl, hs0⟩ := open_string Tryd.underlying9 (hval 0 9 v0 rfl rfl) h0
  obtain ⟨s1, rfl, rfl, rfl, hs1⟩ := open_string Tryd.underlying9 (hval 1 9 v1 rfl rfl) h1
  have hg := handle_of_laid hL
  obtain ⟨rfl, rfl⟩ : gs = [] ∧ q = [] := by
    cases gs with
    | nil => exact ⟨rfl, hV⟩
    | cons g r => exact absurd hV (by intro h; cases h)
  refine (law s0 s1 W hg).mono fun e W' ⟨he, bel⟩ => ?_
  subst he
  exact ⟨_, rfl, _, _, _, [], [] ++ [], [], hW', trodAll_mk1 (shut_bool Tryd.underlying4 true), trodAll_mk2 (shut_string Tryd.underlying9 hs0) (shut_string Tryd.underlying9 hs1), rfl, bel.frame _, fun h => by cases h⟩

theorem row_holds : Rows.FnStoppedSeesThroughLeftoverSaid :=
  OpenClaim.holds_of_wide 3 Tryd.f3 rfl rfl rfl rfl rfl rfl rfl ⟨rfl, rfl, rfl, rfl, rfl⟩ rfl rfl rfl rfl rfl (by kernel_rfl) Tryd.func3 (by kernel_rfl)
    (of_decide_eq_true (by kernel_rfl)) (by unfold Func.isWrapper; first | (rw [if_pos (by decide +kernel)]; kernel_rfl) | (rw [if_neg (by decide +kernel)]; exact ⟨rfl, rfl⟩))
    (fun os started H enc _ => lifted os started H enc)

/-- THE STATEMENT. -/
theorem fnStoppedSeesThroughLeftover_proved : Rows.FnStoppedSeesThroughLeftoverCardSaid :=
  Claim7.holds_tied_plain_at .later [] [.handle] true _ true
    row_holds (fun _ h => by cases h) (by kernel_rfl) (fun _ h => by cases h) fnStoppedSeesThroughLeftover_row_tie rfl ⟨rfl, rfl⟩ (by kernel_rfl) rfl
    (fun f fn hf hfn => by
      obtain rfl : f = 3 := Option.some.inj (hf.symm.trans (by kernel_rfl))
      obtain rfl : fn = Tryd.f3 := (Option.some.inj (Tryd.func3.symm.trans hfn)).symm
      exact ⟨by kernel_rfl, fun j t ht => by
        rw [Tryd.params3] at ht
        have h9 : t = 9 := by
          rcases j with _ | _ | j
          · simpa using ht.symm
          · simpa using ht.symm
          · simp at ht
        subst h9
        exact (show Tryd.prog.wantsStandIn 9 = false by kernel_rfl)⟩)
    (by kernel_rfl)
end Go.Proofs.Qxb6616973aDoor
