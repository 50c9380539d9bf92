/-
  The proof of 'Rows.FnHeadSizeGrowsByOneHeaderSaid' out of the walk.
-/
import Derived.Test.Qxb6616995aMain
import Derived.ProofKit
import Derived.OpenShut
import Derived.ShutString
import Derived.ChangeOld
import Derived.SliceStrings
import Derived.Deep.Slices
namespace Go.Proofs.Qxb6616995a.fnHeadSizeGrowsByOneHeader
open Go.ChangeShapes Go.WideShapes Go.ChangeAt Go.RowKit
open Go.ChangeMaps (open_string shut_string)
set_option linter.unusedVariables false

theorem own : ownKnob Try.prog.godebug = none := by kernel_rfl
theorem laidOut : laidOutB Try.prog = true := by kernel_rfl

section
variable {H : Type} {enc : TypeId × Value → H} {W : World} {base : Nat} {held : Bool}

/-- A slice of strings, opened. -/
theorem sl_open {fuel : Nat} {v : Value} {x : DataW H × List MemPlace} (h : DataW.trod enc Try.prog W base (fun _ => true) held fuel 22 [v] = some x) : ∃ s : Sl, v = s.val ∧ s.At W ∧ s.ss.length ≤ maxLen := by
  rcases open_strings Try.underlying22 Try.underlying9 (by kernel_rfl) h with ⟨hcs, _⟩ | ⟨x, l, c, zs, hcs, _, hl, hm, hz, _, hcell, hwz⟩
  · simp at hcs
    exact ⟨Sl.nil, hcs, Sl.nil_at W, by simp [Sl.nil]⟩
  · simp at hcs
    simp only [if_true] at hz
    refine ⟨⟨some x, c, zs.take l⟩, by rw [hcs]; simp [Sl.val]; omega, ⟨fun i hi => ?_, by simp; omega⟩, by simp; omega⟩
    simp at hi
    obtain ⟨b, off, spot⟩ := x
    have hspot : spot = none := by simpa [Addr.add] using World.cell?_spot (hcell 0 (by omega))
    subst hspot
    refine ⟨b, off, rfl, ?_⟩
    have := hcell i (by omega)
    rw [add_plain] at this
    rw [this]
    have h8 : i < zs.length := by omega
    have h9 : i < l := by omega
    simp [List.getD_eq_getElem?_getD, h8, h9]

/-- A slice of slices of strings, opened. -/
theorem sls_open {fuel : Nat} {v : Value} {x : DataW H × List MemPlace} (h : DataW.trod enc Try.prog W base (fun _ => true) held fuel 23 [v] = some x) :
    ∃ (a : Option Addr) (cap : Nat) (vs : List Sl), v = .slice a vs.length cap ∧ SlsAt W a vs ∧ vs.length ≤ maxLen ∧ ∀ i, (vs.getD i Sl.nil).ss.length ≤ maxLen := by
  rcases Go.Deep.open_slice1 Try.underlying23 (by kernel_rfl) h with ⟨hcs, _⟩ | ⟨x, l, c, m, n, V, D, Pl, hcs, _, hl, hm, hmm, _, hx⟩
  · simp at hcs
    exact ⟨none, 0, [], hcs, fun i hi => absurd hi (by simp), by simp, fun i => by simp [Sl.nil]⟩
  · simp at hcs
    simp only [if_true] at hmm
    subst hmm
    haveI : Inhabited Sl := ⟨Sl.nil⟩
    obtain ⟨S, hS⟩ := Go.Deep.choose_lt (fun i (hi : i < m) => sl_open (hx i hi).2)
    have hget : ∀ i, i < l → ((List.range l).map S).getD i Sl.nil = S i := fun i hi => by simp [List.getD_eq_getElem?_getD, hi]
    refine ⟨some x, m, (List.range l).map S, by simp [hcs], fun i hi => ?_, by simp; omega, fun i => ?_⟩
    · simp at hi
      obtain ⟨b, off, spot⟩ := x
      have hc0 := (hx 0 (by omega)).1
      have hspot : spot = none := by simpa [Addr.add] using World.cell?_spot hc0
      subst hspot
      have hc := (hx i (by omega)).1
      rw [add_plain] at hc
      rw [hget i hi]
      exact ⟨b, off, rfl, by rw [hc, (hS i (by omega)).1], (hS i (by omega)).2.1⟩
    · by_cases hi : i < l
      · rw [hget i hi]; exact (hS i (by omega)).2.2
      · simp [List.getD_eq_getElem?_getD, Nat.le_of_not_lt hi, Sl.nil]
end

set_option maxRecDepth 100000 in
set_option maxHeartbeats 1600000 in
theorem lifted (os : Os) (started : os.Started) (H : Type) (enc : TypeId × Value → H) :
    ReturnsInHanded {} Try.checked os 3 .any (Rows.fnHeadSizeGrowsByOneHeaderSpec.pre6 enc Try.prog Try.f3 Rows.fnHeadSizeGrowsByOneHeaderRow.domain false) (Rows.fnHeadSizeGrowsByOneHeaderSpec.post enc Try.prog Try.f3 false true false false) := by
  refine returnsInHanded_of_change (C := Try.checked) own started (by kernel_rfl) Try.func3
    (ChangeSpec.witness6 (enc := enc) (C := Try.checked) false ⟨#[], #[.string ByteArray.empty, .slice none 0 0, .slice none 0 0, .string ByteArray.empty, .slice none 0 0], []⟩ 8 (by kernel_rfl) (by kernel_rfl) (by kernel_rfl) (by kernel_rfl)) ?_
  intro W base args ds gs before hval0 hW hcnd _
  have hval : ∀ (j : Nat) t v, Try.f3.params[j]? = some t → args[j]? = some v → Value.okWide Try.prog W .any base t v := hval0
  have hW' := hW
  obtain ⟨p, q, hA0, hV, rfl, hfz, hnd⟩ := hW
  have hA : DataW.TrodAll enc Try.prog W 0 (fun _ => true) true Try.f3.params.toList args.toList ds p := hA0
  rw [Try.params3] at hA hval
  obtain ⟨v0, vs0, d0, ds0, p0, q0, hargs, rfl, rfl, h0, r0⟩ := trodAll_cons hA
  obtain ⟨v1, vs1, d1, ds1, p1, q1, rfl, rfl, rfl, h1, r1⟩ := trodAll_cons r0
  obtain ⟨v2, vs2, d2, ds2, p2, q2, rfl, rfl, rfl, h2, r2⟩ := trodAll_cons r1
  obtain ⟨v3, vs3, d3, ds3, p3, q3, rfl, rfl, rfl, h3, r3⟩ := trodAll_cons r2
  obtain ⟨v4, vs4, d4, ds4, p4, q4, rfl, rfl, rfl, h4, r4⟩ := trodAll_cons r3
  obtain ⟨rfl, rfl, rfl⟩ := trodAll_nil r4
  obtain rfl : args = #[v0, v1, v2, v3, v4] := by cases args; simp_all
  obtain ⟨rfl, rfl⟩ := trodVars_none hV
  obtain ⟨s0, rfl, rfl, rfl, hs0⟩ := open_string Try.underlying9 (hval 0 9 v0 rfl rfl) h0
  obtain ⟨s3, rfl, rfl, rfl, hs3⟩ := open_string Try.underlying9 (hval 3 9 v3 rfl rfl) h3
  have k1 := h1
  have k2 := h2
  have k4 := h4
  have lt1 : ∀ x ∈ p1, x.block < W.heap.size := by obtain ⟨m, hm⟩ := k1; exact DataW.trod_lt m _ _ _ hm
  have lt2 : ∀ x ∈ p2, x.block < W.heap.size := by obtain ⟨m, hm⟩ := k2; exact DataW.trod_lt m _ _ _ hm
  have lt4 : ∀ x ∈ p4, x.block < W.heap.size := by obtain ⟨m, hm⟩ := k4; exact DataW.trod_lt m _ _ _ hm
  obtain ⟨a1, l1, c1, rfl⟩ := okWide_slice Try.underlying22 (hval 1 22 v1 rfl rfl)
  obtain ⟨a2, l2, c2, rfl⟩ := okWide_slice Try.underlying23 (hval 2 23 v2 rfl rfl)
  obtain ⟨a4, l4, c4, rfl⟩ := okWide_slice Try.underlying22 (hval 4 22 v4 rfl rfl)
  obtain ⟨f1, g1⟩ := h1
  obtain ⟨f2, g2⟩ := h2
  obtain ⟨f4, g4⟩ := h4
  simp only [Value.cells] at g1 g2 g4
  obtain ⟨⟨b1, e1, ns⟩, hv1, hat1, hl1⟩ := sl_open g1
  obtain ⟨b2, e2, vs, hv2, hat2, hl2, hlw⟩ := sls_open g2
  obtain ⟨⟨b4, e4, ls⟩, hv4, hat4, hl4⟩ := sl_open g4
  cases hv1
  cases hv2
  cases hv4
  clear hA0 hval0
  refine (walk s0 _ _ _ _ _ _ ns vs s3 ls W hat1.1 hat2 hat4 hl1 hl2 hl4 hlw).mono fun e W' ⟨he, bel⟩ => ?_
  subst he
  exact ⟨_, rfl, _, _, _, [], _, [], hW', trodAll_mk1 (shut_bool Try.underlying4 _), (trodAll_cons_mk (shut_string Try.underlying9 hs0) (trodAll_cons_mk (Below.trod laidOut (by kernel_rfl) (of_decide_eq_true (by kernel_rfl)) k1 bel lt1) (trodAll_cons_mk (Below.trod laidOut (by kernel_rfl) (of_decide_eq_true (by kernel_rfl)) k2 bel lt2) (trodAll_cons_mk (shut_string Try.underlying9 hs3) (trodAll_cons_mk (Below.trod laidOut (by kernel_rfl) (of_decide_eq_true (by kernel_rfl)) k4 bel lt4) trodAll_mk0))))), rfl, bel.frame _, fun h => by cases h⟩

theorem over : Rows.fnHeadSizeGrowsByOneHeaderRow.holds Try.pinned (OpenSpec.ofChange Rows.fnHeadSizeGrowsByOneHeaderSpec) :=
  OpenClaim.holds_of_wide 3 Try.f3 rfl rfl rfl rfl rfl rfl rfl ⟨rfl, rfl, rfl, rfl, rfl⟩ rfl rfl rfl rfl rfl (by kernel_rfl) Try.func3 (by kernel_rfl)
    (of_decide_eq_true (by kernel_rfl)) (by unfold Func.isWrapper; first | (rw [if_pos (by decide +kernel)]; kernel_rfl) | (rw [if_neg (by decide +kernel)]; exact ⟨rfl, rfl⟩))
    (fun os started H enc _ => lifted os started H enc)

end Go.Proofs.Qxb6616995a.fnHeadSizeGrowsByOneHeader
namespace Go.Proofs.Qxb6616995a
/-- THE STATEMENT. -/
theorem fnHeadSizeGrowsByOneHeader_proved : Rows.FnHeadSizeGrowsByOneHeaderSaid := fnHeadSizeGrowsByOneHeader.over
end Go.Proofs.Qxb6616995a
