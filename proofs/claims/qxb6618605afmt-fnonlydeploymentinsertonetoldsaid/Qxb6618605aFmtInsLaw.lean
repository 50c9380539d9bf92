/-
  FnOnlyDeploymentInsertOne (4): the plain law, and zzBytes (9).
-/
import Derived.Test.Qxb6618605aFmtPicks
namespace Go.Proofs.Qxb6618605aFmt
open Go.RowKit
set_option linter.unusedVariables false

/-- The list with one more put at place p. -/
def insAt (ss : List ByteArray) (p : Nat) (kind : ByteArray) : List ByteArray := ss.take p ++ ([kind] ++ ss.drop p)

theorem deps_append (xs ys : List ByteArray) : deps (xs ++ ys) (xs.length + ys.length) = deps xs xs.length ++ (deps ys ys.length).map (xs.length + ·) := by
  unfold deps
  rw [List.range_add, List.filter_append, List.filter_map]
  congr 1
  · apply List.filter_congr
    intro i hi
    have hi' : i < xs.length := List.mem_range.1 hi
    simp [List.getD_eq_getElem?_getD, List.getElem?_append_left hi']
  · congr 1
    apply List.filter_congr
    intro i hi
    simp [List.getD_eq_getElem?_getD, List.getElem?_append_right (Nat.le_add_right xs.length i)]

theorem deps_split (ss : List ByteArray) (p : Nat) (hp : p ≤ ss.length) : deps ss ss.length = deps (ss.take p) p ++ (deps (ss.drop p) (ss.length - p)).map (p + ·) := by
  have h := deps_append (ss.take p) (ss.drop p)
  rw [List.take_append_drop, List.length_take, List.length_drop, Nat.min_eq_left hp, show p + (ss.length - p) = ss.length by omega] at h
  exact h

theorem deps_single (kind : ByteArray) : deps [kind] 1 = if isDep kind then [0] else [] := by
  rw [deps_succ]
  simp [deps]

theorem deps_ins (ss : List ByteArray) (p : Nat) (hp : p ≤ ss.length) (kind : ByteArray) :
    deps (insAt ss p kind) (ss.length + 1) = deps (ss.take p) p ++ ((if isDep kind then [p] else []) ++ (deps (ss.drop p) (ss.length - p)).map (p + 1 + ·)) := by
  have h1 := deps_append [kind] (ss.drop p)
  have h := deps_append (ss.take p) ([kind] ++ ss.drop p)
  rw [List.length_append, h1, List.length_take, List.length_drop, Nat.min_eq_left hp] at h
  rw [show p + ([kind].length + (ss.length - p)) = ss.length + 1 by simp; omega] at h
  unfold insAt
  rw [h, List.map_append, List.map_map]
  congr 1
  show List.map (fun x => p + x) (deps [kind] 1) ++ _ = _
  rw [deps_single]
  congr 1
  · by_cases hk : isDep kind = true
    · rw [if_pos hk, if_pos hk]; rfl
    · rw [if_neg hk, if_neg hk]; rfl
  · apply List.map_congr_left
    intro i _
    simp
    omega

theorem lt_zero_iff {ss : List ByteArray} {F : Int} (hF : IsFirst ss F) : (F < 0 ∧ deps ss ss.length = []) ∨ (0 ≤ F ∧ deps ss ss.length ≠ []) := by
  rcases hF with ⟨rfl, h⟩ | ⟨k, rfl, hk, hd, _⟩
  · exact .inl ⟨by omega, deps_none ss _ h⟩
  · refine .inr ⟨by omega, fun e => ?_⟩
    have := mem_of_dep hd hk
    rw [e] at this
    cases this

/-- One more "Deployment". -/
theorem ins_dep {ss : List ByteArray} {F : Int} (hF : IsFirst ss F) {p : Nat} (hp : p ≤ ss.length) {kind : ByteArray} (hk : isDep kind = true) :
    (F < 0 ∧ idOf (deps (insAt ss p kind) (ss.length + 1)) = p ∧ failedOf (deps (insAt ss p kind) (ss.length + 1)) = false) ∨
    (0 ≤ F ∧ idOf (deps (insAt ss p kind) (ss.length + 1)) = -1 ∧ failedOf (deps (insAt ss p kind) (ss.length + 1)) = true) := by
  rw [deps_ins ss p hp kind, if_pos hk]
  have hs := deps_split ss p hp
  rcases lt_zero_iff hF with ⟨h0, h1⟩ | ⟨h0, h1⟩
  · left
    rw [h1] at hs
    have hA : deps (ss.take p) p = [] := (List.append_eq_nil_iff.1 hs.symm).1
    have hB : deps (ss.drop p) (ss.length - p) = [] := List.map_eq_nil_iff.1 (List.append_eq_nil_iff.1 hs.symm).2
    rw [hA, hB]
    exact ⟨h0, rfl, rfl⟩
  · right
    have h2 := idOf_many (D := deps (ss.take p) p ++ ([p] ++ (deps (ss.drop p) (ss.length - p)).map (p + 1 + ·))) (fun i hi => h1 (by
      have hl := congrArg List.length hi
      simp at hl
      have hA : deps (ss.take p) p = [] := List.eq_nil_of_length_eq_zero (by omega)
      have hB : deps (ss.drop p) (ss.length - p) = [] := List.eq_nil_of_length_eq_zero (by omega)
      rw [hs, hA, hB]
      rfl))
    exact ⟨h0, h2.1, h2.2⟩

/-- One more of another kind. -/
theorem ins_other {ss : List ByteArray} {p : Nat} (hp : p ≤ ss.length) {kind : ByteArray} (hk : isDep kind = false) :
    failedOf (deps (insAt ss p kind) (ss.length + 1)) = failedOf (deps ss ss.length) ∧
    idOf (deps (insAt ss p kind) (ss.length + 1)) = if (p : Int) ≤ idOf (deps ss ss.length) then idOf (deps ss ss.length) + 1 else idOf (deps ss ss.length) := by
  rw [deps_ins ss p hp kind, if_neg (by rw [hk]; simp), deps_split ss p hp]
  have hA : ∀ i ∈ deps (ss.take p) p, i < p := fun i hi => mem_deps hi
  generalize deps (ss.take p) p = A at hA
  generalize deps (ss.drop p) (ss.length - p) = B
  match A, B, hA with
  | [], [], _ => exact ⟨rfl, by rw [if_neg (by simp [idOf]; omega)]; rfl⟩
  | [], [j], _ => exact ⟨rfl, by simp [idOf]; omega⟩
  | [], _ :: _ :: _, _ => exact ⟨rfl, by rw [if_neg (by simp [idOf]; omega)]; rfl⟩
  | [i], [], hA => exact ⟨rfl, by have := hA i (by simp); rw [if_neg (by simp [idOf]; omega)]; rfl⟩
  | [i], _ :: _, _ => exact ⟨rfl, by rw [if_neg (by simp [idOf]; omega)]; rfl⟩
  | _ :: _ :: _, _, _ => exact ⟨rfl, by rw [if_neg (by simp [idOf]; omega)]; rfl⟩

set_option maxHeartbeats 400000 in
theorem bytes9_any (a : Option Addr) (cap : Nat) (ss : List ByteArray) (x : Int) (kind : ByteArray) (w : World) (hss : StrsAt w a ss) (hl : ss.length ≤ maxLen) :
    Calls Tryf.prog 9 #[.slice a ss.length cap, .int .i64 x, .string kind] w fun e w' => SomeBool e ∧ w' = w := by
  unfold maxLen at hl
  go_enter Tryf.func9, Tryf.ntmps9
  go_wp2
  · go_ret
    exact ⟨⟨_, rfl⟩, rfl⟩
  · go_loop [7, 8] (fun t i => ∃ (k : Nat) (y : Int), k ≤ ss.length ∧ i = .int .i64 k ∧ t = .int .i64 y) (fun _ i => ss.length - (intOf i).toNat)
    case atStart => exact ⟨0, _, Nat.zero_le _, rfl, rfl⟩
    case round =>
      obtain ⟨k, y, hk, rfl, rfl⟩ := hrel
      by_cases hlt : k < ss.length
      · obtain ⟨b, off, rfl, hc⟩ := hss k hlt
        go_wp2
        · go_ret
          exact ⟨⟨_, rfl⟩, rfl⟩
        · go_ret
          exact ⟨⟨_, rfl⟩, rfl⟩
        · go_round
          case rel => exact ⟨k + 1, _, by omega, by go_num, rfl⟩
          case measure => simp [intOf]; omega
      · go_wp2
        all_goals
          go_ret
          exact ⟨⟨_, rfl⟩, rfl⟩
end Go.Proofs.Qxb6618605aFmt
