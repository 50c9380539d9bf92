/-
  OnlyDeployment (10) over the maps that are built here.
-/
import Derived.Test.Qxb6618605aFmtIdent
import Derived.WalkSpells
namespace Go.Proofs.Qxb6618605aFmt
open Go.RowKit Go.Extern.Stop Go.Stop Go.Extern
set_option linter.unusedVariables false

/-- Is it the word? -/
def isDep (s : ByteArray) : Bool := s.toList == [68, 101, 112, 108, 111, 121, 109, 101, 110, 116]

/-- The places among the first k at which the word stands. -/
def deps (ss : List ByteArray) (k : Nat) : List Nat := (List.range k).filter fun i => isDep (ss.getD i ByteArray.empty)

theorem deps_succ (ss : List ByteArray) (k : Nat) : deps ss (k + 1) = deps ss k ++ if isDep (ss.getD k ByteArray.empty) then [k] else [] := by
  unfold deps
  rw [List.range_succ, List.filter_append]
  by_cases h : isDep (ss.getD k ByteArray.empty) = true
  · rw [if_pos h]
    exact congrArg _ (List.filter_cons_of_pos (p := fun i => isDep (ss.getD i ByteArray.empty)) h)
  · rw [if_neg h]
    exact congrArg _ (List.filter_cons_of_neg (p := fun i => isDep (ss.getD i ByteArray.empty)) h)
theorem deps_hit (ss : List ByteArray) (k : Nat) (hk : k < ss.length) (h : (ss[k].toList == [68, 101, 112, 108, 111, 121, 109, 101, 110, 116]) = true) : deps ss (k + 1) = deps ss k ++ [k] := by
  have e : ss.getD k ByteArray.empty = ss[k] := by simp [List.getD_eq_getElem?_getD, hk]
  have hp : isDep ss[k] = true := h
  rw [deps_succ, e, if_pos hp]
theorem deps_miss (ss : List ByteArray) (k : Nat) (hk : k < ss.length) (h : (ss[k].toList == [68, 101, 112, 108, 111, 121, 109, 101, 110, 116]) = false) : deps ss (k + 1) = deps ss k := by
  have e : ss.getD k ByteArray.empty = ss[k] := by simp [List.getD_eq_getElem?_getD, hk]
  have hn : ¬ isDep ss[k] = true := by unfold isDep; rw [h]; simp
  rw [deps_succ, e, if_neg hn, List.append_nil]
theorem deps_le (ss : List ByteArray) (k : Nat) : (deps ss k).length ≤ k := by
  unfold deps
  have := List.length_filter_le (fun i => isDep (ss.getD i ByteArray.empty)) (List.range k)
  simpa using this

/-- A slice of the maps that are built for the kinds ss: element i leads to block M i. -/
def ObjsAt (w : World) (ao : Option Addr) (ss : List ByteArray) (M : Nat → Nat) : Prop :=
  ∀ i, i < ss.length → ∃ b off, ao = some ⟨b, off, none⟩ ∧ w.cell? ⟨b, off + i, none⟩ = some (.map (some (M i))) ∧ w.heap[M i]? = some (.map (ents (ss.getD i ByteArray.empty) i) 2)

theorem ownsRow_below {w w' : World} {base : Nat} {e : TypeId} {size : Nat} {v : Value} {n : Nat} {xs : List Value} (h : w.ownsRow base e size v n xs) (hb : Below w.heap.size w w') : w'.ownsRow base e size v n xs :=
  h.kept (row := none) ⟨hb.os, hb.tape, hb.output, hb.size, fun k hk _ => hb.block k hk⟩ (by cases v.ownBlock <;> simp)

theorem field1 (a b c d : ByteArray) (w : World) : (Instr.field 37 (.agg #[.string a, .string b, .string c, .string d]) 1).run Tryf.prog w = .ok (.string b) w := by kernel_rfl

theorem info31 : (Tryf.prog.info? 31).map (fun i => (i.zero, i.size, i.bytes)) = some (some (.map none), 1, 8) := by kernel_rfl

/-- What OnlyDeployment hands back. -/
def Out (M : Nat → Nat) (D : List Nat) (e : Ending) : Prop := ∃ r0 r1, e = .returned (.tuple #[r0, r1]) ∧
  ((∃ i, D = [i] ∧ r0 = .map (some (M i)) ∧ r1 = .nilIface) ∨ ((∀ i, D ≠ [i]) ∧ r0 = .map none ∧ ∃ a, r1 = .iface 44 (.pointer (some a))))

set_option maxHeartbeats 800000 in
set_option maxRecDepth 100000 in
theorem only_any (ao : Option Addr) (cap : Nat) (ss : List ByteArray) (M : Nat → Nat) (w : World) (h : ObjsAt w ao ss M) (hn : ss.length ≤ 70000) :
    Calls Tryf.prog 10 #[.slice ao ss.length cap] w fun e w' => Out M (deps ss ss.length) e ∧ Below w.heap.size w w' := by
  obtain ⟨i0, hi, hz0, hz1, hz2⟩ := info_parts info31
  have hfd := field1
  go_enter Tryf.func10, Tryf.ntmps10
  go_wp2
  go_loopw [4, 9, 6] (fun v i _ wr => ∃ (k : Nat), k ≤ ss.length ∧ i = .int .i64 k ∧ wr.ownsRow w.heap.size 31 1 v (deps ss k).length ((deps ss k).map fun i => .map (some (M i))) ∧ Below w.heap.size w wr) (fun _ i _ _ => ss.length - (intOf i).toNat)
  case atStart => exact ⟨0, Nat.zero_le _, rfl, World.ownsRow_nil _ _ _ _, Below.refl _ _⟩
  case round =>
    rename_i v0 _ _ 
    obtain ⟨k, hk, rfl, hown, hb⟩ := hrel
    have hdl := deps_le ss k
    by_cases hlt : k < ss.length
    · obtain ⟨b, off, rfl, hc, hm⟩ := h k hlt
      have hcr : wr.cell? ⟨b, off + k, none⟩ = some (.map (some (M k))) := (hb.cell (World.block_lt_of_cell? w _ hc)).trans hc
      have hmr : wr.heap[M k]? = some (.map (ents (ss.getD k ByteArray.empty) k) 2) := (hb.block _ (Array.getElem?_eq_some_iff.1 hm).1).trans hm
      have HM : Hid (wr.heap[M k]? = some (.map (ents (ss.getD k ByteArray.empty) k) 2)) := hmr
      clear hmr hm hc
      have hnk : (deps ss k).length + 1 ≤ 70001 := by omega
      cases hd : (ss[k].toList == [68, 101, 112, 108, 111, 121, 109, 101, 110, 116]) with
      | true =>
        have hD := deps_hit ss k hlt hd
        have HD : Hid (deps ss (k + 1) = deps ss k ++ [k]) := hD
        clear hD
        go_wp2_with (first | (go_at_call 11; refine (ident_any (M k) _ _ _ HM.out).mono ?_; rintro e w1 ⟨rfl, hb1⟩; have hown1 := ownsRow_below hown hb1; have hb2 := hb.trans (hb1.mono hb.size)) | (at_builtin; refine wpList_append_own _ rfl _ _ 30 rfl w.heap.size 31 i0 (.map none) 1 8 Tryf.underlying30 hi hz0 hz1 hz2 rfl (by decide) _ _ _ rfl (hown1.alloc _) ⟨w1.heap.size, 0, none⟩ 1 1 [.map (some (M k))] rfl rfl ?c1 ?c2 ?c3 ?c4 ?c5 ?_))
        case c1 => exact cell_one_new _ _ _
        case c2 => intro u hu; simp at hu; subst hu; rfl
        case c3 => unfold maxLen; omega
        case c4 => omega
        case c5 => have := hb2.size; simp; omega
        intro v' w2 hown2 hgrow _
        have hb3 : Below w.heap.size w w2 := (hb2.alloc hb2.size _).grown hgrow (by have := hb2.size; simp; omega) (fun j hj => (hown1.lt j hj).1)
        go_wp2
        go_roundw
        case rel => exact ⟨k + 1, by omega, by go_num, by rw [HD.out]; simpa using hown2, hb3⟩
        case measure => simp [intOf]; omega
      | false =>
        have hD := deps_miss ss k hlt hd
        have HD : Hid (deps ss (k + 1) = deps ss k) := hD
        clear hD
        go_wp2_with (first | (go_at_call 11; refine (ident_any (M k) _ _ _ HM.out).mono ?_; rintro e w1 ⟨rfl, hb1⟩; have hown1 := ownsRow_below hown hb1; have hb2 := hb.trans (hb1.mono hb.size)))
        go_roundw
        case rel => exact ⟨k + 1, by omega, by go_num, by rw [HD.out]; exact hown1, hb2⟩
        case measure => simp [intOf]; omega
    · obtain rfl : k = ss.length := by omega
      have hDl : (deps ss ss.length).length ≤ 70000 := Nat.le_trans (deps_le _ _) hn
      clear h hdl
      rcases hD : deps ss ss.length with _ | ⟨i, _ | ⟨j, D⟩⟩
      · rw [hD] at hown
        have HD : Hid (deps ss ss.length = []) := hD
        clear hD hDl
        obtain ⟨a4, c4, hv⟩ : ∃ a c, u4 = .slice a 0 c := by
          rcases hown.2 with ⟨h1, _⟩ | ⟨g, c, _, h1, _⟩
          · exact ⟨_, _, h1⟩
          · exact ⟨_, _, h1⟩
        clear hown
        subst hv
        go_wp2_with (first | (go_at_call 12; refine (new_any _ _).mono ?_; rintro e w1 ⟨rfl, hb1⟩))
        go_ret2
        exact ⟨⟨_, _, rfl, .inr ⟨by rw [HD.out]; simp, rfl, _, rfl⟩⟩, hb.trans (hb1.mono hb.size)⟩
      · rw [hD] at hown
        have HD : Hid (deps ss ss.length = [i]) := hD
        clear hD hDl
        obtain ⟨g, c, hv⟩ : ∃ g c, u4 = .slice (some ⟨g, 0, none⟩) 1 c := by
          rcases hown.2 with ⟨_, h1⟩ | ⟨g, c, _, h1, _⟩
          · simp at h1
          · exact ⟨_, _, h1⟩
        subst hv
        have hc0 : wr.cell? ⟨g, 0, none⟩ = some (.map (some (M i))) := by simpa [Addr.add] using hown.cells rfl 0 (.map (some (M i))) rfl
        clear hown
        go_wp2
        go_ret2
        exact ⟨⟨_, _, rfl, .inl ⟨i, HD.out, rfl, rfl⟩⟩, hb⟩
      · rw [hD] at hown hDl
        have HD : Hid (deps ss ss.length = i :: j :: D) := hD
        clear hD
        obtain ⟨a4, c4, hv⟩ : ∃ a c, u4 = .slice a (D.length + 2) c := by
          rcases hown.2 with ⟨_, h1⟩ | ⟨g, c, _, h1, _⟩
          · simp at h1
          · exact ⟨_, _, by simpa using h1⟩
        clear hown
        have hDl2 : D.length ≤ 70000 := by simp at hDl; omega
        clear hDl
        subst hv
        go_wp2_with (first | (go_at_call 13; refine (errorf_any wr.heap.size ((D.length : Int) + 2) _ (by simp)).mono ?_; rintro e w1 ⟨a1, rfl, hb1⟩))
        go_ret2
        exact ⟨⟨_, _, rfl, .inr ⟨by rw [HD.out]; simp, rfl, _, rfl⟩⟩, (hb.alloc hb.size _).trans (hb1.mono (by have := hb.size; simp; omega))⟩
end Go.Proofs.Qxb6618605aFmt
