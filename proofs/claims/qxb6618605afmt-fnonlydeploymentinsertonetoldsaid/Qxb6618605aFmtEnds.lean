/-
  zzDeploymentEnds (7): the first and the last place of the word; zzStringsFit (6) and the two zzBytes (5, 9): some bool, the world as it was.
-/
import Derived.Test.Qxb6618605aFmtOf
import Derived.Deep.CutBlock
import Derived.Deep.DeepCutAuto
namespace Go.Proofs.Qxb6618605aFmt
open Go.RowKit
set_option linter.unusedVariables false

/-- F is the first place of the word, or -1. -/
def IsFirst (ss : List ByteArray) (F : Int) : Prop :=
  (F = -1 ∧ ∀ i, i < ss.length → isDep (ss.getD i ByteArray.empty) = false) ∨ ∃ k : Nat, F = k ∧ k < ss.length ∧ isDep (ss.getD k ByteArray.empty) = true ∧ ∀ i, i < k → isDep (ss.getD i ByteArray.empty) = false
/-- L is the last place of the word, or -1. -/
def IsLast (ss : List ByteArray) (L : Int) : Prop :=
  (L = -1 ∧ ∀ i, i < ss.length → isDep (ss.getD i ByteArray.empty) = false) ∨ ∃ k : Nat, L = k ∧ k < ss.length ∧ isDep (ss.getD k ByteArray.empty) = true ∧ ∀ i, k < i → i < ss.length → isDep (ss.getD i ByteArray.empty) = false

theorem isDep_at {ss : List ByteArray} {k : Nat} (hk : k < ss.length) {r : Bool} (h : (ss[k].toList == [68, 101, 112, 108, 111, 121, 109, 101, 110, 116]) = r) : isDep (ss.getD k ByteArray.empty) = r := by
  have e : ss.getD k ByteArray.empty = ss[k] := by simp [List.getD_eq_getElem?_getD, hk]
  rw [e]; exact h

set_option maxHeartbeats 800000 in
theorem ends_any (a : Option Addr) (cap : Nat) (ss : List ByteArray) (w : World) (hss : StrsAt w a ss) (hn : ss.length ≤ 70000) :
    Calls Tryf.prog 7 #[.slice a ss.length cap] w fun e w' => ∃ F L : Int, e = .returned (.tuple #[.int .i64 F, .int .i64 L]) ∧ IsFirst ss F ∧ IsLast ss L ∧ w' = w := by
  go_enter Tryf.func7, Tryf.ntmps7
  go_upto_block 0 with fail
  go_cut [4, 6] (fun f i wx => ∃ F : Int, f = .int .i64 F ∧ IsFirst ss F ∧ w = wx)
  case first =>
    go_wp2_with fail
    go_loop [4, 6] (fun f i => ∃ k : Nat, k ≤ ss.length ∧ f = .int .i64 (-1) ∧ i = .int .i64 k ∧ ∀ j, j < k → isDep (ss.getD j ByteArray.empty) = false) (fun _ i => ss.length - (intOf i).toNat)
    case atStart => exact ⟨0, Nat.zero_le _, rfl, rfl, fun j hj => absurd hj (by omega)⟩
    case round =>
      obtain ⟨k, hk, rfl, rfl, hall⟩ := hrel
      have HA : Hid (∀ j, j < k → isDep (ss.getD j ByteArray.empty) = false) := hall
      clear hall
      by_cases hlt : k < ss.length
      · obtain ⟨b, off, rfl, hc⟩ := hss k hlt
        cases hd : (ss[k].toList == [68, 101, 112, 108, 111, 121, 109, 101, 110, 116]) with
        | true =>
          have HD : Hid (isDep (ss.getD k ByteArray.empty) = true) := isDep_at hlt hd
          go_wp2
          go_meet
          case rel => exact ⟨k, rfl, .inr ⟨k, rfl, hlt, HD.out, HA.out⟩, rfl⟩
        | false =>
          have HD : Hid (isDep (ss.getD k ByteArray.empty) = false) := isDep_at hlt hd
          go_wp2
          go_round
          case rel => exact ⟨k + 1, by omega, rfl, by go_num, fun j hj => by
            by_cases e : j = k
            · subst e; exact HD.out
            · exact HA.out j (by omega)⟩
          case measure => simp [intOf]; omega
      · go_wp2
        go_meet
        case rel => exact ⟨-1, rfl, .inl ⟨rfl, fun i hi => HA.out i (by omega)⟩, rfl⟩
  case rest =>
    obtain ⟨F, rfl, hF, rfl⟩ := hcut
    have HF : Hid (IsFirst ss F) := hF
    clear hF
    go_upto_block 2 with fail
    go_cut [5, 7] (fun l i wx => ∃ L : Int, l = .int .i64 L ∧ IsLast ss L ∧ w = wx)
    case first =>
      go_wp2_with fail
      go_loop [5, 7] (fun l i => ∃ m : Int, -1 ≤ m ∧ m < ss.length ∧ l = .int .i64 (-1) ∧ i = .int .i64 m ∧ ∀ j : Nat, m < j → j < ss.length → isDep (ss.getD j ByteArray.empty) = false) (fun _ i => (intOf i + 1).toNat)
      case atStart => exact ⟨_, by omega, by omega, rfl, rfl, fun j h1 h2 => absurd h1 (by omega)⟩
      case round =>
        obtain ⟨m, hm0, hmn, rfl, rfl, hall⟩ := hrel
        have HA : Hid (∀ j : Nat, m < j → j < ss.length → isDep (ss.getD j ByteArray.empty) = false) := hall
        clear hall
        by_cases hlt : 0 ≤ m
        · obtain ⟨k, rfl⟩ : ∃ k : Nat, m = k := ⟨m.toNat, by omega⟩
          have hks : k < ss.length := by omega
          obtain ⟨b, off, rfl, hc⟩ := hss k hks
          cases hd : (ss[k].toList == [68, 101, 112, 108, 111, 121, 109, 101, 110, 116]) with
          | true =>
            have HD : Hid (isDep (ss.getD k ByteArray.empty) = true) := isDep_at hks hd
            go_wp2
            go_meet
            case rel => exact ⟨k, rfl, .inr ⟨k, rfl, hks, HD.out, fun i h1 h2 => HA.out i (by omega) h2⟩, rfl⟩
          | false =>
            have HD : Hid (isDep (ss.getD k ByteArray.empty) = false) := isDep_at hks hd
            go_wp2
            go_round
            case rel => exact ⟨(k : Int) - 1, by omega, by omega, rfl, rfl, fun j h1 h2 => by
              by_cases e : j = k
              · subst e; exact HD.out
              · exact HA.out j (by omega) h2⟩
            case measure => simp [intOf]
        · go_wp2
          go_meet
          case rel => exact ⟨-1, rfl, .inl ⟨rfl, fun i hi => HA.out i (by omega) hi⟩, rfl⟩
    case rest =>
      obtain ⟨L, rfl, hL, rfl⟩ := hcut
      have HL : Hid (IsLast ss L) := hL
      clear hL
      go_wp2
      go_ret2
      exact ⟨F, L, rfl, HF.out, HL.out, rfl⟩

/-- Some bool was returned. -/
def SomeBool (e : Ending) : Prop := ∃ r : Bool, e = .returned (.bool r)

set_option maxHeartbeats 400000 in
theorem fit_any (a : Option Addr) (cap : Nat) (ss : List ByteArray) (x : Int) (w : World) (hss : StrsAt w a ss) (hl : ss.length ≤ maxLen) :
    Calls Tryf.prog 6 #[.slice a ss.length cap, .int .i64 x] w fun e w' => SomeBool e ∧ w' = w := by
  unfold maxLen at hl
  go_enter Tryf.func6, Tryf.ntmps6
  go_wp2
  · go_ret
    exact ⟨⟨_, rfl⟩, rfl⟩
  · go_loop [5, 6] (fun t i => ∃ (k : Nat) (y : Int), k ≤ ss.length ∧ i = .int .i64 k ∧ t = .int .i64 y) (fun _ i => ss.length - (intOf i).toNat)
    case atStart => exact ⟨0, _, Nat.zero_le _, rfl, rfl⟩
    case round =>
      obtain ⟨k, y, hk, rfl, rfl⟩ := hrel
      by_cases hlt : k < ss.length
      · obtain ⟨b, off, rfl, hc⟩ := hss k hlt
        go_wp2
        · go_ret
          exact ⟨⟨_, rfl⟩, rfl⟩
        · go_round
          case rel => exact ⟨k + 1, _, by omega, by go_num, rfl⟩
          case measure => simp [intOf]; omega
      · go_wp2
        go_ret
        exact ⟨⟨_, rfl⟩, rfl⟩

set_option maxHeartbeats 400000 in
theorem bytes5_any (a : Option Addr) (cap : Nat) (ss : List ByteArray) (w : World) (hss : StrsAt w a ss) (hl : ss.length ≤ maxLen) :
    Calls Tryf.prog 5 #[.slice a ss.length cap] w fun e w' => SomeBool e ∧ w' = w := by
  unfold maxLen at hl
  go_enter Tryf.func5, Tryf.ntmps5
  go_wp2
  · go_ret
    exact ⟨⟨_, rfl⟩, rfl⟩
  · go_loop [3, 4] (fun t i => ∃ (k : Nat) (y : Int), k ≤ ss.length ∧ i = .int .i64 k ∧ t = .int .i64 y) (fun _ i => ss.length - (intOf i).toNat)
    case atStart => exact ⟨0, _, Nat.zero_le _, rfl, rfl⟩
    case round =>
      obtain ⟨k, y, hk, rfl, rfl⟩ := hrel
      by_cases hlt : k < ss.length
      · obtain ⟨b, off, rfl, hc⟩ := hss k hlt
        go_wp2
        · go_ret
          exact ⟨⟨_, rfl⟩, rfl⟩
        · go_ret
          exact ⟨⟨_, rfl⟩, rfl⟩
        · go_round
          case rel => exact ⟨k + 1, _, by omega, by go_num, rfl⟩
          case measure => simp [intOf]; omega
      · go_wp2
        go_ret
        exact ⟨⟨_, rfl⟩, rfl⟩
end Go.Proofs.Qxb6618605aFmt
