/-
  The guards of the law: zzBytes (7) and zzStringsFit (8): each returns some bool and leaves the world as it was.
-/
import Derived.Test.Qxb6618605aRows
import Derived.WalkKit
import Derived.Outline
import Derived.Below
namespace Go.Proofs.Qxb6618605a
open Go.RowKit
set_option linter.unusedVariables false

/-- The elements of a slice of strings that came in, at a plain address. -/
def StrsAt (w : World) (a : Option Addr) (ss : List ByteArray) : Prop :=
  ∀ i, i < ss.length → ∃ b off, a = some ⟨b, off, none⟩ ∧ w.cell? ⟨b, off + i, none⟩ = some (.string (ss.getD i ByteArray.empty))

/-- Some bool was returned. -/
def SomeBool (e : Ending) : Prop := ∃ r : Bool, e = .returned (.bool r)
theorem SomeBool.mk (r : Bool) : SomeBool (.returned (.bool r)) := ⟨r, rfl⟩

set_option maxHeartbeats 400000 in
theorem fit_any (a : Option Addr) (cap : Nat) (ss : List ByteArray) (x : Int) (w : World) (hss : StrsAt w a ss) (hl : ss.length ≤ maxLen) :
    Calls Try.prog 8 #[.slice a ss.length cap, .int .i64 x] w fun e w' => SomeBool e ∧ w' = w := by
  unfold maxLen at hl
  go_enter Try.func8, Try.ntmps8
  go_wp2
  · go_ret
    exact ⟨⟨_, rfl⟩, rfl⟩
  · go_loop [5, 6] (fun t i => ∃ (k : Nat) (y : Int), k ≤ ss.length ∧ i = .int .i64 k ∧ t = .int .i64 y) (fun _ i => ss.length - (intOf i).toNat)
    case atStart => exact ⟨0, _, Nat.zero_le _, rfl, rfl⟩
    case round =>
      obtain ⟨k, y, hk, rfl, rfl⟩ := hrel
      by_cases hlt : k < ss.length
      · obtain ⟨b, off, rfl, hc⟩ := hss k hlt
        go_wp2
        · go_ret
          exact ⟨⟨_, rfl⟩, rfl⟩
        · go_round
          case rel => exact ⟨k + 1, _, by omega, by go_num, rfl⟩
          case measure => simp [intOf]; omega
      · go_wp2
        go_ret
        exact ⟨⟨_, rfl⟩, rfl⟩

set_option maxHeartbeats 400000 in
theorem bytes_any (a : Option Addr) (cap : Nat) (ss : List ByteArray) (o n : ByteArray) (x : Int) (w : World) (hss : StrsAt w a ss) (hl : ss.length ≤ maxLen) :
    Calls Try.prog 7 #[.slice a ss.length cap, .string o, .string n, .int .i64 x] w fun e w' => SomeBool e ∧ w' = w := by
  unfold maxLen at hl
  go_enter Try.func7, Try.ntmps7
  go_wp2
  · go_ret
    exact ⟨⟨_, rfl⟩, rfl⟩
  · go_loop [9, 10] (fun t i => ∃ (k : Nat) (y : Int), k ≤ ss.length ∧ i = .int .i64 k ∧ t = .int .i64 y) (fun _ i => ss.length - (intOf i).toNat)
    case atStart => exact ⟨0, _, Nat.zero_le _, rfl, rfl⟩
    case round =>
      obtain ⟨k, y, hk, rfl, rfl⟩ := hrel
      by_cases hlt : k < ss.length
      · obtain ⟨b, off, rfl, hc⟩ := hss k hlt
        go_wp2
        · go_ret
          exact ⟨⟨_, rfl⟩, rfl⟩
        · go_ret
          exact ⟨⟨_, rfl⟩, rfl⟩
        · go_round
          case rel => exact ⟨k + 1, _, by omega, by go_num, rfl⟩
          case measure => simp [intOf]; omega
      · go_wp2
        all_goals
          go_ret
          exact ⟨⟨_, rfl⟩, rfl⟩
end Go.Proofs.Qxb6618605a
