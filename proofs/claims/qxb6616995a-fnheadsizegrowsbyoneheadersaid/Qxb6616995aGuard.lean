/-
  The guards: zzAddStrings (7) and zzHeaderBytes (6): some number, the world as it was; zzBytes (5): some bool, and where it is true the input is small.
-/
import Derived.Test.Qxb6616995aFacts
namespace Go.Proofs.Qxb6616995a
open Go.RowKit
set_option linter.unusedVariables false

/-- Some number was returned. -/
def SomeInt (e : Ending) : Prop := ∃ x : Int, e = .returned (.int .i64 x)

set_option maxHeartbeats 400000 in
theorem add_any (x : Int) (a : Option Addr) (cap : Nat) (ss : List ByteArray) (w : World) (hss : StrsAt w a ss) (hl : ss.length ≤ maxLen) :
    Calls Try.prog 7 #[.int .i64 x, .slice a ss.length cap] w fun e w' => SomeInt e ∧ w' = w := by
  unfold maxLen at hl
  go_enter Try.func7, Try.ntmps7
  go_wp2
  · go_ret
    exact ⟨⟨_, rfl⟩, rfl⟩
  · go_ret
    exact ⟨⟨_, rfl⟩, rfl⟩
  · go_loop [0, 5] (fun t i => ∃ (k : Nat) (y : Int), k ≤ ss.length ∧ i = .int .i64 k ∧ t = .int .i64 y) (fun _ i => ss.length - (intOf i).toNat)
    case atStart => exact ⟨0, _, Nat.zero_le _, rfl, rfl⟩
    case round =>
      obtain ⟨k, y, hk, rfl, rfl⟩ := hrel
      by_cases hlt : k < ss.length
      · obtain ⟨b, off, rfl, hc⟩ := hss k hlt
        go_wp2
        · go_ret
          exact ⟨⟨_, rfl⟩, rfl⟩
        · go_round
          case rel => exact ⟨k + 1, _, by omega, by go_num, rfl⟩
          case measure => simp [intOf]; omega
      · go_wp2
        go_ret
        exact ⟨⟨_, rfl⟩, rfl⟩

set_option maxHeartbeats 400000 in
theorem hdr_any (t : ByteArray) (na va : Option Addr) (nc vc : Nat) (ns : List ByteArray) (vs : List Sl) (w : World) (hns : StrsAt w na ns) (hvs : SlsAt w va vs) (hl : ns.length ≤ maxLen) (hlv : vs.length ≤ maxLen) (hlw : ∀ i, (vs.getD i Sl.nil).ss.length ≤ maxLen) :
    Calls Try.prog 6 #[.string t, .slice na ns.length nc, .slice va vs.length vc] w fun e w' => SomeInt e ∧ w' = w := by
  have hl0 := hl
  have hlw0 : Hid (∀ i, (vs.getD i Sl.nil).ss.length ≤ maxLen) := hlw
  clear hlw
  unfold maxLen at hl hlv
  go_enter Try.func6, Try.ntmps6
  go_wp2_with (first | (go_at_call 7; refine (add_any _ _ _ ns w hns hl0).mono ?_; rintro e w1 ⟨⟨r, rfl⟩, hw⟩; have hw := hw.symm; subst hw))
  any_goals (go_ret; exact ⟨⟨_, rfl⟩, rfl⟩)
  go_loop [7, 8] (fun t i => ∃ (k : Nat) (y : Int), k ≤ vs.length ∧ i = .int .i64 k ∧ t = .int .i64 y) (fun _ i => vs.length - (intOf i).toNat)
  case atStart => exact ⟨0, _, Nat.zero_le _, rfl, rfl⟩
  case round =>
    obtain ⟨k, y, hk, rfl, rfl⟩ := hrel
    by_cases hlt : k < vs.length
    · obtain ⟨b, off, rfl, hc, hat⟩ := hvs k hlt
      have hlk := hlw0.out k
      have HA : Hid ((vs.getD k Sl.nil).At w) := hat
      clear hat
      generalize vs.getD k Sl.nil = s at *
      obtain ⟨sa, sc, ss⟩ := s
      have hc : w.cell? ⟨b, off + k, none⟩ = some (.slice sa ss.length sc) := hc
      go_wp2_with (first | (go_at_call 7; refine (add_any _ _ _ ss w HA.out.1 hlk).mono ?_; rintro e w1 ⟨⟨r, rfl⟩, hw⟩; have hw := hw.symm; subst hw))
      · go_ret
        exact ⟨⟨_, rfl⟩, rfl⟩
      · go_round
        case rel => exact ⟨k + 1, _, by omega, by go_num, rfl⟩
        case measure => simp [intOf]; omega
    · go_wp2
      go_ret
      exact ⟨⟨_, rfl⟩, rfl⟩
end Go.Proofs.Qxb6616995a
