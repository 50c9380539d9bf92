/-
  zzBytes (5): false, or true and the input is small; the world as it was.
-/
import Derived.Test.Qxb6616995aGuard
namespace Go.Proofs.Qxb6616995a
open Go.RowKit
set_option linter.unusedVariables false

/-- What the guard's true says of the input. -/
def Small (t : ByteArray) (ns : List ByteArray) (vs : List Sl) (nm : ByteArray) (ls : Sl) : Prop :=
  t.size ≤ 1048576 ∧ ns.length ≤ 1048576 ∧ (∀ i, i < ns.length → (ns.getD i ByteArray.empty).size ≤ 1048576) ∧ (∀ i, i < vs.length → (vs.getD i Sl.nil).Fits) ∧ nm.size ≤ 1048576 ∧ ls.Fits
/-- False, or true and p. -/
def Says (e : Ending) (p : Prop) : Prop := e = .returned (.bool false) ∨ (e = .returned (.bool true) ∧ p)

theorem sizes_snoc (ss : List ByteArray) (k : Nat) (h : k < ss.length) : sizes (ss.take (k + 1)) = sizes (ss.take k) + (ss.getD k ByteArray.empty).size := by
  unfold sizes
  rw [List.take_succ_eq_append_getElem h, List.map_append, List.sum_append]
  simp [List.getD_eq_getElem?_getD, h]

set_option maxHeartbeats 1600000 in
set_option maxRecDepth 20000 in
theorem bytes_any (t : ByteArray) (na va la : Option Addr) (nc vc lc : Nat) (ns : List ByteArray) (vs : List Sl) (nm : ByteArray) (ls : List ByteArray) (w : World) (hns : StrsAt w na ns) (hvs : SlsAt w va vs) (hls : StrsAt w la ls)
    (hl : ns.length ≤ maxLen) (hlv : vs.length ≤ maxLen) (hll : ls.length ≤ maxLen) (hlw : ∀ i, (vs.getD i Sl.nil).ss.length ≤ maxLen) :
    Calls Try.prog 5 #[.string t, .slice na ns.length nc, .slice va vs.length vc, .string nm, .slice la ls.length lc] w fun e w' => Says e (Small t ns vs nm ⟨la, lc, ls⟩) ∧ w' = w := by
  have hlw0 : Hid (∀ i, (vs.getD i Sl.nil).ss.length ≤ maxLen) := hlw
  have HVS : Hid (SlsAt w va vs) := hvs
  have HLS : Hid (StrsAt w la ls) := hls
  have HNS : Hid (StrsAt w na ns) := hns
  clear hlw hvs hls hns
  unfold maxLen at hl hlv hll
  go_enter Try.func5, Try.ntmps5
  go_wp2
  any_goals (go_ret; exact ⟨.inl rfl, rfl⟩)
  go_loop [11, 12] (fun t i => ∃ (k y : Nat), k ≤ ns.length ∧ y ≤ 1048576 ∧ i = .int .i64 k ∧ t = .int .i64 y ∧ ∀ j, j < k → (ns.getD j ByteArray.empty).size ≤ 1048576) (fun _ i => ns.length - (intOf i).toNat)
  case atStart => exact ⟨0, t.size + ns.length, Nat.zero_le _, by omega, rfl, by go_num, fun j hj => absurd hj (by omega)⟩
  case round =>
    obtain ⟨k, y, hk, hy, rfl, rfl, hall⟩ := hrel
    have H1 : Hid (∀ j, j < k → (ns.getD j ByteArray.empty).size ≤ 1048576) := hall
    clear hall
    by_cases hlt : k < ns.length
    · obtain ⟨b, off, rfl, hc⟩ := HNS.out k hlt
      obtain ⟨s, hs⟩ : ∃ s, ns.getD k ByteArray.empty = s := ⟨_, rfl⟩
      rw [hs] at hc
      have HS : Hid (ns.getD k ByteArray.empty = s) := hs
      clear hs
      go_wp2
      any_goals (go_ret; exact ⟨.inl rfl, rfl⟩)
      go_round
      case rel => exact ⟨k + 1, y + s.size, by omega, by omega, by go_num, by go_num, fun j hj => by
        by_cases e : j = k
        · subst e; rw [HS.out]; omega
        · exact H1.out j (by omega)⟩
      case measure => simp [intOf]; omega
    · obtain rfl : k = ns.length := by omega
      go_wp2
      any_goals (go_ret; exact ⟨.inl rfl, rfl⟩)
      go_loop [11, 13, 14] (fun t i _ => ∃ (k y : Nat), k ≤ vs.length ∧ y ≤ 1048576 ∧ i = .int .i64 k ∧ t = .int .i64 y ∧ ∀ j, j < k → (vs.getD j Sl.nil).Fits) (fun _ i _ => vs.length - (intOf i).toNat)
      case atStart => exact ⟨0, y + vs.length, Nat.zero_le _, by omega, rfl, by go_num, fun j hj => absurd hj (by omega)⟩
      case round =>
        clear hy hlt
        obtain ⟨k, z, hk, hz, rfl, rfl, hall⟩ := hrel
        have H2 : Hid (∀ j, j < k → (vs.getD j Sl.nil).Fits) := hall
        clear hall
        by_cases hlt : k < vs.length
        · obtain ⟨b, off, rfl, hc, hat⟩ := HVS.out k hlt
          have hlk := hlw0.out k
          obtain ⟨⟨sa, sc, ss⟩, hs⟩ : ∃ s, vs.getD k Sl.nil = s := ⟨_, rfl⟩
          rw [hs] at hc hat hlk
          have HS : Hid (vs.getD k Sl.nil = ⟨sa, sc, ss⟩) := hs
          have HA : Hid (StrsAt w sa ss) := hat.1
          replace hc : w.cell? ⟨b, off + k, none⟩ = some (.slice sa ss.length sc) := hc
          replace hlk : ss.length ≤ 9223372036854775807 := hlk
          clear hs hat
          go_wp2
          any_goals (go_ret; exact ⟨.inl rfl, rfl⟩)
          go_loop [11, 14] (fun t i => ∃ (j y : Nat), j ≤ ss.length ∧ y ≤ 1048576 ∧ i = .int .i64 j ∧ t = .int .i64 y ∧ sizes (ss.take j) ≤ y) (fun _ i => ss.length - (intOf i).toNat)
          case atStart => exact ⟨0, z + ss.length, Nat.zero_le _, by omega, rfl, by go_num, by simp [sizes]⟩
          case round =>
            obtain ⟨j, x, hj, hx, rfl, rfl, hall⟩ := hrel
            have H3 : Hid (sizes (ss.take j) ≤ x) := hall
            clear hall
            by_cases hlj : j < ss.length
            · obtain ⟨b2, off2, rfl, hc2⟩ := HA.out j hlj
              have HN := sizes_snoc ss j hlj
              obtain ⟨s, hs⟩ : ∃ s, ss.getD j ByteArray.empty = s := ⟨_, rfl⟩
              rw [hs] at hc2 HN
              have HN : Hid (sizes (ss.take (j + 1)) = sizes (ss.take j) + s.size) := HN
              clear hs
              go_wp2
              any_goals (go_ret; exact ⟨.inl rfl, rfl⟩)
              go_round
              case rel => exact ⟨j + 1, x + s.size, by omega, by omega, by go_num, by go_num, by have := HN.out; have := H3.out; omega⟩
              case measure => simp [intOf]; omega
            · obtain rfl : j = ss.length := by omega
              go_wp2
              go_round
              case rel => exact ⟨k + 1, x, by omega, by omega, by go_num, by go_num, fun j hj => by
                by_cases e : j = k
                · subst e
                  rw [HS.out]
                  have := H3.out
                  rw [List.take_length] at this
                  exact ⟨by show ss.length ≤ 1048576; omega, by show sizes ss ≤ 1048576; omega⟩
                · exact H2.out j (by omega)⟩
              case measure => simp [intOf]; omega
        · obtain rfl : k = vs.length := by omega
          go_wp2
          any_goals (go_ret; exact ⟨.inl rfl, rfl⟩)
          go_loop [11, 15] (fun t i => ∃ (k y : Nat), k ≤ ls.length ∧ y ≤ 1048576 ∧ i = .int .i64 k ∧ t = .int .i64 y ∧ sizes (ls.take k) ≤ y) (fun _ i => ls.length - (intOf i).toNat)
          case atStart => exact ⟨0, z + nm.size + ls.length, Nat.zero_le _, by omega, rfl, by go_num, by simp [sizes]⟩
          case round =>
            clear hlt hz
            obtain ⟨k, x, hk, hx, rfl, rfl, hall⟩ := hrel
            have H3 : Hid (sizes (ls.take k) ≤ x) := hall
            clear hall
            by_cases hlt : k < ls.length
            · obtain ⟨b, off, rfl, hc⟩ := HLS.out k hlt
              have HN := sizes_snoc ls k hlt
              obtain ⟨s, hs⟩ : ∃ s, ls.getD k ByteArray.empty = s := ⟨_, rfl⟩
              rw [hs] at hc HN
              have HN : Hid (sizes (ls.take (k + 1)) = sizes (ls.take k) + s.size) := HN
              clear hs
              go_wp2
              any_goals (go_ret; exact ⟨.inl rfl, rfl⟩)
              go_round
              case rel => exact ⟨k + 1, x + s.size, by omega, by omega, by go_num, by go_num, by have := HN.out; have := H3.out; omega⟩
              case measure => simp [intOf]; omega
            · obtain rfl : k = ls.length := by omega
              go_wp2
              go_ret
              exact ⟨.inr ⟨rfl, by omega, by omega, H1.out, H2.out, by omega, by show ls.length ≤ 1048576; omega, by have := H3.out; rw [List.take_length] at this; show sizes ls ≤ 1048576; omega⟩, rfl⟩
end Go.Proofs.Qxb6616995a
