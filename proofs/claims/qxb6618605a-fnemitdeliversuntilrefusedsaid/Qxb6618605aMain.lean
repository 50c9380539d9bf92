/-
  The law's own walk (4).
-/
import Derived.Test.Qxb6618605aEmit
import Derived.Deep.CutBlock
namespace Go.Proofs.Qxb6618605a
open Go.RowKit
set_option linter.unusedVariables false
attribute [local go_sem ↓] Go.wp_at_zero Go.wp_at_succ

/-- The cells of the Differences of these paths. -/
def cellsOf (o q : ByteArray) (ps : List ByteArray) : List Value := ps.flatMap fun p => [.string p, .string o, .string q]

theorem cellsOf_snoc (o q : ByteArray) (ss : List ByteArray) (k : Nat) (h : k < ss.length) : cellsOf o q (ss.take (k + 1)) = cellsOf o q (ss.take k) ++ [.string (ss[k]'h), .string o, .string q] := by
  unfold cellsOf
  rw [List.take_succ_eq_append_getElem h, List.flatMap_append]
  simp

theorem cellsOf_get (o q : ByteArray) : ∀ (ps : List ByteArray) (k : Nat) (h : k < ps.length), (cellsOf o q ps)[k * 3]? = some (.string ps[k]) ∧ (cellsOf o q ps)[k * 3 + 1]? = some (.string o) ∧ (cellsOf o q ps)[k * 3 + 2]? = some (.string q)
  | [], _, h => absurd h (by simp)
  | p :: ps, 0, _ => by simp [cellsOf]
  | p :: ps, k + 1, h => by
    have := cellsOf_get o q ps k (by simpa using h)
    have e : cellsOf o q (p :: ps) = [.string p, .string o, .string q] ++ cellsOf o q ps := by simp [cellsOf]
    rw [e]
    refine ⟨?_, ?_, ?_⟩
    all_goals rw [List.getElem?_append_right (by simp; omega)]
    · simpa [show (k + 1) * 3 - 3 = k * 3 by omega] using this.1
    · simpa [show (k + 1) * 3 + 1 - 3 = k * 3 + 1 by omega] using this.2.1
    · simpa [show (k + 1) * 3 + 2 - 3 = k * 3 + 2 by omega] using this.2.2

theorem step_done {R V D base : Nat} {limit : Int} {v : Value} {n k K : Nat} {xs : List Value} {w : World} (hd : K ≤ k) (h : Rec R V D base limit v n xs (decide (K ≤ k)) w) : Rec R V D base limit v n xs true w := by
  rw [decide_eq_true hd] at h; exact h
theorem rel_done {R V D base : Nat} {limit : Int} {v : Value} {k K : Nat} {o q : ByteArray} {ss : List ByteArray} {w : World} (hd : K ≤ k) (h : Rec R V D base limit v (min k K) (cellsOf o q (ss.take (min k K))) true w) :
    Rec R V D base limit v (min (k + 1) K) (cellsOf o q (ss.take (min (k + 1) K))) (decide (K ≤ k + 1)) w := by
  rw [show min (k + 1) K = min k K by omega, decide_eq_true (by omega)]; exact h
theorem step_go {R V D base : Nat} {limit : Int} {v : Value} {k K : Nat} {o q : ByteArray} {ss : List ByteArray} {w : World} (hd : ¬ K ≤ k) (h : Rec R V D base limit v (min k K) (cellsOf o q (ss.take (min k K))) (decide (K ≤ k)) w) : Rec R V D base limit v k (cellsOf o q (ss.take k)) false w := by
  rw [decide_eq_false hd, show min k K = k by omega] at h; exact h
theorem rel_go {R V D base : Nat} {limit : Int} {v : Value} {k K : Nat} {o q : ByteArray} {ss : List ByteArray} {w : World} (hd : ¬ K ≤ k) (hlt : k < ss.length) (hK : 1 ≤ K ∧ (limit < 1 → K = 1) ∧ (1 ≤ limit → (K : Int) = limit))
    (h : Rec R V D base limit v (k + 1) (cellsOf o q (ss.take k) ++ [.string (ss[k]'hlt), .string o, .string q]) (!decide ((k : Int) + 1 < limit)) w) :
    Rec R V D base limit v (min (k + 1) K) (cellsOf o q (ss.take (min (k + 1) K))) (decide (K ≤ k + 1)) w := by
  have e : decide (K ≤ k + 1) = !decide ((k : Int) + 1 < limit) := by
    rw [← decide_not]
    exact decide_eq_decide.2 (by omega)
  rw [show min (k + 1) K = k + 1 by omega, e, cellsOf_snoc o q ss k hlt]; exact h

set_option maxRecDepth 100000 in
set_option maxHeartbeats 1600000 in
theorem walk (a : Option Addr) (cap : Nat) (ss : List ByteArray) (o q : ByteArray) (limit : Int) (w : World) (hss : StrsAt w a ss) (hl : ss.length ≤ maxLen) :
    Calls Try.prog 4 #[.slice a ss.length cap, .string o, .string q, .int .i64 limit] w fun e w' => e = .returned (.bool true) ∧ Below w.heap.size w w' := by
  have hl0 := hl
  unfold maxLen at hl
  obtain ⟨K, HK⟩ : ∃ K : Nat, Hid (1 ≤ K ∧ (limit < 1 → K = 1) ∧ (1 ≤ limit → (K : Int) = limit)) := by
    by_cases h1 : limit < 1
    · exact ⟨1, by unfold Hid; omega⟩
    · exact ⟨limit.toNat, by unfold Hid; omega⟩
  go_enter Try.func4, Try.ntmps4
  go_upto_if 45 with (first | (go_at_call 7; refine (bytes_any a cap ss o q limit w hss hl0).mono ?_; rintro e w1 ⟨⟨r, rfl⟩, hw⟩; have hw := hw.symm; subst hw) | (go_at_call 8; refine (fit_any a cap ss _ w hss hl0).mono ?_; rintro e w1 ⟨⟨r2, rfl⟩, hw⟩; have hw := hw.symm; subst hw))
  any_goals (go_ret; exact ⟨rfl, Below.refl _ _⟩)
  have hn : ss.length ≤ 65536 := by omega
  go_cut [9] (fun c wx => c = .int .i64 K ∧ w = wx)
  case first =>
    have hk := HK.out
    by_cases h1 : limit < 1
    · go_wp2
      go_meet
      case rel => exact ⟨by rw [hk.2.1 h1]; rfl, rfl⟩
    · go_wp2
      go_meet
      case rel => exact ⟨by rw [hk.2.2 (by omega)], rfl⟩
  case rest =>
    obtain ⟨rfl, rfl⟩ := hcut
    go_upto_if 50 with fail
    go_cut [10] (fun c wx => c = .int .i64 (min ss.length K : Nat) ∧ w = wx)
    case first =>
      by_cases h1 : (K : Int) < ss.length
      · go_wp2
        go_meet
        case rel => exact ⟨by congr 1; omega, rfl⟩
      · go_wp2
        go_meet
        case rel => exact ⟨by congr 1; omega, rfl⟩
    case rest =>
      obtain ⟨rfl, rfl⟩ := hcut
      go_wp2_with (first | (go_at_call 9; refine (new_any limit _).mono ?_; rintro e w1 ⟨rfl, hrec, hbel⟩))
      have HB : Hid (Below w.heap.size w w1) := hbel
      go_loopw [13] (fun i wr => ∃ (k : Nat) (v : Value), k ≤ ss.length ∧ i = .int .i64 k ∧ Rec w.heap.size (w.heap.size + 1) (w.heap.size + 2) (w.heap.size + 3) limit v (min k K) (cellsOf o q (ss.take (min k K))) (decide (K ≤ k)) wr ∧ Below w.heap.size w wr) (fun i _ => ss.length - (intOf i).toNat)
      case atStart =>
        have hk := HK.out
        exact ⟨0, _, Nat.zero_le _, rfl, by rw [Nat.min_eq_left (Nat.zero_le _), decide_eq_false (by omega)]; exact hrec, HB.out⟩
      case round =>
        clear hbel
        obtain ⟨k, v, hk, rfl, hr, hb⟩ := hrel
        have HRR : Hid (Rec w.heap.size (w.heap.size + 1) (w.heap.size + 2) (w.heap.size + 3) limit v (min k K) (cellsOf o q (ss.take (min k K))) (decide (K ≤ k)) wr) := hr
        have HBB : Hid (Below w.heap.size w wr) := hb
        clear hr hrec
        by_cases hlt : k < ss.length
        · obtain ⟨b, off, rfl, hc⟩ := hss k hlt
          have hcr : wr.cell? ⟨b, off + k, none⟩ = some (.string (ss.getD k ByteArray.empty)) := (hb.cell (World.block_lt_of_cell? w _ hc)).trans hc
          clear hb hc
          by_cases hd : K ≤ k
          · go_wp2_with (first | (go_at_call 10; refine (zz_done _ _ _ _ limit v _ _ _ _ _ _ (step_done hd HRR.out)).mono ?_; rintro e w2 ⟨rfl, hr2, hb2⟩))
            go_roundw
            case rel => exact ⟨k + 1, v, by omega, by go_num, rel_done hd hr2, HBB.out.trans (hb2 _ (by omega) (by omega) (by omega) (by omega))⟩
            case measure => simp [intOf]; omega
          · go_wp2_with (first | (go_at_call 10; refine (zz_go _ _ _ _ limit v k _ _ _ _ _ (step_go hd HRR.out) (by omega)).mono ?_; rintro e w2 ⟨rfl, ⟨v2, hr2⟩, hb2⟩))
            go_roundw
            case rel => exact ⟨k + 1, v2, by omega, by go_num, rel_go hd hlt HK.out hr2, HBB.out.trans (hb2 _ (by omega) (by omega) (by omega) (by omega))⟩
            case measure => simp [intOf]; omega
        · obtain rfl : k = ss.length := by omega
          clear hb
          obtain ⟨m, hm⟩ : ∃ m, m = min ss.length K := ⟨_, rfl⟩
          rw [← hm] at HRR
          have HM : Hid (m = min ss.length K) := hm
          rw [← hm]
          clear hm
          go_wp2_with (first | (go_at_call 11; refine (len_any _ _ _ _ limit v _ _ _ _ HRR.out).mono ?_; rintro e w2 ⟨rfl, hw⟩; have hw := hw.symm; subst hw) | (go_at_call 12; refine (done_any _ _ _ _ limit v _ _ _ _ HRR.out).mono ?_; rintro e w2 ⟨rfl, hw⟩; have hw := hw.symm; subst hw))
          go_loopw [14, 15] (fun i d wx => ∃ (k : Nat), k ≤ m ∧ i = .int .i64 k ∧ Rec w.heap.size (w.heap.size + 1) (w.heap.size + 2) (w.heap.size + 3) limit v m (cellsOf o q (ss.take m)) (decide (K ≤ ss.length)) wx ∧ Below w.heap.size w wx) (fun i _ _ => m - (intOf i).toNat)
          case atStart => exact ⟨0, Nat.zero_le _, rfl, HRR.out, HBB.out⟩
          case round =>
            rename_i wy
            obtain ⟨k, hk, rfl, hr, hb⟩ := hrel
            have hme : m ≤ ss.length := by have := HM.out; omega
            by_cases hlt : k < m
            · have hks : k < ss.length := by omega
              obtain ⟨b, off, rfl, hc⟩ := hss k hks
              have hx := cellsOf_get o q (ss.take m) k (by simp; omega)
              rw [List.getElem_take] at hx
              have HX : Hid ((cellsOf o q (ss.take m))[k * 3]? = some (.string ss[k]) ∧ (cellsOf o q (ss.take m))[k * 3 + 1]? = some (.string o) ∧ (cellsOf o q (ss.take m))[k * 3 + 2]? = some (.string q)) := hx
              clear hx
              go_wp2_with (first | (go_at_call 13; refine (at_any _ _ _ _ limit v m _ _ k ss[k] o q _ hr hlt (by omega) HX.out.1 HX.out.2.1 HX.out.2.2).mono ?_; rintro e w2 ⟨rfl, hb2⟩; have hb3 := hb.trans (hb2.mono hb.size); have hcr : w2.cell? ⟨b, off + k, none⟩ = some (.string (ss.getD k ByteArray.empty)) := ((hb3.cell (World.block_lt_of_cell? w _ hc)).trans hc); have hbl : b < w2.heap.size := (Nat.lt_of_lt_of_le (World.block_lt_of_cell? w _ hc) hb3.size)))
              go_quiet (fail)
              go_wp2
              go_roundw
              case rel => exact ⟨k + 1, by omega, by go_num, hr.below (((hb2.alloc hb2.size _)).trans ⟨rfl, rfl, rfl, Nat.le_refl _, fun _ _ => rfl⟩), (hb3.alloc hb3.size _).trans ⟨rfl, rfl, rfl, Nat.le_refl _, fun _ _ => rfl⟩⟩
              case measure => simp [intOf]; omega
            · go_wp2
              go_ret
              exact ⟨rfl, hb⟩
end Go.Proofs.Qxb6618605a
