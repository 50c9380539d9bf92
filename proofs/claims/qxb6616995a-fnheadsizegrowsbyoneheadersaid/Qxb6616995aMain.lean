/-
  The law's own walk (3).
-/
import Derived.Test.Qxb6616995aZz
import Derived.Test.Qxb6616995aBytes
import Derived.Test.Qxb6616995aBuild
import Derived.Deep.CutBlock
namespace Go.Proofs.Qxb6616995a
open Go.RowKit
set_option linter.unusedVariables false

theorem sizes_take_le : ∀ (ss : List ByteArray) (k : Nat), sizes (ss.take k) ≤ sizes ss
  | [], _ => by simp [sizes]
  | x :: r, 0 => by simp [sizes]
  | x :: r, k + 1 => by
    have := sizes_take_le r k
    simp only [sizes, List.take_succ_cons, List.map_cons, List.sum_cons] at *
    omega

set_option maxRecDepth 100000 in
set_option maxHeartbeats 1600000 in
theorem walk (t : ByteArray) (na va la : Option Addr) (nc vc lc : Nat) (ns : List ByteArray) (vs : List Sl) (nm : ByteArray) (ls : List ByteArray) (w : World) (hns : StrsAt w na ns) (hvs : SlsAt w va vs) (hls : Sl.At ⟨la, lc, ls⟩ w)
    (hl : ns.length ≤ maxLen) (hlv : vs.length ≤ maxLen) (hll : ls.length ≤ maxLen) (hlw : ∀ i, (vs.getD i Sl.nil).ss.length ≤ maxLen) :
    Calls Try.prog 3 #[.string t, .slice na ns.length nc, .slice va vs.length vc, .string nm, .slice la ls.length lc] w fun e w' => e = .returned (.bool true) ∧ Below w.heap.size w w' := by
  have HNS : Hid (StrsAt w na ns) := hns
  have HVS : Hid (SlsAt w va vs) := hvs
  have HLS : Hid (Sl.At ⟨la, lc, ls⟩ w) := hls
  have HL : Hid (ns.length ≤ maxLen ∧ vs.length ≤ maxLen ∧ ls.length ≤ maxLen ∧ ∀ i, (vs.getD i Sl.nil).ss.length ≤ maxLen) := ⟨hl, hlv, hll, hlw⟩
  clear hns hvs hls hlw
  unfold maxLen at hl hlv hll
  go_enter Try.func3, Try.ntmps3
  go_wp2_with fail
  refine (bytes_any t na va la nc vc lc ns vs nm ls w HNS.out HVS.out HLS.out.1 HL.out.1 HL.out.2.1 HL.out.2.2.1 HL.out.2.2.2).mono ?_
  rintro e w1 ⟨hs, hw⟩
  have hw := hw.symm
  subst hw
  rcases hs with rfl | ⟨rfl, hsm⟩
  · go_wp2
    go_ret
    exact ⟨rfl, Below.refl _ _⟩
  have HS : Hid (Small t ns vs nm ⟨la, lc, ls⟩) := hsm
  clear hsm
  go_wp2_with fail
  refine (hdr_any t na va nc vc ns vs w HNS.out HVS.out HL.out.1 HL.out.2.1 HL.out.2.2.2).mono ?_
  rintro e w1 ⟨⟨r1, rfl⟩, hw⟩
  have hw := hw.symm
  subst hw
  go_wp2_with fail
  any_goals (go_ret; exact ⟨rfl, Below.refl _ _⟩)
  refine (add_any _ la lc ls w HLS.out.1 HL.out.2.2.1).mono ?_
  rintro e w1 ⟨⟨r2, rfl⟩, hw⟩
  have hw := hw.symm
  subst hw
  go_wp2_with fail
  any_goals (go_ret; exact ⟨rfl, Below.refl _ _⟩)
  go_loop [12] (fun i => ∃ k : Nat, k ≤ ns.length ∧ i = .int .i64 k ∧ ∀ j, j < k → ns.getD j ByteArray.empty ≠ nm) (fun i => ns.length - (intOf i).toNat)
  case atStart => exact ⟨0, Nat.zero_le _, rfl, fun j hj => absurd hj (by omega)⟩
  case round =>
    obtain ⟨k, hk, rfl, hall⟩ := hrel
    have H1 : Hid (∀ j, j < k → ns.getD j ByteArray.empty ≠ nm) := hall
    clear hall
    by_cases hlt : k < ns.length
    · obtain ⟨b, off, rfl, hc⟩ := HNS.out k hlt
      obtain ⟨s, hs⟩ : ∃ s, ns.getD k ByteArray.empty = s := ⟨_, rfl⟩
      rw [hs] at hc
      have HSS : Hid (ns.getD k ByteArray.empty = s) := hs
      clear hs
      go_wp2
      · go_ret
        exact ⟨rfl, Below.refl _ _⟩
      · rename_i hne
        have HNE : Hid (s ≠ nm) := by rintro rfl; simp at hne
        clear hne
        go_round
        case rel => exact ⟨k + 1, by omega, by go_num, fun j hj => by
          by_cases e : j = k
          · subst e; rw [HSS.out]; exact HNE.out
          · exact H1.out j (by omega)⟩
        case measure => simp [intOf]; omega
    · obtain rfl : k = ns.length := by omega
      clear hk hlt
      obtain ⟨kvs, hkv⟩ : ∃ kvs, bld ns vs ns.length = kvs := ⟨_, rfl⟩
      have hmem : ∀ p ∈ kvs, ∃ i, i < ns.length ∧ p = (ns.getD i ByteArray.empty, vs.getD i Sl.nil) := fun p hp => bld_mem (by rw [hkv]; exact hp)
      have HM : Hid (∀ p ∈ kvs, p.2.At w ∧ p.2.Fits) := fun p hp => by
        obtain ⟨i, hi, rfl⟩ := hmem p hp
        refine ⟨HVS.out.mem i, ?_⟩
        by_cases hv : i < vs.length
        · exact HS.out.2.2.2.1 i hv
        · have e0 : vs.getD i Sl.nil = Sl.nil := by simp [List.getD_eq_getElem?_getD, Nat.le_of_not_lt hv]
          show (vs.getD i Sl.nil).Fits
          rw [e0]; exact Sl.nil_fits
      have HNEW : Hid (∀ p ∈ kvs, p.1 ≠ nm) := fun p hp => by
        obtain ⟨i, hi, rfl⟩ := hmem p hp
        exact H1.out i hi
      have htot : total kvs ≤ 2199023255552 := by
        have h1 := total_le (M := 2097152) kvs (fun p hp => by
          obtain ⟨i, hi, e⟩ := hmem p hp
          have h2 := (HM.out p hp).2.2
          have h3 := HS.out.2.2.1 i hi
          unfold wt
          rw [e] at h2 ⊢
          show (ns.getD i ByteArray.empty).size + sizes (vs.getD i Sl.nil).ss ≤ 2097152
          have h2 : sizes (vs.getD i Sl.nil).ss ≤ 1048576 := h2
          omega)
        have h2 : kvs.length ≤ ns.length := by rw [← hkv]; exact bld_len ns vs _
        have h3 := HS.out.2.1
        have h4 : kvs.length * 2097152 ≤ 1048576 * 2097152 := Nat.mul_le_mul_right _ (by omega)
        omega
      have htb : t.size ≤ 1048576 := HS.out.1
      have hnb : nm.size ≤ 1048576 := HS.out.2.2.2.2.1
      have hlb : sizes ls ≤ 1048576 := HS.out.2.2.2.2.2.2
      have hlb2 : ls.length ≤ 1048576 := HS.out.2.2.2.2.2.1
      have HT : Hid (t.size + total kvs ≤ 4611686018427387904) := by unfold Hid; omega
      obtain ⟨A, hA⟩ : ∃ A, t.size + total kvs = A := ⟨_, rfl⟩
      have hAb : A ≤ 4398046511104 := by omega
      have HA : Hid (t.size + total kvs = A) := hA
      obtain ⟨D, hD⟩ : ∃ D, nm.size + sizes ls = D := ⟨_, rfl⟩
      have hDb : D ≤ 2097152 := by omega
      have HD : Hid (nm.size + sizes ls = D) := hD
      have HK : Hid (bld ns vs ns.length = kvs) := hkv
      clear hmem htot hA hD hkv H1 hlb
      go_wp2_with fail
      refine (build_any na va nc vc ns vs w HNS.out HVS.out HL.out.1).mono ?_
      rintro e w1 ⟨rfl, hw1⟩
      rw [HK.out] at hw1
      have HW1 : Hid (w1 = w.alloc (blk kvs)) := hw1
      clear hw1
      go_wp2_with fail
      have z1 := zz_any t kvs w.heap.size w1 (by rw [HW1.out]; exact (MapKept.heap_alloc w _).1) (fun p hp => (HM.out p hp).1.below (by rw [HW1.out]; exact (Below.refl _ _).alloc (Nat.le_refl _) _)) (fun p hp => (HM.out p hp).2) HT.out
      rw [HA.out] at z1
      refine z1.mono ?_
      clear z1
      rintro e w2 ⟨rfl, hb2⟩
      have HB2 : Hid (Below w.heap.size w w2) := ((show Below w.heap.size w w1 by rw [HW1.out]; exact (Below.refl _ _).alloc (Nat.le_refl _) _)).trans (hb2.mono (by rw [HW1.out]; simp))
      clear hb2
      go_wp2_with fail
      refine (build_any na va nc vc ns vs w2 (HNS.out.below HB2.out) (HVS.out.below HB2.out) HL.out.1).mono ?_
      rintro e w3 ⟨rfl, hw3⟩
      rw [HK.out] at hw3
      subst hw3
      have hup : (Instr.mapUpdate 28 (.map (some w2.heap.size)) (.string nm) (.slice la ls.length lc)).run Try.prog (w2.alloc (blk kvs)) = .ok () (w2.alloc (blk (kvs ++ [(nm, ⟨la, lc, ls⟩)]))) := by
        have := run_put_new w2 kvs nm ⟨la, lc, ls⟩
        rw [put_new _ HNEW.out] at this
        exact this
      go_wp2_with fail
      have HB4 : Hid (Below w.heap.size w (w2.alloc (blk (kvs ++ [(nm, ⟨la, lc, ls⟩)])))) := HB2.out.alloc HB2.out.size _
      have z2 := zz_any t (kvs ++ [(nm, ⟨la, lc, ls⟩)]) w2.heap.size _ (MapKept.heap_alloc w2 _).1
        (fun p hp => by
          rcases List.mem_append.1 hp with h | h
          · exact (HM.out p h).1.below HB4.out
          · obtain rfl := List.mem_singleton.1 h
            exact HLS.out.below HB4.out)
        (fun p hp => by
          rcases List.mem_append.1 hp with h | h
          · exact (HM.out p h).2
          · obtain rfl := List.mem_singleton.1 h
            exact HS.out.2.2.2.2.2)
        (by
          rw [total_snoc]
          have h1 := HA.out
          have h2 : wt (nm, ⟨la, lc, ls⟩) = D := HD.out
          omega)
      have hAD : t.size + total (kvs ++ [(nm, ⟨la, lc, ls⟩)]) = A + D := by
        rw [total_snoc]
        have h1 := HA.out
        have h2 : wt (nm, ⟨la, lc, ls⟩) = D := HD.out
        omega
      rw [hAD] at z2
      clear hAD hup
      refine z2.mono ?_
      clear z2
      rintro e w5 ⟨rfl, hb5⟩
      have HB5 : Hid (Below w.heap.size w w5) := HB4.out.trans (hb5.mono (by have := HB2.out.size; simp; omega))
      clear hb5 HB4
      go_wp2_with fail
      go_loop [16, 17] (fun d i => ∃ k : Nat, k ≤ ls.length ∧ i = .int .i64 k ∧ d = .int .i64 (nm.size + sizes (ls.take k) : Nat)) (fun _ i => ls.length - (intOf i).toNat)
      case atStart => exact ⟨0, Nat.zero_le _, rfl, by simp [sizes]⟩
      case round =>
        obtain ⟨k, hk, rfl, rfl⟩ := hrel
        by_cases hlt : k < ls.length
        · obtain ⟨b, off, rfl, hc0⟩ := HLS.out.1 k hlt
          have hc0 : w.cell? ⟨b, off + k, none⟩ = some (.string (ls.getD k ByteArray.empty)) := hc0
          have hc : w5.cell? ⟨b, off + k, none⟩ = some (.string (ls.getD k ByteArray.empty)) := (HB5.out.cell (World.block_lt_of_cell? w _ hc0)).trans hc0
          have hsn := sizes_snoc ls k hlt
          have hle := sizes_take_le ls (k + 1)
          have hlb : sizes ls ≤ 1048576 := HS.out.2.2.2.2.2.2
          clear hc0
          obtain ⟨s, hs⟩ : ∃ s, ls.getD k ByteArray.empty = s := ⟨_, rfl⟩
          rw [hs] at hc hsn
          obtain ⟨y, hy⟩ : ∃ y, nm.size + sizes (ls.take k) = y := ⟨_, rfl⟩
          have HY : Hid (y + s.size = nm.size + sizes (ls.take (k + 1))) := by unfold Hid; omega
          have hyb : y + s.size ≤ 2097152 := by have := HY.out; omega
          rw [hy]
          clear hs hsn hle hlb hy
          go_wp2
          go_round
          case rel => exact ⟨k + 1, by omega, by go_num, by rw [← HY.out]; go_num⟩
          case measure => simp [intOf]; omega
        · obtain rfl : k = ls.length := by omega
          rw [List.take_length, HD.out]
          clear hk hlt
          go_wp2_with fail
          refine (zz_nil t w5 (by omega)).mono ?_
          rintro e w6 ⟨rfl, hb6⟩
          have HB6 : Hid (Below w.heap.size w w6) := HB5.out.trans (hb6.mono HB5.out.size)
          clear hb6
          go_wp2
          go_ret
          exact ⟨rfl, HB6.out⟩
end Go.Proofs.Qxb6616995a
