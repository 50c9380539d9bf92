/-
  FnResetEmptiesAndKeepsMemory (3): the walk.
-/
import Derived.Test.Qxb6619017aMain
namespace Go.Proofs.Qxb6619017a
open Go.RowKit
set_option linter.unusedVariables false

theorem RB.heap {R : Nat} {v0 v1 v2 : Value} {w w' : World} (h : RB R v0 v1 v2 w) (he : w'.heap[R]? = w.heap[R]?) : RB R v0 v1 v2 w' := by
  obtain ⟨c0, c1, c2, f0, f1⟩ := h
  have hc : ∀ o, w'.cell? ⟨R, o, none⟩ = w.cell? ⟨R, o, none⟩ := fun o => World.cell?_of_block he
  have hf : ∀ o, w'.frozen? ⟨R, o, none⟩ = w.frozen? ⟨R, o, none⟩ := fun o => World.frozen?_of_block he
  exact ⟨by rw [hc, c0], by rw [hc, c1], by rw [hc, c2], by rw [hf, f0], by rw [hf, f1]⟩

theorem CopyOf.heap {w w' : World} {B R : Nat} {a : Option Addr} {zs : List Int} (h : CopyOf w B a zs) (hl : ∀ g, a = some ⟨g, 0, none⟩ → g < R) (he : ∀ k, k ≠ R → w'.heap[k]? = w.heap[k]?) : CopyOf w' B a zs := by
  rcases h with h | ⟨g, h1, h2, h3⟩
  · exact .inl h
  · exact .inr ⟨g, h1, h2, (he g (by have := hl g h1; omega)).trans h3⟩
theorem CopyOf.lt {w : World} {B : Nat} {a : Option Addr} {zs : List Int} (h : CopyOf w B a zs) : ∀ g, a = some ⟨g, 0, none⟩ → g < w.heap.size := by
  rcases h with ⟨h, _⟩ | ⟨g, h1, h2, h3⟩
  · intro g e; rw [h] at e; cases e
  · intro g' e; rw [h1] at e; cases e; exact (Array.getElem?_eq_some_iff.1 h3).1
theorem CopyOf.plain {w : World} {B : Nat} {a : Option Addr} {zs : List Int} (h : CopyOf w B a zs) : ∀ x, a = some x → x.spot = none := by
  rcases h with ⟨h, _⟩ | ⟨g, h1, h2, h3⟩
  · intro x e; rw [h] at e; cases e
  · intro x e; rw [h1] at e; cases e; rfl
theorem CopyOf.nil {w : World} {B : Nat} {a : Option Addr} {zs : List Int} (h : CopyOf w B a zs) : a = none → zs.length = 0 ∧ zs.length = 0 := by
  rcases h with ⟨_, rfl⟩ | ⟨g, h1, h2, h3⟩
  · exact fun _ => ⟨rfl, rfl⟩
  · intro e; rw [h1] at e; cases e
theorem CopyOf.nil' {w : World} {B : Nat} {a : Option Addr} {zs : List Int} (h : CopyOf w B a zs) : a = none → zs.length = 0 ∧ zs = [] := by
  rcases h with ⟨_, rfl⟩ | ⟨g, h1, h2, h3⟩
  · exact fun _ => ⟨rfl, rfl⟩
  · intro e; rw [h1] at e; cases e

/-- All that is known of memory behind the copies and the buffer. -/
structure St (W : World) (R : Nat) (r : Value) (a1 a2 a3 : Option Addr) (s : Value) (z1 z2 : List Int) (w : World) : Prop where
  rb : RB R r s (.slice a2 z2.length z2.length) w
  k1 : CopyOf w W.heap.size a1 z1
  k2 : CopyOf w W.heap.size a2 z2
  k3 : CopyOf w W.heap.size a3 z2
  l1 : ∀ g, a1 = some ⟨g, 0, none⟩ → g < R
  l2 : ∀ g, a2 = some ⟨g, 0, none⟩ → g < R
  l3 : ∀ g, a3 = some ⟨g, 0, none⟩ → g < R
  hR : W.heap.size ≤ R
  hb : Below W.heap.size W w

theorem St.drewN {W : World} {R : Nat} {r : Value} {a1 a2 a3 : Option Addr} {s : Value} {z1 z2 : List Int} {w : World} (h : St W R r a1 a2 a3 s z1 z2 w) (k : Nat) : St W R r a1 a2 a3 s z1 z2 (w.drewN k) :=
  ⟨h.rb.heap rfl, h.k1.heap h.l1 fun _ _ => rfl, h.k2.heap h.l2 fun _ _ => rfl, h.k3.heap h.l3 fun _ _ => rfl, h.l1, h.l2, h.l3, h.hR, h.hb.trans ⟨rfl, rfl, rfl, Nat.le_refl _, fun _ _ => rfl⟩⟩

theorem reset_st (W : World) (R : Nat) (r : Value) (a1 a2 a3 : Option Addr) (n : Nat) (z1 z2 : List Int) (w : World) (h : St W R r a1 a2 a3 (.slice a1 n z1.length) z1 z2 w) (hn : n ≤ z1.length) :
    Calls Try.prog 9 #[.pointer (some ⟨R, 0, none⟩)] w fun e w' => e = .returned (.tuple #[]) ∧ St W R (.slice a1 0 z1.length) a1 a2 a3 (.slice a1 0 z1.length) z1 z2 w' := by
  refine (reset_any R r a1 n z1.length _ w h.rb (fun e => ⟨by have := (h.k1.nil e).1; omega, (h.k1.nil e).1⟩) h.k1.plain).mono ?_
  rintro e w' ⟨rfl, hrb, hB⟩
  obtain ⟨hb, hk⟩ := hB W.heap.size h.hR
  exact ⟨rfl, hrb, h.k1.heap h.l1 hk, h.k2.heap h.l2 hk, h.k3.heap h.l3 hk, h.l1, h.l2, h.l3, h.hR, h.hb.trans hb⟩

theorem emptied_st (W : World) (R : Nat) (r : Value) (a1 a2 a3 : Option Addr) (s : Value) (z1 z2 : List Int) (w : World) (h : St W R r a1 a2 a3 s z1 z2 w) (h1 : z1.length ≤ 65536) (h2 : z2.length ≤ 65536) :
    Calls Try.prog 11 #[.slice a1 0 z1.length, .slice a1 0 z1.length, .slice a2 z2.length z2.length, .slice a1 z1.length z1.length, .slice a2 z2.length z2.length, .slice a3 z2.length z2.length] w fun e w' => e = .returned (.bool true) ∧ St W R r a1 a2 a3 s z1 z2 w' := by
  refine (emptied_any a1 a2 a3 z1.length z2.length z2.length z2 w h.k2.bytes h.k3.bytes h2 h1).mono ?_
  rintro e w' ⟨rfl, k, rfl⟩
  exact ⟨rfl, h.drewN k⟩

theorem fields_st (W : World) (R : Nat) (r : Value) (a1 a2 a3 : Option Addr) (s : Value) (z1 z2 : List Int) (w : World) (h : St W R r a1 a2 a3 s z1 z2 w) :
    Calls Try.prog 10 #[.pointer (some ⟨R, 0, none⟩)] w fun e w' => e = .returned (.tuple #[r, s, .slice a2 z2.length z2.length]) ∧ St W R r a1 a2 a3 s z1 z2 w' := by
  refine (fields_any R _ _ _ w h.rb).mono ?_
  rintro e w' ⟨rfl, k, rfl⟩
  exact ⟨rfl, h.drewN k⟩

set_option maxHeartbeats 800000 in
set_option maxRecDepth 100000 in
theorem law (x0 x1 x2 : Option Addr) (c0 c1 c2 : Nat) (z0 z1 z2 : List Int) (w : World) (h0 : BytesAt w x0 z0) (h1 : BytesAt w x1 z1) (h2 : BytesAt w x2 z2)
    (n0 : x0 = none → c0 = 0 ∧ z0 = []) (n1 : x1 = none → c1 = 0 ∧ z1 = []) (n2 : x2 = none → c2 = 0 ∧ z2 = []) :
    Calls Try.prog 3 #[.slice x0 z0.length c0, .slice x1 z1.length c1, .slice x2 z2.length c2] w fun e w' => e = .returned (.bool true) ∧ Below w.heap.size w w' := by
  go_enter Try.func3, Try.ntmps3
  go_wp2_with (first | (go_at_call 6; refine (bytes_any _ _ _ _ _ _ _ _ _ _).mono ?_; rintro e w1 ⟨⟨r, rfl⟩, hw⟩; have hw := hw.symm; subst hw))
  any_goals (go_ret; exact ⟨rfl, Below.refl _ _⟩)
  have l0 : z0.length ≤ 65536 := by omega
  have l1 : z1.length ≤ 65536 := by omega
  have l2 : z2.length ≤ 65536 := by omega
  refine (copy_any x0 c0 z0 w h0 l0 n0).mono ?_
  rintro e w1 ⟨a0, rfl, k0, b1⟩
  clear k0
  go_wp2_with fail
  refine (copy_any x1 c1 z1 w1 (bytesAt_below h1 b1) l1 n1).mono ?_
  rintro e w2 ⟨a1, rfl, k1, b2⟩
  have b2' := b1.trans (b2.mono b1.size)
  go_wp2_with fail
  refine (copy_any x2 c2 z2 w2 (bytesAt_below h2 b2') l2 n2).mono ?_
  rintro e w3 ⟨a2, rfl, k2, b3⟩
  have b3' := b2'.trans (b3.mono b2'.size)
  go_wp2_with fail
  refine (copy_any a2 z2.length z2 w3 k2.bytes l2 k2.nil').mono ?_
  rintro e w4 ⟨a3, rfl, k3, b4⟩
  have b4' := b3'.trans (b4.mono b3'.size)
  go_wp2_with fail
  refine (buffer_any _ _ _ w4 ⟨_, _, _, rfl⟩ ⟨_, _, _, rfl⟩ ⟨_, _, _, rfl⟩).mono ?_
  rintro e w5 ⟨rfl, hrb, b5⟩
  have k1' : CopyOf w4 w.heap.size a1 z1 := ((k1.below b3).below b4).lower b1.size
  have k2' : CopyOf w4 w.heap.size a2 z2 := (k2.below b4).lower b2'.size
  have k3' : CopyOf w4 w.heap.size a3 z2 := k3.lower b3'.size
  have hst : St w w4.heap.size (.slice a0 z0.length z0.length) a1 a2 a3 (.slice a1 z1.length z1.length) z1 z2 w5 :=
    ⟨hrb, k1'.below b5, k2'.below b5, k3'.below b5, k1'.lt, k2'.lt, k3'.lt, b4'.size, b4'.trans (b5.mono b4'.size)⟩
  clear k1 k2 k3 k1' k2' k3' b1 b2 b3 b4 b5 b2' b3' b4' hrb h0 h1 h2 n0 n1 n2
  go_wp2_with fail
  refine (reset_st w _ _ a1 a2 a3 z1.length z1 z2 w5 hst (Nat.le_refl _)).mono ?_
  rintro e w6 ⟨rfl, hst6⟩
  clear hst
  go_wp2_with fail
  refine (fields_st w _ _ a1 a2 a3 _ z1 z2 w6 hst6).mono ?_
  rintro e w7 ⟨rfl, hst7⟩
  clear hst6
  go_wp2_with fail
  refine (emptied_st w _ _ a1 a2 a3 _ z1 z2 w7 hst7 l1 l2).mono ?_
  rintro e w8 ⟨rfl, hst8⟩
  clear hst7
  go_wp2_with fail
  refine (reset_st w _ _ a1 a2 a3 0 z1 z2 w8 hst8 (Nat.zero_le _)).mono ?_
  rintro e w9 ⟨rfl, hst9⟩
  clear hst8
  go_wp2_with fail
  refine (fields_st w _ _ a1 a2 a3 _ z1 z2 w9 hst9).mono ?_
  rintro e w10 ⟨rfl, hst10⟩
  clear hst9
  go_wp2_with fail
  refine (emptied_st w _ _ a1 a2 a3 _ z1 z2 w10 hst10 l1 l2).mono ?_
  rintro e w11 ⟨rfl, hst11⟩
  clear hst10
  by_cases hz : 0 < z1.length
  · rcases hst11.k1 with ⟨_, rfl⟩ | ⟨g, rfl, hg, hrow⟩
    · simp at hz
    · have hcell : w11.cell? ⟨g, 0, none⟩ = some (.int .u8 (z1.getD 0 0)) := by
        rw [cell_of_row w11 g 0 _ 5 _ hrow]
        simp [bytesV, hz]
      have hfr : w11.frozen? ⟨g, 0, none⟩ = false := by simp [World.frozen?, hrow]
      have hgl : g < w11.heap.size := (Array.getElem?_eq_some_iff.1 hrow).1
      have hB := hst11.hb
      have hz' : (0 : Int) < (z1.length : Int) := by omega
      have hz1 : 1 ≤ z1.length := hz
      clear hst11 hrow
      go_wp2
      go_ret
      exact ⟨rfl, (hB.setCell hg _).alloc (by have := hB.size; simp [World.setCell]; omega) _⟩
  · have hz' : ¬ (0 : Int) < (z1.length : Int) := by omega
    have hB := hst11.hb
    clear hst11
    go_wp2
    go_ret
    exact ⟨rfl, hB⟩
end Go.Proofs.Qxb6619017a
