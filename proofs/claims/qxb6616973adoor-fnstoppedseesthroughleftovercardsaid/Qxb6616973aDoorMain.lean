/-
  Stopped (10) at the two errors; the makers; the law's own walk (3).
-/
import Derived.Test.Qxb6616973aDoorStop
import Derived.Lib.Builder
import Derived.WalkSpells
namespace Go.Proofs.Qxb6616973aDoor
open Go.RowKit Go.Extern.Stop Go.Stop Go.Extern
set_option linter.unusedVariables false

/-- The chain in memory: the paused error at p, over errors.New's; the type handle of 'error' in its variable. -/
structure Chain (p : Nat) (e : Value) (branch : ByteArray) (w : World) : Prop where
  g : w.cell? ⟨0, 0, none⟩ = some (.iface 69 (.agg #[.pointer (some ⟨1, 29, none⟩)]))
  p0 : w.cell? ⟨p, 0, none⟩ = some (.iface 52 e)
  p1 : w.cell? ⟨p, 1, none⟩ = some (.string branch)

theorem Chain.below {p : Nat} {e : Value} {branch : ByteArray} {w w' : World} (h : Chain p e branch w) (hb : Below w.heap.size w w') : Chain p e branch w' :=
  ⟨(hb.cell (World.block_lt_of_cell? w _ h.g)).trans h.g, (hb.cell (World.block_lt_of_cell? w _ h.p0)).trans h.p0, (hb.cell (World.block_lt_of_cell? w _ h.p1)).trans h.p1⟩

/-- Behind the target's setting: the target leads to p; all that was there stands. -/
theorem setAt_new {w w2 : World} {v : Value} {o : Value} {T : TypeId} (h : SetAt (w.alloc (.cells #[o] T)) w.heap.size v w2) : w2.cell? ⟨w.heap.size, 0, none⟩ = some v ∧ Below w.heap.size w w2 ∧ w.heap.size < w2.heap.size := by
  have hs := h.size
  rw [setCell_size] at hs
  have hs1 : (w.alloc (.cells #[o] T)).heap.size = w.heap.size + 1 := by simp
  refine ⟨?_, ?_, by omega⟩
  · rw [Below.cell h (p := ⟨w.heap.size, 0, none⟩) (by simp)]
    exact World.cell?_setCell_same _ _ _ (u := o) (by simp)
  · refine ⟨h.os, h.tape, h.output, by omega, fun k hk => ?_⟩
    rw [h.block k (by omega), Below.heap_setCell _ _ _ _ (by simp; omega), Below.heap_alloc _ _ _ hk]

set_option maxHeartbeats 1000000 in
theorem stopped24 (p : Nat) (e : Value) (branch : ByteArray) (w : World) (h : Chain p e branch w) :
    Calls Tryd.prog 10 #[.iface 24 (.pointer (some ⟨p, 0, none⟩))] w fun ev w' => ev = .returned (.tuple #[.string branch, .slice none 0 0]) ∧ Below w.heap.size w w' := by
  have HW : Hid (Chain p e branch w) := h
  clear h
  go_enter Tryd.func10, Tryd.ntmps10
  go_wp2_with fail
  refine (As42 24 _ w.heap.size true (SetAt (w.alloc (.cells #[.pointer none] 24)) w.heap.size (.pointer (some ⟨p, 0, none⟩))) _ (HW.out.below ((Below.refl _ _).alloc (Nat.le_refl _) _)).g ?_).mono ?_
  · intro w1 hb hc
    refine (as_hit24 p w.heap.size _ (.pointer none) w1 hc ?_ ?_).mono ?_
    · rw [hb.cell (by simp)]; simp
    · rw [hb.frozen (by simp)]; simp
    · rintro ev w' ⟨rfl, hs⟩
      exact ⟨rfl, hs.of_below hb⟩
  rintro ev w2 ⟨rfl, hset⟩
  obtain ⟨hc2, hb2, hsz⟩ := setAt_new hset
  have HC : Hid (Chain p e branch w2) := HW.out.below hb2
  have hp1 := HC.out.p1
  have HB : Hid (Below w.heap.size w w2) := hb2
  clear hset hb2
  go_wp2_with fail
  refine (As44 24 _ w2.heap.size false (fun w' => Below w2.heap.size w2 w') _ (HC.out.below ((Below.refl _ _).alloc (Nat.le_refl _) _)).g ?_).mono ?_
  · intro w3 hb hc
    have hb' : Below w2.heap.size w2 w3 := ((Below.refl _ _).alloc (Nat.le_refl _) _).trans (hb.mono (by simp))
    refine (as_miss24 p e ⟨w2.heap.size, 0, none⟩ _ w3 (HC.out.below hb').p0).mono ?_
    rintro ev w' ⟨rfl, hs⟩
    exact ⟨rfl, hb'.trans (hs.mono hb'.size)⟩
  rintro ev w4 ⟨rfl, hb4⟩
  have HB4 : Hid (Below w.heap.size w w4) := HB.out.trans (hb4.mono HB.out.size)
  clear hb4 hp1 hc2 hsz
  go_wp2
  go_ret2
  exact ⟨rfl, HB4.out⟩

set_option maxHeartbeats 1000000 in
theorem stopped26 (l p : Nat) (e : Value) (branch : ByteArray) (w : World) (h : Chain p e branch w) (hl : w.cell? ⟨l, 0, none⟩ = some (.iface 24 (.pointer (some ⟨p, 0, none⟩)))) :
    Calls Tryd.prog 10 #[.iface 26 (.pointer (some ⟨l, 0, none⟩))] w fun ev w' => ev = .returned (.tuple #[.string branch, .slice none 0 0]) ∧ Below w.heap.size w w' := by
  have HW : Hid (Chain p e branch w) := h
  have hll := World.block_lt_of_cell? w _ hl
  have HL : Hid (∀ wx, Below w.heap.size w wx → wx.cell? ⟨l, 0, none⟩ = some (.iface 24 (.pointer (some ⟨p, 0, none⟩)))) := fun wx hb => (hb.cell hll).trans hl
  clear h hl hll
  go_enter Tryd.func10, Tryd.ntmps10
  go_wp2_with fail
  refine (As42 26 _ w.heap.size true (SetAt (w.alloc (.cells #[.pointer none] 24)) w.heap.size (.pointer (some ⟨p, 0, none⟩))) _ (HW.out.below ((Below.refl _ _).alloc (Nat.le_refl _) _)).g ?_).mono ?_
  · intro w1 hb hc
    refine (as_hit26 l p w.heap.size _ (.pointer none) w1 (HL.out w1 (((Below.refl _ _).alloc (Nat.le_refl _) _).trans (hb.mono (by simp)))) hc ?_ ?_).mono ?_
    · rw [hb.cell (by simp)]; simp
    · rw [hb.frozen (by simp)]; simp
    · rintro ev w' ⟨rfl, hs⟩
      exact ⟨rfl, hs.of_below hb⟩
  rintro ev w2 ⟨rfl, hset⟩
  obtain ⟨hc2, hb2, hsz⟩ := setAt_new hset
  have HC : Hid (Chain p e branch w2) := HW.out.below hb2
  have hp1 := HC.out.p1
  have HB : Hid (Below w.heap.size w w2) := hb2
  clear hset hb2
  go_wp2_with fail
  refine (As44 26 _ w2.heap.size false (fun w' => Below w2.heap.size w2 w') _ (HC.out.below ((Below.refl _ _).alloc (Nat.le_refl _) _)).g ?_).mono ?_
  · intro w3 hb hc
    have hb' : Below w2.heap.size w2 w3 := ((Below.refl _ _).alloc (Nat.le_refl _) _).trans (hb.mono (by simp))
    refine (as_miss26 l p e ⟨w2.heap.size, 0, none⟩ _ w3 (HL.out w3 (HB.out.trans (hb'.mono HB.out.size))) (HC.out.below hb').p0).mono ?_
    rintro ev w' ⟨rfl, hs⟩
    exact ⟨rfl, hb'.trans (hs.mono hb'.size)⟩
  rintro ev w4 ⟨rfl, hb4⟩
  have HB4 : Hid (Below w.heap.size w w4) := HB.out.trans (hb4.mono HB.out.size)
  clear hb4 hp1 hc2 hsz
  go_wp2
  go_ret2
  exact ⟨rfl, HB4.out⟩

/-- Some bool, some int was returned. -/
def SomeBool (e : Ending) : Prop := ∃ r : Bool, e = .returned (.bool r)
def SomeInt (e : Ending) : Prop := ∃ r : Int, e = .returned (.int .i64 r)

theorem bytes_any (s t : ByteArray) (w : World) : Calls Tryd.prog 4 #[.string s, .string t] w fun e w' => SomeBool e ∧ w' = w := by
  go_enter Tryd.func4, Tryd.ntmps4
  go_wp2
  all_goals (go_ret; exact ⟨⟨_, rfl⟩, rfl⟩)
theorem spend_any (x : Int) (s : ByteArray) (w : World) : Calls Tryd.prog 5 #[.int .i64 x, .string s] w fun e w' => SomeInt e ∧ w' = w := by
  go_enter Tryd.func5, Tryd.ntmps5
  go_wp2
  all_goals (go_ret; exact ⟨⟨_, rfl⟩, rfl⟩)

set_option maxHeartbeats 400000 in
theorem paused_any (branch msg : ByteArray) (w : World) : Calls Tryd.prog 6 #[.string branch, .string msg] w fun e w' => e = .returned (.pointer (some ⟨w.heap.size + 1, 0, none⟩)) ∧
    w' = (w.alloc (.cells #[.string msg] 54)).alloc (.cells #[.iface 52 (.pointer (some ⟨w.heap.size, 0, none⟩)), .string branch] 37) := by
  have hnew : ∀ wx : World, Calls Tryd.prog 11 #[.string msg] wx fun e w' => e = .returned (.iface 52 (.pointer (some ⟨wx.heap.size, 0, none⟩))) ∧ w' = wx.alloc (.cells #[.string msg] 54) := fun wx => by
    go_enter Tryd.func11, Tryd.ntmps11
    go_wp2
    go_ret
    exact ⟨rfl, rfl⟩
  have HN : Hid (∀ wx : World, Calls Tryd.prog 11 #[.string msg] wx fun e w' => e = .returned (.iface 52 (.pointer (some ⟨wx.heap.size, 0, none⟩))) ∧ w' = wx.alloc (.cells #[.string msg] 54)) := hnew
  clear hnew
  go_enter Tryd.func6, Tryd.ntmps6
  go_wp2_with (first | (go_at_call 11; refine (HN.out _).mono ?_; rintro e w1 ⟨rfl, rfl⟩))
  go_ret
  exact ⟨rfl, rfl⟩
theorem leftover_any (T : TypeId) (x : Value) (w : World) : Calls Tryd.prog 7 #[.iface T x] w fun e w' => e = .returned (.pointer (some ⟨w.heap.size, 0, none⟩)) ∧ w' = w.alloc (.cells #[.iface T x] 39) := by
  go_enter Tryd.func7, Tryd.ntmps7
  go_wp2
  go_ret
  exact ⟨rfl, rfl⟩
theorem as29_24 (v : Value) (w : World) : (Instr.typeAssert (.iface 24 v) 29 24 true).run Tryd.prog w = .ok (.tuple #[v, .bool true]) w := by kernel_rfl
theorem asPaused_any (a : Addr) (w : World) : Calls Tryd.prog 9 #[.iface 24 (.pointer (some a))] w fun e w' => e = .returned (.pointer (some a)) ∧ w' = w := by
  have h := as29_24
  go_enter Tryd.func9, Tryd.ntmps9
  go_wp2
  go_ret
  exact ⟨rfl, rfl⟩
end Go.Proofs.Qxb6616973aDoor
