/-
  IdentityOf (11) and its closure (14) at the maps that are built here; errors.New (12); fmt.Errorf (13) by its stop.
-/
import Derived.Test.Qxb6618605aFmtFacts
namespace Go.Proofs.Qxb6618605aFmt
open Go.RowKit Go.Extern.Stop Go.Stop Go.Extern
set_option linter.unusedVariables false
attribute [local go_sem] call15 guardF fmt0 fmt0r op3_100 op3_100w ptr44 elem44 as9_nil as9_some as31_nil

theorem str_nil (mv : Value) (k : ByteArray) (w : World) (hl : (Instr.lookup 31 mv (.string k) false).run Tryf.prog w = .ok .nilIface w) :
    Calls Tryf.prog 14 #[mv, .string k] w fun e w' => e = .returned (.string ⟨#[]⟩) ∧ w' = w := by
  go_enter Tryf.func14, Tryf.ntmps14
  go_wp2
  go_ret
  exact ⟨rfl, rfl⟩

theorem str_some (mv : Value) (k s : ByteArray) (w : World) (hl : (Instr.lookup 31 mv (.string k) false).run Tryf.prog w = .ok (.iface 9 (.string s)) w) :
    Calls Tryf.prog 14 #[mv, .string k] w fun e w' => e = .returned (.string s) ∧ w' = w := by
  go_enter Tryf.func14, Tryf.ntmps14
  go_wp2
  go_ret
  exact ⟨rfl, rfl⟩

theorem new_any (s : ByteArray) (w : World) : Calls Tryf.prog 12 #[.string s] w fun e w' => e = .returned (.iface 44 (.pointer (some ⟨w.heap.size, 0, none⟩))) ∧ Below w.heap.size w w' := by
  go_enter Tryf.func12, Tryf.ntmps12
  go_wp2
  go_ret
  exact ⟨rfl, (Below.refl _ _).alloc (Nat.le_refl _) _⟩

set_option maxHeartbeats 400000 in
theorem errorf_any (blk : Nat) (n : Int) (w : World) (hc : w.cell? ⟨blk, 0, none⟩ = some (.iface 3 (.int .i64 n))) :
    Calls Tryf.prog 13 #[.string ⟨#[37, 100, 32, 68, 101, 112, 108, 111, 121, 109, 101, 110, 116, 115, 32, 105, 110, 32, 116, 104, 101, 32, 105, 110, 112, 117, 116, 59, 32, 119, 97, 110, 116, 32, 101, 120, 97, 99, 116, 108, 121, 32, 111, 110, 101]⟩, .slice (some ⟨blk, 0, none⟩) 1 1] w fun e w' => ∃ a, e = .returned (.iface 44 (.pointer (some a))) ∧ Below w.heap.size w w' := by
  go_enter Tryf.func13, Tryf.ntmps13
  go_wp2
  go_ret
  exact ⟨_, rfl, ((Below.refl _ _).alloc (Nat.le_refl _) _).drew⟩

theorem ident_any (m : Nat) (s : ByteArray) (i : Int) (w : World) (hm : w.heap[m]? = some (.map (ents s i) 2)) :
    Calls Tryf.prog 11 #[.map (some m)] w fun e w' => e = .returned (.agg #[.string ⟨#[]⟩, .string s, .string ⟨#[]⟩, .string ⟨#[]⟩]) ∧ Below w.heap.size w w' := by
  have hlt : m < w.heap.size := (Array.getElem?_eq_some_iff.1 hm).1
  have hm' : ∀ o, (w.alloc o).heap[m]? = some (.map (ents s i) 2) := fun o => (Below.heap_alloc w o m hlt).trans hm
  have l1 := fun o => look_at (w.alloc o) m s i ⟨#[109, 101, 116, 97, 100, 97, 116, 97]⟩ (hm' o) none rfl
  have l2 := fun o => look_at (w.alloc o) m s i ⟨#[97, 112, 105, 86, 101, 114, 115, 105, 111, 110]⟩ (hm' o) none rfl
  have l3 := fun o => look_at (w.alloc o) m s i ⟨#[107, 105, 110, 100]⟩ (hm' o) (some (0, _)) rfl
  simp only at l1 l2 l3
  clear hm'
  go_enter Tryf.func11, Tryf.ntmps11
  go_wp2_with fail
  refine (str_nil _ _ _ (l2 _)).mono ?_
  rintro e w1 ⟨rfl, rfl⟩
  go_wp2_with fail
  refine (str_some _ _ s _ (l3 _)).mono ?_
  rintro e w1 ⟨rfl, rfl⟩
  go_wp2_with fail
  refine (str_nil _ _ _ (look_none _ _)).mono ?_
  rintro e w1 ⟨rfl, rfl⟩
  go_wp2_with fail
  refine (str_nil _ _ _ (look_none _ _)).mono ?_
  rintro e w1 ⟨rfl, rfl⟩
  go_wp2
  exact bodyPost_ret (v := .agg #[.string ⟨#[]⟩, .string s, .string ⟨#[]⟩, .string ⟨#[]⟩]) (by simp [results, Tryf.results11, go_sem]) rfl ⟨rfl, (Below.refl _ _).alloc (Nat.le_refl _) _⟩
end Go.Proofs.Qxb6618605aFmt
