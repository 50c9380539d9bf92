/-
  headSize (11) and ZZheadSize (8): the target's bytes and the header's, in whatever order the map is ranged over.
-/
import Derived.Test.Qxb6616995aJoin
import Derived.Maps.RangeWalk
namespace Go.Proofs.Qxb6616995a
open Go.RowKit Go.ChangeMaps
set_option linter.unusedVariables false

/-- The weights of the entries that have been handed out. -/
def doneW (f : MapEntry → Nat) : List MapEntry → Array Nat → Nat
  | [], _ => 0
  | x :: l, seen => (if seen.contains x.born then f x else 0) + doneW f l seen

theorem doneW_other (f : MapEntry → Nat) (seen : Array Nat) (b : Nat) : ∀ (es : List MapEntry), b ∉ es.map (·.born) → doneW f es (seen.push b) = doneW f es seen
  | [], _ => rfl
  | x :: l, h => by
    have hx : (x.born == b) = false := by
      cases hc : x.born == b with
      | false => rfl
      | true => exact absurd (List.mem_cons.2 (Or.inl (beq_iff_eq.1 hc).symm)) h
    have ih := doneW_other f seen b l (fun e => h (List.mem_cons.2 (Or.inr e)))
    simp only [doneW, contains_push, hx, Bool.or_false, ih]

theorem doneW_push (f : MapEntry → Nat) (seen : Array Nat) (e : MapEntry) (hs : seen.contains e.born = false) : ∀ (es : List MapEntry), (es.map (·.born)).Nodup → e ∈ es → doneW f es (seen.push e.born) = doneW f es seen + f e
  | x :: l, hn, he => by
    have hn' : x.born ∉ l.map (·.born) ∧ (l.map (·.born)).Nodup := List.nodup_cons.1 hn
    rcases List.mem_cons.1 he with rfl | h
    · simp only [doneW, contains_push, hs, beq_self_eq_true, Bool.or_true, if_true, Bool.false_eq_true, if_false, doneW_other f seen e.born l hn'.1]
      omega
    · have hx : (x.born == e.born) = false := by
        cases hc : x.born == e.born with
        | false => rfl
        | true => exact absurd (by rw [beq_iff_eq.1 hc]; exact List.mem_map.2 ⟨e, h, rfl⟩) hn'.1
      simp only [doneW, contains_push, hx, Bool.or_false, doneW_push f seen e hs l hn'.2 h]
      omega

theorem doneW_full (f : MapEntry → Nat) (seen : Array Nat) : ∀ (es : List MapEntry), (∀ x ∈ es, seen.contains x.born = true) → doneW f es seen = (es.map f).sum
  | [], _ => rfl
  | x :: l, h => by
    simp only [doneW, h x (List.mem_cons.2 (Or.inl rfl)), if_true, List.map_cons, List.sum_cons, doneW_full f seen l (fun y hy => h y (List.mem_cons.2 (Or.inr hy)))]

theorem doneW_le (f : MapEntry → Nat) (seen : Array Nat) : ∀ (es : List MapEntry), doneW f es seen ≤ (es.map f).sum
  | [] => Nat.le_refl _
  | x :: l => by
    have := doneW_le f seen l
    simp only [doneW, List.map_cons, List.sum_cons]
    split <;> omega

theorem doneW_none (f : MapEntry → Nat) : ∀ (es : List MapEntry), doneW f es #[] = 0
  | [] => rfl
  | x :: l => by
    have : (#[] : Array Nat).contains x.born = false := by simp
    simp only [doneW, this, Bool.false_eq_true, if_false, doneW_none f l]

def wtE (kvs : List (ByteArray × Sl)) (e : MapEntry) : Nat := match kvs[e.born]? with | some p => wt p | none => 0
/-- The bytes of the entries that have been handed out. -/
def done (kvs : List (ByteArray × Sl)) (seen : Array Nat) : Nat := doneW (wtE kvs) (ents kvs) seen

theorem ents_total (kvs : List (ByteArray × Sl)) : ((ents kvs).map (wtE kvs)).sum = total kvs := by
  unfold total
  congr 1
  apply List.ext_getElem?
  intro i
  rw [List.getElem?_map, List.getElem?_map, ents_get]
  cases h : kvs[i]? with
  | none => rfl
  | some p => simp [wtE, h]

theorem ents_nodup (kvs : List (ByteArray × Sl)) : ((ents kvs).map (·.born)).Nodup := by
  have : (ents kvs).map (·.born) = List.range kvs.length := by
    apply List.ext_getElem?
    intro i
    rw [List.getElem?_map, ents_get]
    by_cases h : i < kvs.length
    · simp [h]
    · simp [Nat.le_of_not_lt h]
  rw [this]
  exact List.nodup_range

theorem done_le (kvs : List (ByteArray × Sl)) (seen : Array Nat) : done kvs seen ≤ total kvs := by
  rw [← ents_total]; exact doneW_le _ _ _

/-- How many are still to come, read off the world. -/
def itLeft (kvs : List (ByteArray × Sl)) (r : Nat) (w : World) : Nat :=
  match w.heap[r]? with
  | some (.mapIter _ _ seen _) => (leftOf (ents kvs).toArray seen).size
  | _ => 0

section
variable {P : Program} {ops : Array Oper} {rest : List Oper} {o : Oper} {a : Act} {Q : Exit → Act → World → Prop}
theorem wpList_next_hdr (w : World) (hg : o.guard = none) (it : Operand) (hop : o.op = Op.next it false) (kvs : List (ByteArray × Sl)) (b r : Nat) (seen : Array Nat) (c0 : Nat)
    (hit : a.eval it = .pointer (some ⟨r, 0, none⟩)) (hr : w.heap[r]? = some (.mapIter (some b) kvs.length seen c0)) (hb : w.heap[b]? = some (blk kvs)) (hc : kvs.length ≤ c0)
    (hDone : done kvs seen = total kvs → wpList P ops Q rest (a.put o.dst (.tuple #[.bool false])) w)
    (hMore : ∀ (k : ByteArray) (sa : Option Addr) (sc : Nat) (ss : List ByteArray) (seen' : Array Nat) (w' : World), (k, Sl.mk sa sc ss) ∈ kvs → done kvs seen' = done kvs seen + (k.size + sizes ss) →
      w'.heap[r]? = some (.mapIter (some b) kvs.length seen' kvs.length) → Below r w w' → w'.heap.size = w.heap.size → itLeft kvs r w' < itLeft kvs r w →
      (Instr.entry (.pointer (some ⟨r, 0, none⟩))).run P w' = .ok (.tuple #[.string k, .slice sa ss.length sc]) w' → wpList P ops Q rest (a.put o.dst (.tuple #[.bool true, .string k, .slice sa ss.length sc])) w') :
    wpList P ops Q (o :: rest) a w := by
  have hb' : w.heap[b]? = some (.map (ents kvs).toArray kvs.length) := hb
  have hne : b ≠ r := by
    intro e
    subst e
    rw [hb'] at hr
    cases hr
  have hold : ∀ x ∈ (ents kvs).toArray.toList, x.born < kvs.length := fun x hx => by
    obtain ⟨p, hp, _⟩ := ents_mem (e := x) (by simpa using hx)
    exact (List.getElem?_eq_some_iff.1 hp).1
  refine wpList_plain hg fun K' hK' => ?_
  unfold Oper.wp
  rcases run_next_at (P := P) w o.type r b kvs.length c0 seen (ents kvs).toArray kvs.length hr hb' hold hc with ⟨h0, hrun⟩ | ⟨e, he, w1, hal, hrun⟩
  · simp [execOp, hop, hit, hrun, Result.andThen]
    refine hK' _ _ (hDone ?_)
    rw [← ents_total]
    exact doneW_full _ _ _ (fun x hx => all_seen _ seen h0 x (by simpa using hx))
  · obtain ⟨hem, hes⟩ := mem_left he
    have hsh := left_shrinks (ents kvs).toArray seen e he
    have hem' : e ∈ ents kvs := by simpa using hem
    obtain ⟨⟨k, sa, sc, ss⟩, hp, hpe⟩ := ents_mem hem'
    have hr1 : w1.heap[r]? = some (.mapIter (some b) kvs.length seen c0) := by rcases hal with rfl | rfl <;> exact hr
    have hb1 : w1.heap[b]? = some (.map (ents kvs).toArray kvs.length) := by rcases hal with rfl | rfl <;> exact hb'
    have hset := MapKept.heap_set (o' := .mapIter (some b) kvs.length (seen.push e.born) kvs.length) hr1
    have hen := run_entry_at (P := P) (setBlock w1 r (.mapIter (some b) kvs.length (seen.push e.born) kvs.length)) r b kvs.length seen (ents kvs).toArray kvs.length e hset.1 ((hset.2 b hne).trans hb1) hem (by simpa using ents_nodup kvs)
    have hdone : done kvs (seen.push e.born) = done kvs seen + (k.size + sizes ss) := by
      unfold done
      rw [doneW_push (wtE kvs) seen e hes (ents kvs) (ents_nodup kvs) hem']
      simp [wtE, hp, wt]
    have e1 : e.key = .string k := by rw [hpe]
    have e2 : e.val = .slice sa ss.length sc := by rw [hpe]; rfl
    rw [e1, e2] at hrun hen
    simp [execOp, hop, hit, hrun, Result.andThen]
    refine hK' _ _ (hMore k sa sc ss _ _ (List.mem_of_getElem? hp) hdone hset.1 ?_ ?_ ?_ hen)
    · rcases hal with rfl | rfl <;> exact ⟨rfl, rfl, rfl, by simp [setBlock], fun i hi => hset.2 i (by omega)⟩
    · rcases hal with rfl | rfl <;> simp [setBlock]
    · have h1 : (setBlock w1 r (.mapIter (some b) kvs.length (seen.push e.born) kvs.length)).heap[r]? = some (.mapIter (some b) kvs.length (seen.push e.born) kvs.length) := hset.1
      simp only [itLeft, h1, hr]
      exact hsh
end
end Go.Proofs.Qxb6616995a
