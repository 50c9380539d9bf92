/-
  The plain words of this seat: a slice of strings, a slice of such slices, the entries of a header map; and the map's update over them.
-/
import Derived.Test.Qxb6616995aRows
import Derived.Test.Qxb6616995aShelf
import Derived.WalkKit
import Derived.Outline
import Derived.Below
import Derived.WideMake
import Derived.Maps.RangeRun
namespace Go.Proofs.Qxb6616995a
open Go.RowKit
set_option linter.unusedVariables false

/-- The elements of a slice of strings, at a plain address. -/
def StrsAt (w : World) (a : Option Addr) (ss : List ByteArray) : Prop :=
  ∀ i, i < ss.length → ∃ b off, a = some ⟨b, off, none⟩ ∧ w.cell? ⟨b, off + i, none⟩ = some (.string (ss.getD i ByteArray.empty))

/-- A slice of strings: where it lies, its capacity, what it holds. -/
structure Sl where
  a : Option Addr
  cap : Nat
  ss : List ByteArray

def Sl.val (s : Sl) : Value := .slice s.a s.ss.length s.cap
def Sl.At (s : Sl) (w : World) : Prop := StrsAt w s.a s.ss ∧ s.ss.length ≤ s.cap
def sizes (ss : List ByteArray) : Nat := (ss.map ByteArray.size).sum
/-- What the guard leaves of it. -/
def Sl.Fits (s : Sl) : Prop := s.ss.length ≤ 1048576 ∧ sizes s.ss ≤ 1048576
def Sl.nil : Sl := ⟨none, 0, []⟩

/-- A slice of slices of strings. -/
def SlsAt (w : World) (a : Option Addr) (vs : List Sl) : Prop :=
  ∀ i, i < vs.length → ∃ b off, a = some ⟨b, off, none⟩ ∧ w.cell? ⟨b, off + i, none⟩ = some (vs.getD i Sl.nil).val ∧ (vs.getD i Sl.nil).At w

theorem StrsAt.below {w w' : World} {a : Option Addr} {ss : List ByteArray} (h : StrsAt w a ss) (hb : Below w.heap.size w w') : StrsAt w' a ss := fun i hi => by
  obtain ⟨b, off, e, hc⟩ := h i hi
  exact ⟨b, off, e, (hb.cell (World.block_lt_of_cell? w _ hc)).trans hc⟩
theorem Sl.At.below {w w' : World} {s : Sl} (h : s.At w) (hb : Below w.heap.size w w') : s.At w' := ⟨h.1.below hb, h.2⟩
theorem Sl.nil_at (w : World) : Sl.nil.At w := ⟨fun i hi => absurd hi (by simp [Sl.nil]), by simp [Sl.nil]⟩
theorem Sl.nil_fits : Sl.nil.Fits := ⟨by simp [Sl.nil], by simp [Sl.nil, sizes]⟩
theorem SlsAt.below {w w' : World} {a : Option Addr} {vs : List Sl} (h : SlsAt w a vs) (hb : Below w.heap.size w w') : SlsAt w' a vs := fun i hi => by
  obtain ⟨b, off, e, hc, hs⟩ := h i hi
  exact ⟨b, off, e, (hb.cell (World.block_lt_of_cell? w _ hc)).trans hc, hs.below hb⟩
theorem SlsAt.mem {w : World} {a : Option Addr} {vs : List Sl} (h : SlsAt w a vs) (i : Nat) : (vs.getD i Sl.nil).At w := by
  by_cases hi : i < vs.length
  · exact (h i hi).choose_spec.choose_spec.2.2
  · simp [List.getD_eq_getElem?_getD, Nat.le_of_not_lt hi, Sl.nil_at]

/-- The entries of a header map: the i-th was laid i-th. -/
def ents (kvs : List (ByteArray × Sl)) : List MapEntry := kvs.mapIdx fun i p => { key := .string p.1, val := p.2.val, born := i }
def blk (kvs : List (ByteArray × Sl)) : Obj := .map (ents kvs).toArray kvs.length
/-- m[k] = s. -/
def put (kvs : List (ByteArray × Sl)) (k : ByteArray) (s : Sl) : List (ByteArray × Sl) :=
  match Instr.findNow .string (.string k) (ents kvs) 0 with
  | some (some (i, _)) => kvs.set i (k, s)
  | _ => kvs ++ [(k, s)]

theorem ents_len (kvs : List (ByteArray × Sl)) : (ents kvs).length = kvs.length := by simp [ents]
theorem ents_get (kvs : List (ByteArray × Sl)) (i : Nat) : (ents kvs)[i]? = (kvs[i]?).map fun p => { key := .string p.1, val := p.2.val, born := i } := by simp [ents]
theorem ents_mem {kvs : List (ByteArray × Sl)} {e : MapEntry} (h : e ∈ ents kvs) : ∃ p, kvs[e.born]? = some p ∧ e = { key := .string p.1, val := p.2.val, born := e.born } := by
  obtain ⟨i, hi⟩ := List.getElem?_of_mem h
  rw [ents_get] at hi
  cases hp : kvs[i]? with
  | none => rw [hp] at hi; cases hi
  | some p => rw [hp] at hi; cases hi; exact ⟨p, hp, rfl⟩
theorem ents_keys (kvs : List (ByteArray × Sl)) : ∀ x ∈ ents kvs, MapKept.IsKey .string x.key := fun x hx => by
  obtain ⟨p, _, e⟩ := ents_mem hx
  rw [e]; simp [MapKept.IsKey]

theorem put_new {kvs : List (ByteArray × Sl)} {k : ByteArray} (s : Sl) (h : ∀ p ∈ kvs, p.1 ≠ k) : put kvs k s = kvs ++ [(k, s)] := by
  unfold put
  rcases MapKept.findNow_spec (k := .string k) (by simp [MapKept.IsKey]) (ents kvs) 0 (ents_keys kvs) with ⟨h1, _⟩ | ⟨j, e, h1, h2, h3⟩
  · rw [h1]
  · obtain ⟨p, hp, he⟩ := ents_mem (List.mem_of_getElem? h2)
    rw [he] at h3
    exact absurd (by simpa using h3) (h p (List.mem_of_getElem? hp))
theorem put_mem {kvs : List (ByteArray × Sl)} {k : ByteArray} {s : Sl} {p : ByteArray × Sl} (h : p ∈ put kvs k s) : p ∈ kvs ∨ p = (k, s) := by
  unfold put at h
  split at h
  · exact List.mem_or_eq_of_mem_set h
  · simpa using h
theorem put_len (kvs : List (ByteArray × Sl)) (k : ByteArray) (s : Sl) : (put kvs k s).length ≤ kvs.length + 1 := by
  unfold put
  split <;> simp

theorem run_put (w : World) (b : Nat) (kvs : List (ByteArray × Sl)) (k : ByteArray) (s : Sl) (hb : w.heap[b]? = some (blk kvs)) :
    (Instr.mapUpdate 28 (.map (some b)) (.string k) s.val).run Try.prog w = .ok () { w with heap := w.heap.setIfInBounds b (blk (put kvs k s)) } := by
  have hb' : w.heap[b]? = some (.map (ents kvs).toArray kvs.length) := hb
  have hc : (Instr.checkKey false 10000 9 (.string k)).run Try.prog w = .ok () w := MapKept.run_checkKey (k := .string k) Try.underlying9 (by simp [MapKept.IsKey]) false 9999
  rcases MapKept.findNow_spec (k := .string k) (by simp [MapKept.IsKey]) (ents kvs) 0 (ents_keys kvs) with ⟨h1, _⟩ | ⟨j, e, h1, h2, h3⟩
  · have hp : put kvs k s = kvs ++ [(k, s)] := by unfold put; rw [h1]
    have he : blk (put kvs k s) = .map ((ents kvs).toArray.push { key := .string k, val := s.val, born := kvs.length }) (kvs.length + 1) := by
      rw [hp]; simp [blk, ents, List.mapIdx_append]
    rw [he]
    simp [Instr.mapUpdate, run_underlying Try.underlying28, MapKept.run_getObj_map hb', hc, MapKept.run_findKey Try.underlying9 h1, MapKept.run_setObj_map _ hb', Result.andThen]
  · rw [Nat.zero_add] at h1
    have hp : put kvs k s = kvs.set j (k, s) := by unfold put; rw [h1]
    have hj : j < kvs.length := by rw [← ents_len]; exact (List.getElem?_eq_some_iff.1 h2).1
    have hej : ((ents kvs).toArray[j]?.map (·.key)).getD (.string k) = .string k := by simp [h2, h3]
    have hks : ∀ w', (Instr.keyThatStays (.string k) (.string k)).run Try.prog w' = .ok (.string k) w' := fun w' => by
      have hkk : (k == k) = true := by simp [MapKept.bytes_beq]
      simp [Instr.keyThatStays, Instr.sameBits, hkk]
    have he : blk (put kvs k s) = .map ((ents kvs).toArray.modify j fun e => { e with key := .string k, val := s.val }) kvs.length := by
      rw [hp]
      simp only [blk, List.length_set]
      congr 1
      apply Array.ext_getElem?
      intro i
      rw [Array.getElem?_modify]
      simp only [List.getElem?_toArray, ents_get, List.getElem?_set]
      by_cases hij : j = i
      · subst hij
        simp [hj]
      · simp [hij]
    rw [he]
    simp [Instr.mapUpdate, run_underlying Try.underlying28, MapKept.run_getObj_map hb', hc, MapKept.run_findKey Try.underlying9 h1, MapKept.run_setObj_map _ hb', Result.andThen, hks, h2, h3]

theorem set_alloc (w : World) (A B : Obj) : ({ w.alloc A with heap := (w.alloc A).heap.setIfInBounds w.heap.size B } : World) = w.alloc B := by
  have h : (w.heap.push A).setIfInBounds w.heap.size B = w.heap.push B := by
    apply Array.ext_getElem?
    intro i
    rw [Array.getElem?_setIfInBounds, Array.getElem?_push, Array.getElem?_push]
    by_cases e : w.heap.size = i
    · subst e; simp
    · have e' : i ≠ w.heap.size := fun h => e h.symm
      rw [if_neg e, if_neg e', if_neg e']
  show ({ w with heap := (w.heap.push A).setIfInBounds w.heap.size B } : World) = { w with heap := w.heap.push B }
  rw [h]

theorem run_put_new (w : World) (kvs : List (ByteArray × Sl)) (k : ByteArray) (s : Sl) :
    (Instr.mapUpdate 28 (.map (some w.heap.size)) (.string k) s.val).run Try.prog (w.alloc (blk kvs)) = .ok () (w.alloc (blk (put kvs k s))) := by
  rw [run_put _ _ kvs k s (MapKept.heap_alloc w _).1, set_alloc]

/-- The map that zzBuildHeader builds out of the first k names. -/
def bld (ns : List ByteArray) (vs : List Sl) : Nat → List (ByteArray × Sl)
  | 0 => []
  | k + 1 => put (bld ns vs k) (ns.getD k ByteArray.empty) (vs.getD k Sl.nil)
theorem bld_mem {ns : List ByteArray} {vs : List Sl} : ∀ {k : Nat} {p : ByteArray × Sl}, p ∈ bld ns vs k → ∃ i, i < k ∧ p = (ns.getD i ByteArray.empty, vs.getD i Sl.nil)
  | 0, _, h => absurd h (by simp [bld])
  | k + 1, p, h => by
    rcases put_mem h with h | h
    · obtain ⟨i, hi, e⟩ := bld_mem h
      exact ⟨i, by omega, e⟩
    · exact ⟨k, by omega, h⟩
theorem bld_len (ns : List ByteArray) (vs : List Sl) : ∀ k, (bld ns vs k).length ≤ k
  | 0 => by simp [bld]
  | k + 1 => by
    have := put_len (bld ns vs k) (ns.getD k ByteArray.empty) (vs.getD k Sl.nil)
    have := bld_len ns vs k
    unfold bld; omega

/-- The bytes of a header: its names and its values. -/
def wt (p : ByteArray × Sl) : Nat := p.1.size + sizes p.2.ss
def total (kvs : List (ByteArray × Sl)) : Nat := (kvs.map wt).sum
theorem total_snoc (kvs : List (ByteArray × Sl)) (p : ByteArray × Sl) : total (kvs ++ [p]) = total kvs + wt p := by simp [total]
theorem total_le {M : Nat} : ∀ (kvs : List (ByteArray × Sl)), (∀ p ∈ kvs, wt p ≤ M) → total kvs ≤ kvs.length * M
  | [], _ => by simp [total]
  | p :: r, h => by
    have h1 := h p (by simp)
    have h2 := total_le r (fun q hq => h q (by simp [hq]))
    simp only [total, List.map_cons, List.sum_cons, List.length_cons, Nat.add_mul] at *
    omega
end Go.Proofs.Qxb6616995a
