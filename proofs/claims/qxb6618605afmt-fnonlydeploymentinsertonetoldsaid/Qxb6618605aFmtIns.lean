/-
  FnOnlyDeploymentInsertOne (4): the walk.
-/
import Derived.Test.Qxb6618605aFmtInsLaw
import Derived.Deep.AppendSrc
import Derived.Deep.AppendLies
namespace Go.Proofs.Qxb6618605aFmt
open Go.RowKit
set_option linter.unusedVariables false

theorem strsAt_below {w w' : World} {a : Option Addr} {ss : List ByteArray} (h : StrsAt w a ss) (hb : Below w.heap.size w w') : StrsAt w' a ss := fun i hi => by
  obtain ⟨b, off, ha, hc⟩ := h i hi
  exact ⟨b, off, ha, (hb.cell (World.block_lt_of_cell? w _ hc)).trans hc⟩

theorem strsAt_own {w : World} {base : Nat} {g n cap : Nat} {ss : List ByteArray} (h : w.ownsRow base 9 1 (.slice (some ⟨g, 0, none⟩) n cap) n (ss.map Value.string)) : StrsAt w (some ⟨g, 0, none⟩) ss := fun i hi => by
  refine ⟨g, 0, rfl, ?_⟩
  have := h.cells rfl i (.string (ss.getD i ByteArray.empty)) (by simp [hi, List.getD_eq_getElem?_getD])
  rw [Go.WideShapes.add_plain] at this
  exact this

/-- append(s, nil...) where s has an address: nothing turns. -/
theorem wpList_append_nilsrc (w : World) {ops : Array Oper} {rest : List Oper} {o : Oper} {a : Act} {Q : Exit → Act → World → Prop} (hgd : o.guard = none) (s x : Operand)
    (ho : o.op = .call { callee := .builtin .append, args := #[s, x], argTypes := #[22, 22] }) (b n c : Nat) (hs : a.eval s = .slice (some ⟨b, 0, none⟩) n c) (hx : a.eval x = .slice none 0 0) (hnc : n ≤ c)
    (h : wpList Tryf.prog ops Q rest (a.put o.dst (.slice (some ⟨b, 0, none⟩) n c)) w) : wpList Tryf.prog ops Q (o :: rest) a w := by
  obtain ⟨i0, hi, hz0, hz1, hz2⟩ := info_parts info9
  have hr := run_append_room_src (P := Tryf.prog) w 22 22 o.type 9 i0 Tryf.underlying22 hi b 0 n c (.slice none 0 0) 0 [] (Src.ofNil w Tryf.underlying22 0) (by omega) (fun j hj => absurd hj (by simp)) (fun j hj => absurd hj (by simp))
  refine wpList_plain hgd fun K hK => ?_
  unfold Oper.wp execOp
  simp only [ho, resolve, invoke, builtin, Sem.run_bind, Sem.run_pure, Result.andThen_ok, List.map_toArray, List.map_cons, List.map_nil, hs, hx, hr]
  exact hK _ _ h

theorem own_le {w : World} {base g n cap : Nat} {e : TypeId} {size : Nat} {xs : List Value} (h : w.ownsRow base e size (.slice (some ⟨g, 0, none⟩) n cap) n xs) : n ≤ cap := by
  rcases h.2 with ⟨h1, _⟩ | ⟨g', c, cur, h1, _, _, h2, _⟩
  · cases h1
  · cases h1; exact h2

theorem below_grown {w w1 w2 : World} {row : Option Nat} (hb : Below w.heap.size w w1) (hg : w1.grownBy w2 row) (hr : ∀ k, row = some k → w.heap.size ≤ k) : Below w.heap.size w w2 :=
  hb.grown hg hb.size hr

theorem strs_one (l : List ByteArray) : ∀ u ∈ l.map Value.string, u.oneCell' = true := fun u hu => by
  obtain ⟨s, _, rfl⟩ := List.mem_map.1 hu
  rfl

theorem src_take {wc w1 : World} {g p : Nat} {ss : List ByteArray} (h : ∀ wx, Below wc.heap.size wc wx → ∀ j, j < ss.length → wx.cell? ⟨g, j, none⟩ = some (.string (ss.getD j ByteArray.empty))) (hb : Below wc.heap.size wc w1) (hp : p ≤ ss.length) :
    ∀ j u, ((ss.take p).map Value.string)[j]? = some u → w1.cell? ((⟨g, 0, none⟩ : Addr).add j) = some u := fun j u hj => by
  have hl := (List.getElem?_eq_some_iff.1 hj).1
  simp at hl
  rw [Go.WideShapes.add_plain, Nat.zero_add, h w1 hb j (by omega)]
  have h1 : j < ss.length := by omega
  have h2 : j < p := by omega
  simp [h1, h2] at hj ⊢
  exact hj

theorem src_drop {wc w1 : World} {g p : Nat} {ss : List ByteArray} (h : ∀ wx, Below wc.heap.size wc wx → ∀ j, j < ss.length → wx.cell? ⟨g, j, none⟩ = some (.string (ss.getD j ByteArray.empty))) (hb : Below wc.heap.size wc w1) (hp : p ≤ ss.length) :
    ∀ j u, ((ss.drop p).map Value.string)[j]? = some u → w1.cell? ((⟨g, p, none⟩ : Addr).add j) = some u := fun j u hj => by
  have hl := (List.getElem?_eq_some_iff.1 hj).1
  simp at hl
  rw [Go.WideShapes.add_plain, h w1 hb (p + j) (by omega)]
  have h1 : p + j < ss.length := by omega
  simp [h1] at hj ⊢
  exact hj

theorem first_bound {ss : List ByteArray} {F : Int} (h : IsFirst ss F) : -1 ≤ F ∧ F ≤ ss.length := by
  rcases h with ⟨rfl, _⟩ | ⟨k, rfl, hk, _⟩ <;> omega

theorem insAt_length (ss : List ByteArray) (p : Nat) (hp : p ≤ ss.length) (kind : ByteArray) : (insAt ss p kind).length = ss.length + 1 := by
  unfold insAt
  simp
  omega

set_option maxHeartbeats 800000 in
set_option maxRecDepth 100000 in
theorem walk4 (a : Option Addr) (cap : Nat) (ss : List ByteArray) (x : Int) (kind : ByteArray) (w : World) (hss : StrsAt w a ss) (hl : ss.length ≤ maxLen) (hcap : a = none → cap = 0) :
    Calls Tryf.prog 4 #[.slice a ss.length cap, .int .i64 x, .string kind] w fun e w' => e = .returned (.bool true) ∧ Below w.heap.size w w' := by
  have hl0 := hl
  unfold maxLen at hl
  have hne := fun wx => run_neq_slice_nil_any (P := Tryf.prog) wx 22 9 a ss.length cap 0 0 Tryf.underlying22
  go_enter Tryf.func4, Tryf.ntmps4
  go_upto_if 43 with (first | (go_at_call 9; refine (bytes9_any a cap ss x kind w hss hl0).mono ?_; rintro e w1 ⟨⟨r, rfl⟩, hw⟩; have hw := hw.symm; subst hw) | (go_at_call 6; refine (fit_any a cap ss _ w hss hl0).mono ?_; rintro e w1 ⟨⟨r2, rfl⟩, hw⟩; have hw := hw.symm; subst hw))
  any_goals (go_ret; exact ⟨rfl, Below.refl _ _⟩)
  have hn : ss.length ≤ 65536 := by omega
  have hx0 : 0 ≤ x := by omega
  have hxn : x ≤ ss.length := by omega
  obtain ⟨p, rfl⟩ : ∃ p : Nat, x = p := ⟨x.toNat, by omega⟩
  have hpn : p ≤ ss.length := by omega
  go_cut [0, 7] (fun k _ wx => ((k = .slice none 0 0 ∧ ss = []) ∨ ∃ g, k = .slice (some ⟨g, 0, none⟩) ss.length ss.length ∧ StrsAt wx (some ⟨g, 0, none⟩) ss) ∧ Below w.heap.size w wx)
  case first =>
    have hmk := run_make_row' (P := Tryf.prog) 22 9 (.string ⟨#[]⟩) 16 Tryf.underlying22 info9 rfl .i64 .i64 ss.length (by omega) (by omega)
    cases a with
    | none =>
      have hnil : ss = [] := by
        cases ss with
        | nil => rfl
        | cons s0 r0 => obtain ⟨b, off, hx, _⟩ := hss 0 (by simp); cases hx
      have hc0 := hcap rfl
      subst hnil
      subst hc0
      go_wp2
      go_meet
      case rel => exact ⟨.inl ⟨rfl, trivial⟩, Below.refl _ _⟩
    | some y =>
      obtain ⟨w2, hcp, hs2, hb2⟩ := copy_strs (some y) cap ss w hss
      have HS : Hid (StrsAt w2 (some ⟨w.heap.size, 0, none⟩) ss) := hs2
      have HB : Hid (Below w.heap.size w w2) := hb2
      clear hs2 hb2
      go_wp2
      go_meet
      case rel => exact ⟨.inr ⟨_, rfl, HS.out⟩, HB.out⟩
  case rest =>
    obtain ⟨hk, hb2⟩ := hcut
    clear hss hne
    obtain ⟨i0, hi, hz0, hz1, hz2⟩ := info_parts info9
    rcases hk with ⟨rfl, rfl⟩ | ⟨g, rfl, hs2⟩
    · simp at hpn
      subst hpn
      go_wp2_with (first | (at_make; refine wpList_make_own _ rfl _ _ 22 rfl wc.heap.size 9 i0 (.string ⟨#[]⟩) 1 Tryf.underlying22 hi hz0 hz1 .i64 .i64 _ 1 rfl rfl (by simp) (by rw [hz2]; omega) (by unfold maxLen; omega) (Nat.le_refl _) ?_; intro w1 hown1 hgrow1) | (at_builtin; refine wpList_append_nilsrc _ rfl (.tmp 55) (.tmp 58) rfl wc.heap.size 0 1 rfl rfl (by omega) ?_) | (at_builtin; refine wpList_append_lies _ rfl (.tmp 60) (.tmp 62) 22 rfl wc.heap.size 9 i0 (.string ⟨#[]⟩) 1 16 Tryf.underlying22 hi hz0 hz1 hz2 rfl (by decide) _ 0 [] rfl (hown1.alloc _) ⟨w1.heap.size, 0, none⟩ 1 1 [.string kind] rfl rfl (cell_one_new _ _ _) (by simp [Value.oneCell']) (by omega) (by unfold maxLen; omega) (by omega) (by have := hgrow1.size; simp; omega) _ rfl ?_; intro g2 c2 w2 hown2 hgrow2 hat hlt; have hle2 := own_le hown2) | (at_builtin; refine wpList_append_nilsrc _ rfl (.tmp 64) (.tmp 67) rfl g2 1 c2 rfl rfl hle2 ?_))
      have hbw : Below wc.heap.size wc w2 := (((Below.refl _ _).grown hgrow1 (Nat.le_refl _) (fun k hk => by cases hk)).alloc hgrow1.size _).grown hgrow2 (by have := hgrow1.size; simp; omega) (fun k hk => (hown1.lt k hk).1)
      have HT : Hid (StrsAt w2 none [] ∧ StrsAt w2 (some ⟨g2, 0, none⟩) (insAt [] 0 kind) ∧ Below w.heap.size w w2) := ⟨fun i hi => absurd hi (by simp), strsAt_own (by simpa [insAt] using hown2), hb2.trans (hbw.mono hb2.size)⟩
      clear hown1 hown2 hgrow1 hgrow2 hbw hat hlt hle2
      refine (ends_any none 0 ([] : List ByteArray) w2 HT.out.1 (by simp)).mono ?_
      rintro e w5 ⟨F, L, rfl, hF, hL, hw⟩
      have hw := hw.symm
      subst hw
      have hFb := first_bound hF
      have HFL : Hid (IsFirst ([] : List ByteArray) F ∧ IsLast ([] : List ByteArray) L) := ⟨hF, hL⟩
      clear hF hL
      go_wp2_with fail
      refine (of_any none 0 ([] : List ByteArray) w2 HT.out.1 (by simp)).mono ?_
      rintro e w5 ⟨rfl, hb5⟩
      have HB5 : Hid (Below w.heap.size w w5 ∧ StrsAt w5 (some ⟨g2, 0, none⟩) (insAt ([] : List ByteArray) 0 kind)) := ⟨HT.out.2.2.trans (hb5.mono HT.out.2.2.size), strsAt_below HT.out.2.1 hb5⟩
      clear hb5
      go_wp2_with fail
      refine (of_any (some ⟨g2, 0, none⟩) c2 (insAt ([] : List ByteArray) 0 kind) w5 HB5.out.2 (by simp [insAt])).mono ?_
      rintro e w6 ⟨rfl, hb6⟩
      have HB6 : Hid (Below w.heap.size w w6) := HB5.out.1.trans (hb6.mono HB5.out.1.size)
      clear hb6
      rw [insAt_length ([] : List ByteArray) 0 (Nat.zero_le _) kind]
      have hlaw := law HFL.out.1 HFL.out.2
      cases hkd : (kind.toList == [68, 101, 112, 108, 111, 121, 109, 101, 110, 116]) with
      | true =>
        have hins := ins_dep (ss := ([] : List ByteArray)) (p := 0) HFL.out.1 (Nat.zero_le _) (kind := kind) hkd
        generalize idOf (deps (insAt ([] : List ByteArray) 0 kind) ((([] : List ByteArray)).length + 1)) = I1 at hins ⊢
        generalize failedOf (deps (insAt ([] : List ByteArray) 0 kind) ((([] : List ByteArray)).length + 1)) = F1 at hins ⊢
        generalize idOf (deps ([] : List ByteArray) (([] : List ByteArray)).length) = I0 at hlaw ⊢
        generalize failedOf (deps ([] : List ByteArray) (([] : List ByteArray)).length) = F0 at hlaw ⊢
        clear HFL HT HB5
        rcases hins with ⟨hi0, rfl, rfl⟩ | ⟨hi0, rfl, rfl⟩
        · rcases hlaw with ⟨h0, h1, h2, h3⟩ | ⟨h0, rfl, rfl⟩
          · omega
          · clear h0
            go_wp2
            go_ret
            exact ⟨rfl, HB6.out⟩
        · rcases hlaw with ⟨h0, rfl, rfl, rfl⟩ | ⟨h0, rfl, rfl⟩
          · go_wp2
            go_ret
            exact ⟨rfl, HB6.out⟩
          · have hFL : (F == L) = false := by simp; omega
            clear h0
            go_wp2
            go_ret
            exact ⟨rfl, HB6.out⟩
      | false =>
        have hins := ins_other (ss := ([] : List ByteArray)) (p := 0) (Nat.zero_le _) (kind := kind) hkd
        generalize idOf (deps (insAt ([] : List ByteArray) 0 kind) ((([] : List ByteArray)).length + 1)) = I1 at hins ⊢
        generalize failedOf (deps (insAt ([] : List ByteArray) 0 kind) ((([] : List ByteArray)).length + 1)) = F1 at hins ⊢
        generalize idOf (deps ([] : List ByteArray) (([] : List ByteArray)).length) = I0 at hlaw hins ⊢
        generalize failedOf (deps ([] : List ByteArray) (([] : List ByteArray)).length) = F0 at hlaw hins ⊢
        clear HFL HT HB5
        obtain ⟨rfl, hI⟩ := hins
        rcases hlaw with ⟨h0, rfl, rfl, rfl⟩ | ⟨h0, rfl, rfl⟩
        · by_cases hpF : ((0 : Nat) : Int) ≤ I0
          · rw [if_pos hpF] at hI
            subst hI
            go_wp2
            go_ret
            exact ⟨rfl, HB6.out⟩
          · rw [if_neg hpF] at hI
            subst hI
            exfalso
            omega
        · rw [if_neg (by omega)] at hI
          subst hI
          have hpm : ¬ ((0 : Nat) : Int) ≤ -1 := by omega
          by_cases hF : F < 0
          · clear h0
            go_wp2
            go_ret
            exact ⟨rfl, HB6.out⟩
          · have hFL : (F == L) = false := by simp; omega
            clear h0
            go_wp2
            go_ret
            exact ⟨rfl, HB6.out⟩
    · have hgl : 0 < ss.length → g < wc.heap.size := fun h0 => by
        obtain ⟨b, off, hx, hc⟩ := hs2 0 h0
        cases hx
        exact World.block_lt_of_cell? wc _ hc
      have hcl : ∀ wx, Below wc.heap.size wc wx → ∀ j, j < ss.length → wx.cell? ⟨g, j, none⟩ = some (.string (ss.getD j ByteArray.empty)) := fun wx hbx j hj => by
        obtain ⟨b, off, hx, hc⟩ := hs2 j hj
        cases hx
        rw [Nat.zero_add] at hc
        exact (hbx.cell (World.block_lt_of_cell? wc _ hc)).trans hc
      have HC : Hid (∀ wx, Below wc.heap.size wc wx → ∀ j, j < ss.length → wx.cell? ⟨g, j, none⟩ = some (.string (ss.getD j ByteArray.empty))) := hcl
      clear hcl hgl
      by_cases hpc : p = ss.length
      · subst hpc
        go_wp2_with (first | (at_make; refine wpList_make_own _ rfl _ _ 22 rfl wc.heap.size 9 i0 (.string ⟨#[]⟩) 1 Tryf.underlying22 hi hz0 hz1 .i64 .i64 _ (ss.length + 1) rfl rfl (by omega) (by rw [hz2]; omega) (by unfold maxLen; omega) (Nat.le_refl _) ?_; intro w1 hown1 hgrow1; have hb1 : Below wc.heap.size wc w1 := (Below.refl _ _).grown hgrow1 (Nat.le_refl _) (fun k hk => by cases hk)) | (at_builtin; refine wpList_append_own _ rfl (.tmp 55) (.tmp 58) 22 rfl wc.heap.size 9 i0 (.string ⟨#[]⟩) 1 16 Tryf.underlying22 hi hz0 hz1 hz2 rfl (by decide) _ 0 [] rfl hown1 ⟨g, 0, none⟩ ss.length ss.length ((ss.take ss.length).map Value.string) rfl (by simp) (src_take HC.out hb1 (by omega)) (strs_one _) (by unfold maxLen; omega) (by omega) hb1.size ?_; intro v2 w2 hown2 hgrow2 _; have hb2' : Below wc.heap.size wc w2 := hb1.grown hgrow2 hb1.size (fun k hk => (hown1.lt k hk).1); simp only [Nat.zero_add, List.nil_append] at hown2) | (at_builtin; refine wpList_append_lies _ rfl (.tmp 60) (.tmp 62) 22 rfl wc.heap.size 9 i0 (.string ⟨#[]⟩) 1 16 Tryf.underlying22 hi hz0 hz1 hz2 rfl (by decide) v2 ss.length ((ss.take ss.length).map Value.string) rfl (hown2.alloc _) ⟨w2.heap.size, 0, none⟩ 1 1 [.string kind] rfl rfl (cell_one_new _ _ _) (by simp [Value.oneCell']) (by omega) (by unfold maxLen; omega) (by omega) (by have := hb2'.size; simp; omega) _ rfl ?_; intro g3 c3 w3 hown3 hgrow3 hat3 hlt3; have hb3 : Below wc.heap.size wc w3 := (hb2'.alloc hb2'.size _).grown hgrow3 (by have := hb2'.size; simp; omega) (fun k hk => (hown2.lt k hk).1)) | (at_builtin; refine wpList_append_own _ rfl (.tmp 64) (.tmp 67) 22 rfl wc.heap.size 9 i0 (.string ⟨#[]⟩) 1 16 Tryf.underlying22 hi hz0 hz1 hz2 rfl (by decide) _ (ss.length + 1) _ rfl hown3 ⟨g, 0, none⟩ 0 0 [] rfl rfl (fun j u hj => by cases hj) (fun u hu => by cases hu) (by unfold maxLen; omega) (by omega) hb3.size ?_; intro v4 w4 hown4 hgrow4 _; have hb4 : Below wc.heap.size wc w4 := hb3.grown hgrow4 hb3.size (fun k hk => (hown3.lt k hk).1)))
        obtain ⟨g4, c4, hv4, _, _⟩ := hown4.form (by omega)
        subst hv4
        have HT : Hid (StrsAt w4 (some ⟨g, 0, none⟩) ss ∧ StrsAt w4 (some ⟨g4, 0, none⟩) (insAt ss ss.length kind) ∧ Below w.heap.size w w4) := ⟨strsAt_below hs2 hb4, strsAt_own (by simpa [insAt] using hown4), hb2.trans (hb4.mono hb2.size)⟩
        have hlen : ss.length + 1 + 0 = (insAt ss ss.length kind).length := by rw [insAt_length ss ss.length (Nat.le_refl _) kind]
        rw [hlen]
        clear hown1 hown2 hown3 hown4 hgrow1 hgrow2 hgrow3 hgrow4 hb1 hb2' hb3 hb4 hlen hs2 HC
        refine (ends_any (some ⟨g, 0, none⟩) ss.length ss w4 HT.out.1 (by omega)).mono ?_
        rintro e w5 ⟨F, L, rfl, hF, hL, hw⟩
        have hw := hw.symm
        subst hw
        have hFb := first_bound hF
        have HFL : Hid (IsFirst ss F ∧ IsLast ss L) := ⟨hF, hL⟩
        clear hF hL
        go_wp2_with fail
        refine (of_any (some ⟨g, 0, none⟩) ss.length ss w4 HT.out.1 (by omega)).mono ?_
        rintro e w5 ⟨rfl, hb5⟩
        have HB5 : Hid (Below w.heap.size w w5 ∧ StrsAt w5 (some ⟨g4, 0, none⟩) (insAt ss ss.length kind)) := ⟨HT.out.2.2.trans (hb5.mono HT.out.2.2.size), strsAt_below HT.out.2.1 hb5⟩
        clear hb5
        go_wp2_with fail
        refine (of_any (some ⟨g4, 0, none⟩) c4 (insAt ss ss.length kind) w5 HB5.out.2 (by rw [insAt_length ss ss.length (Nat.le_refl _) kind]; omega)).mono ?_
        rintro e w6 ⟨rfl, hb6⟩
        have HB6 : Hid (Below w.heap.size w w6) := HB5.out.1.trans (hb6.mono HB5.out.1.size)
        clear hb6
        rw [insAt_length ss ss.length (Nat.le_refl _) kind]
        have hlaw := law HFL.out.1 HFL.out.2
        cases hkd : (kind.toList == [68, 101, 112, 108, 111, 121, 109, 101, 110, 116]) with
        | true =>
          have hins := ins_dep (ss := ss) (p := ss.length) HFL.out.1 (Nat.le_refl _) (kind := kind) hkd
          generalize idOf (deps (insAt ss ss.length kind) ((ss).length + 1)) = I1 at hins ⊢
          generalize failedOf (deps (insAt ss ss.length kind) ((ss).length + 1)) = F1 at hins ⊢
          generalize idOf (deps ss (ss).length) = I0 at hlaw ⊢
          generalize failedOf (deps ss (ss).length) = F0 at hlaw ⊢
          clear HFL HT HB5
          rcases hins with ⟨hi0, rfl, rfl⟩ | ⟨hi0, rfl, rfl⟩
          · rcases hlaw with ⟨h0, h1, h2, h3⟩ | ⟨h0, rfl, rfl⟩
            · omega
            · clear h0
              go_wp2
              go_ret
              exact ⟨rfl, HB6.out⟩
          · rcases hlaw with ⟨h0, rfl, rfl, rfl⟩ | ⟨h0, rfl, rfl⟩
            · go_wp2
              go_ret
              exact ⟨rfl, HB6.out⟩
            · have hFL : (F == L) = false := by simp; omega
              clear h0
              go_wp2
              go_ret
              exact ⟨rfl, HB6.out⟩
        | false =>
          have hins := ins_other (ss := ss) (p := ss.length) (Nat.le_refl _) (kind := kind) hkd
          generalize idOf (deps (insAt ss ss.length kind) ((ss).length + 1)) = I1 at hins ⊢
          generalize failedOf (deps (insAt ss ss.length kind) ((ss).length + 1)) = F1 at hins ⊢
          generalize idOf (deps ss (ss).length) = I0 at hlaw hins ⊢
          generalize failedOf (deps ss (ss).length) = F0 at hlaw hins ⊢
          clear HFL HT HB5
          obtain ⟨rfl, hI⟩ := hins
          rcases hlaw with ⟨h0, rfl, rfl, rfl⟩ | ⟨h0, rfl, rfl⟩
          · by_cases hpF : ((ss.length : Nat) : Int) ≤ I0
            · rw [if_pos hpF] at hI
              subst hI
              go_wp2
              go_ret
              exact ⟨rfl, HB6.out⟩
            · rw [if_neg hpF] at hI
              subst hI
              go_wp2
              go_ret
              exact ⟨rfl, HB6.out⟩
          · rw [if_neg (by omega)] at hI
            subst hI
            have hpm : ¬ ((ss.length : Nat) : Int) ≤ -1 := by omega
            by_cases hF : F < 0
            · clear h0
              go_wp2
              go_ret
              exact ⟨rfl, HB6.out⟩
            · have hFL : (F == L) = false := by simp; omega
              clear h0
              go_wp2
              go_ret
              exact ⟨rfl, HB6.out⟩
      · have hplt : p < ss.length := by omega
        clear hpc
        go_wp2_with (first | (at_make; refine wpList_make_own _ rfl _ _ 22 rfl wc.heap.size 9 i0 (.string ⟨#[]⟩) 1 Tryf.underlying22 hi hz0 hz1 .i64 .i64 _ (ss.length + 1) rfl rfl (by omega) (by rw [hz2]; omega) (by unfold maxLen; omega) (Nat.le_refl _) ?_; intro w1 hown1 hgrow1; have hb1 : Below wc.heap.size wc w1 := (Below.refl _ _).grown hgrow1 (Nat.le_refl _) (fun k hk => by cases hk)) | (at_builtin; refine wpList_append_own _ rfl (.tmp 55) (.tmp 58) 22 rfl wc.heap.size 9 i0 (.string ⟨#[]⟩) 1 16 Tryf.underlying22 hi hz0 hz1 hz2 rfl (by decide) _ 0 [] rfl hown1 ⟨g, 0, none⟩ p ss.length ((ss.take p).map Value.string) rfl (by simp; omega) (src_take HC.out hb1 (by omega)) (strs_one _) (by unfold maxLen; omega) (by omega) hb1.size ?_; intro v2 w2 hown2 hgrow2 _; have hb2' : Below wc.heap.size wc w2 := hb1.grown hgrow2 hb1.size (fun k hk => (hown1.lt k hk).1); simp only [Nat.zero_add, List.nil_append] at hown2) | (at_builtin; refine wpList_append_lies _ rfl (.tmp 60) (.tmp 62) 22 rfl wc.heap.size 9 i0 (.string ⟨#[]⟩) 1 16 Tryf.underlying22 hi hz0 hz1 hz2 rfl (by decide) v2 p ((ss.take p).map Value.string) rfl (hown2.alloc _) ⟨w2.heap.size, 0, none⟩ 1 1 [.string kind] rfl rfl (cell_one_new _ _ _) (by simp [Value.oneCell']) (by omega) (by unfold maxLen; omega) (by omega) (by have := hb2'.size; simp; omega) _ rfl ?_; intro g3 c3 w3 hown3 hgrow3 hat3 hlt3; have hb3 : Below wc.heap.size wc w3 := (hb2'.alloc hb2'.size _).grown hgrow3 (by have := hb2'.size; simp; omega) (fun k hk => (hown2.lt k hk).1)) | (at_builtin; refine wpList_append_lies _ rfl (.tmp 64) (.tmp 67) 22 rfl wc.heap.size 9 i0 (.string ⟨#[]⟩) 1 16 Tryf.underlying22 hi hz0 hz1 hz2 rfl (by decide) _ (p + 1) _ rfl hown3 ⟨g, p, none⟩ (ss.length - p) (ss.length - p) ((ss.drop p).map Value.string) rfl (by simp) (src_drop HC.out hb3 hpn) (strs_one _) (by omega) (by unfold maxLen; omega) (by omega) hb3.size _ rfl ?_; intro g4 c4 w4 hown4 hgrow4 hat4 hlt4; have hb4 : Below wc.heap.size wc w4 := hb3.grown hgrow4 hb3.size (fun k hk => (hown3.lt k hk).1)))
        have HT : Hid (StrsAt w4 (some ⟨g, 0, none⟩) ss ∧ StrsAt w4 (some ⟨g4, 0, none⟩) (insAt ss p kind) ∧ Below w.heap.size w w4) := ⟨strsAt_below hs2 hb4, strsAt_own (by simpa [insAt] using hown4), hb2.trans (hb4.mono hb2.size)⟩
        have hlen : p + 1 + (ss.length - p) = (insAt ss p kind).length := by rw [insAt_length ss p hpn kind]; omega
        rw [hlen]
        clear hown1 hown2 hown3 hown4 hgrow1 hgrow2 hgrow3 hgrow4 hb1 hb2' hb3 hb4 hlen hs2 HC hat3 hlt3 hat4 hlt4
        refine (ends_any (some ⟨g, 0, none⟩) ss.length ss w4 HT.out.1 (by omega)).mono ?_
        rintro e w5 ⟨F, L, rfl, hF, hL, hw⟩
        have hw := hw.symm
        subst hw
        have hFb := first_bound hF
        have HFL : Hid (IsFirst ss F ∧ IsLast ss L) := ⟨hF, hL⟩
        clear hF hL
        go_wp2_with fail
        refine (of_any (some ⟨g, 0, none⟩) ss.length ss w4 HT.out.1 (by omega)).mono ?_
        rintro e w5 ⟨rfl, hb5⟩
        have HB5 : Hid (Below w.heap.size w w5 ∧ StrsAt w5 (some ⟨g4, 0, none⟩) (insAt ss p kind)) := ⟨HT.out.2.2.trans (hb5.mono HT.out.2.2.size), strsAt_below HT.out.2.1 hb5⟩
        clear hb5
        go_wp2_with fail
        refine (of_any (some ⟨g4, 0, none⟩) c4 (insAt ss p kind) w5 HB5.out.2 (by rw [insAt_length ss p hpn kind]; omega)).mono ?_
        rintro e w6 ⟨rfl, hb6⟩
        have HB6 : Hid (Below w.heap.size w w6) := HB5.out.1.trans (hb6.mono HB5.out.1.size)
        clear hb6
        rw [insAt_length ss p (hpn) kind]
        have hlaw := law HFL.out.1 HFL.out.2
        cases hkd : (kind.toList == [68, 101, 112, 108, 111, 121, 109, 101, 110, 116]) with
        | true =>
          have hins := ins_dep (ss := ss) (p := p) HFL.out.1 (hpn) (kind := kind) hkd
          generalize idOf (deps (insAt ss p kind) ((ss).length + 1)) = I1 at hins ⊢
          generalize failedOf (deps (insAt ss p kind) ((ss).length + 1)) = F1 at hins ⊢
          generalize idOf (deps ss (ss).length) = I0 at hlaw ⊢
          generalize failedOf (deps ss (ss).length) = F0 at hlaw ⊢
          clear HFL HT HB5
          rcases hins with ⟨hi0, rfl, rfl⟩ | ⟨hi0, rfl, rfl⟩
          · rcases hlaw with ⟨h0, h1, h2, h3⟩ | ⟨h0, rfl, rfl⟩
            · omega
            · clear h0
              go_wp2
              go_ret
              exact ⟨rfl, HB6.out⟩
          · rcases hlaw with ⟨h0, rfl, rfl, rfl⟩ | ⟨h0, rfl, rfl⟩
            · go_wp2
              go_ret
              exact ⟨rfl, HB6.out⟩
            · have hFL : (F == L) = false := by simp; omega
              clear h0
              go_wp2
              go_ret
              exact ⟨rfl, HB6.out⟩
        | false =>
          have hins := ins_other (ss := ss) (p := p) (hpn) (kind := kind) hkd
          generalize idOf (deps (insAt ss p kind) ((ss).length + 1)) = I1 at hins ⊢
          generalize failedOf (deps (insAt ss p kind) ((ss).length + 1)) = F1 at hins ⊢
          generalize idOf (deps ss (ss).length) = I0 at hlaw hins ⊢
          generalize failedOf (deps ss (ss).length) = F0 at hlaw hins ⊢
          clear HFL HT HB5
          obtain ⟨rfl, hI⟩ := hins
          rcases hlaw with ⟨h0, rfl, rfl, rfl⟩ | ⟨h0, rfl, rfl⟩
          · by_cases hpF : ((p : Nat) : Int) ≤ I0
            · rw [if_pos hpF] at hI
              subst hI
              go_wp2
              go_ret
              exact ⟨rfl, HB6.out⟩
            · rw [if_neg hpF] at hI
              subst hI
              go_wp2
              go_ret
              exact ⟨rfl, HB6.out⟩
          · rw [if_neg (by omega)] at hI
            subst hI
            have hpm : ¬ ((p : Nat) : Int) ≤ -1 := by omega
            by_cases hF : F < 0
            · clear h0
              go_wp2
              go_ret
              exact ⟨rfl, HB6.out⟩
            · have hFL : (F == L) = false := by simp; omega
              clear h0
              go_wp2
              go_ret
              exact ⟨rfl, HB6.out⟩
end Go.Proofs.Qxb6618605aFmt
