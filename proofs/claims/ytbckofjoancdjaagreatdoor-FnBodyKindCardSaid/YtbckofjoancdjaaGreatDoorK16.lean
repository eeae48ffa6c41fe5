/- Package spec: boolSize, fixedSize. Package spec: coded. -/
import Derived.Test.YtbckofjoancdjaaGreatDoorK15
import Derived.Carry
namespace Go.Proofs.YtbckofjoancdjaaGreatDoor
open Go Go.RowKit Go.Lib
theorem boolSize_one (k : Int) (w : World) (h : k = 0 ∨ k = 1 ∨ 18 ≤ k) : Calls Tryz.prog 139 #[.int .i64 k] w fun e w' => e = .returned (.int .i64 1) ∧ w = w' := by
  rcases h with rfl | rfl | h
  · go_enter Tryz.func139, Tryz.ntmps139
    go_wp2
    go_ret
    exact ⟨rfl, rfl⟩
  · go_enter Tryz.func139, Tryz.ntmps139
    go_wp2
    go_ret
    exact ⟨rfl, rfl⟩
  · have n0 : (k == 0) = false := by simp; omega
    have n1 : (k == 1) = false := by simp; omega
    go_enter Tryz.func139, Tryz.ntmps139
    go_wp2
    go_ret
    exact ⟨rfl, rfl⟩
theorem boolSize_zero (k : Int) (w : World) (h : 1 < k ∧ k < 18) : Calls Tryz.prog 139 #[.int .i64 k] w fun e w' => e = .returned (.int .i64 0) ∧ w = w' := by
  have n0 : (k == 0) = false := by simp; omega
  have n1 : (k == 1) = false := by simp; omega
  obtain ⟨h1, h2⟩ := h
  go_enter Tryz.func139, Tryz.ntmps139
  go_wp2
  go_ret
  exact ⟨rfl, rfl⟩
theorem wpOp_lit {P : Program} {ops : Array Oper} {Q : Exit → Act → World → Prop} {K : Act → World → Prop} {i : Nat} {a : Act} {w : World} (h : ∃ o, ops[i]? = some o ∧ o.guard = none ∧ ∃ v w', (execOp a.eval o).run P w = .ok (.value v) w' ∧ K (a.put o.dst v) w') : wpOp P ops Q i K a w := by
  obtain ⟨o, ho, hg, v, w', hr, hk⟩ := h
  exact wpOp_run ho hg hr hk
theorem wpOp_skip {P : Program} {ops : Array Oper} {Q : Exit → Act → World → Prop} {K : Act → World → Prop} {i : Nat} {a : Act} {w : World} (h : ∃ o, ops[i]? = some o ∧ o.guard = none ∧ ∃ w', (execOp a.eval o).run P w = .ok .skip w' ∧ K (a.put o.dst undef) w') : wpOp P ops Q i K a w := by
  obtain ⟨o, ho, hg, w', hrun, hK⟩ := h
  unfold wpOp
  rw [ho]
  simp only [Region.wanted, hg, if_true]
  left
  unfold Oper.wp
  rw [hrun]
  exact hK
theorem wpOp_call {P : Program} {ops : Array Oper} {Q : Exit → Act → World → Prop} {K : Act → World → Prop} {i : Nat} {a : Act} {w : World} (h : ∃ o, ops[i]? = some o ∧ o.guard = none ∧ Oper.wp P o a w K Q) : wpOp P ops Q i K a w := by
  obtain ⟨o, ho, hg, hK⟩ := h
  unfold wpOp
  rw [ho]
  simp only [Region.wanted, hg, if_true]
  exact .inl hK
theorem all_listed {ops : Array Oper} {l : Array Bool} (hs : l.size = ops.size) (hr : Region.ready .any ops l = []) (hc : (List.range ops.size).all (fun i => match ops[i]? with | some o => o.after.all (fun e => decide (e.on < i)) | none => true) = true) : ∀ i, i < ops.size → l.getD i false = true := by
  intro i
  induction i using Nat.strongRecOn with
  | _ i ih =>
    intro hi
    cases hl : l.getD i false with
    | true => rfl
    | false =>
      exfalso
      have h1 := List.all_eq_true.1 hc i (List.mem_range.2 hi)
      have ho : ops[i]? = some ops[i] := Array.getElem?_eq_getElem hi
      rw [ho] at h1
      have hm : i ∈ Region.ready .any ops l := mem_ready.2 ⟨?_, ops[i], ho, fun e he _ => ?_⟩
      · rw [hr] at hm; cases hm
      · rw [Array.getD_eq_getD_getElem?] at hl ⊢
        rw [Array.getElem?_eq_getElem (by omega)] at hl ⊢
        exact hl
      · have h2 : e.on < i := by have := Array.all_eq_true_iff_forall_mem.1 h1 e he; simpa using this
        exact ih e.on h2 (by omega)
theorem dep_of {ops : Array Oper} {l : Array Bool} {i : Nat} (j : Nat) (hi : i ∈ Region.ready .any ops l) (hc : (match ops[i]? with | some o => o.after.any (fun e => e.on == j && Region.binds .any e) | none => false) = true) : l.getD j false = true := by
  obtain ⟨_, o, ho, hd⟩ := mem_ready.1 hi
  rw [ho] at hc
  obtain ⟨e, he, h⟩ := Array.any_eq_true'.1 hc
  rw [Bool.and_eq_true] at h
  have := hd e he h.2
  have hj : e.on = j := by simpa using h.1
  rwa [hj] at this
def fixT : List (Int × Int) := [(2, 1), (6, 1), (3, 2), (7, 2), (4, 4), (8, 4), (10, 4), (12, 4), (15, 4), (5, 8), (9, 8), (11, 8), (13, 8), (16, 8), (14, 16), (17, 16)]
theorem apart_of (T : List (Int × Int)) (h : (T.map (·.1)).Nodup) : KeysApart T := fun i j p q hi hj e => by
  have h1 : (T.map (·.1))[i]? = some p.1 := by rw [List.getElem?_map, hi]; rfl
  have h2 : (T.map (·.1))[j]? = some q.1 := by rw [List.getElem?_map, hj]; rfl
  exact (List.getElem?_inj (by simpa using (List.getElem?_eq_some_iff.1 hi).1) h).1 (h1.trans (e ▸ h2.symm))
theorem exec_insert (P : Program) (a : Act) (d : Option Tmp) (t ty : TypeId) (m x v : Operand) (ps : String) (af : Array Edge) (g : Option (Nat × Bool)) (w : World) :
    (execOp a.eval { dst := d, op := Op.insert t m x v, type := ty, pos := ps, after := af, guard := g }).run P w = ((Instr.mapUpdate t (a.eval m) (a.eval x) (a.eval v)).run P w).andThen fun _ w' => .ok .skip w' := by
  simp [execOp]
theorem exec_lookup (P : Program) (a : Act) (d : Option Tmp) (t ty : TypeId) (m x : Operand) (ps : String) (af : Array Edge) (g : Option (Nat × Bool)) (w : World) :
    (execOp a.eval { dst := d, op := Op.lookup t m x false, type := ty, pos := ps, after := af, guard := g }).run P w = ((Instr.lookup t (a.eval m) (a.eval x) false).run P w).andThen fun v w' => .ok (.value v) w' := by
  simp [execOp]
structure FixI (k bs : Int) (w0 : World) (b : Nat) (l : Array Bool) (a : Act) (w : World) : Prop where
  lsz : l.size = 24
  asz : a.tmps.size = 10
  df : a.defers = []
  s0 : a.tmps.getD 0 undef = .int .i64 k
  lit : LitInv fixT 3 b w0 l a w
  cl : l.getD 17 false = true → l.getD 0 false = true ∧ ∀ j, j < 16 → l.getD (j + 1) false = true
  slot : SlotInv [(17, 4, .map (some b)), (18, 5, .int .i64 k), (19, 6, .int .i64 (look fixT k)), (20, 7, .int .i64 k), (21, 8, .int .i64 bs), (22, 9, .int .i64 (look fixT k - bs)), (23, 2, .int .i64 (look fixT k - bs))] l a
theorem put_ne {a : Act} {d j : Nat} {v : Value} (h : d ≠ j) : (a.put (some d) v).tmps.getD j undef = a.tmps.getD j undef := by
  simp only [Act.put, Array.getD_eq_getD_getElem?]
  rw [Array.getElem?_setIfInBounds, if_neg h]
theorem put_eq {a : Act} {d : Nat} {v : Value} (h : d < a.tmps.size) : (a.put (some d) v).tmps.getD d undef = v := by simp [Act.put, h]
theorem getD_false {l : Array Bool} {i : Nat} (h : l.getD i true = false) : l.getD i false = false := by
  rw [Array.getD_eq_getD_getElem?] at h ⊢
  cases hx : l[i]? with
  | none => rfl
  | some b => rw [hx] at h; exact h
theorem getD_up {l : Array Bool} {i j : Nat} (h : l.getD j false = true) : (l.setIfInBounds i true).getD j false = true := by
  by_cases e : i = j
  · subst e
    rcases Nat.lt_or_ge i l.size with h1 | h1
    · exact getD_set_eq h1
    · rw [Array.getD_eq_getD_getElem?, Array.getElem?_eq_none h1] at h; cases h
  · rw [getD_set_ne' e]; exact h
theorem FixI.other {k bs : Int} {w0 w : World} {b : Nat} {l : Array Bool} {a : Act} (i d : Nat) (v : Value) (h : FixI k bs w0 b l a w) (hi : 16 < i) (hd : d < 10) (h0 : d ≠ 0) (h3 : d ≠ 3) (hcl : i = 17 → l.getD 0 false = true ∧ ∀ j, j < 16 → l.getD (j + 1) false = true)
    (hF : ∀ f ∈ [(17, 4, Value.map (some b)), (18, 5, .int .i64 k), (19, 6, .int .i64 (look fixT k)), (20, 7, .int .i64 k), (21, 8, .int .i64 bs), (22, 9, .int .i64 (look fixT k - bs)), (23, 2, .int .i64 (look fixT k - bs))], (f.1 = i → f.2.1 = d ∧ f.2.2 = v) ∧ (f.1 ≠ i → f.2.1 ≠ d)) :
    FixI k bs w0 b (l.setIfInBounds i true) (a.put (some d) v) w :=
  ⟨by simpa using h.lsz, by simpa [Act.put] using h.asz, h.df, by rw [put_ne h0]; exact h.s0, h.lit.other (by show 16 < i; exact hi) (put_ne h3), fun hh => (by
    have h7 : l.getD 0 false = true ∧ ∀ j, j < 16 → l.getD (j + 1) false = true := by
      by_cases e : i = 17
      · exact hcl e
      · rw [getD_set_ne' e] at hh; exact h.cl hh
    exact ⟨getD_up h7.1, fun j hj => getD_up (h7.2 j hj)⟩), h.slot.step hF (by rw [h.asz]; exact hd)⟩
theorem look_fix (k : Int) : -1 ≤ look fixT k ∧ look fixT k ≤ 16 := by
  unfold look
  cases h : fixT.find? (fun p => k == p.1) with
  | none => simp
  | some p =>
    have hm := List.mem_of_find?_eq_some h
    simp only [Option.map_some, Option.getD_some]
    simp only [fixT, List.mem_cons, List.mem_nil_iff, or_false] at hm
    rcases hm with rfl | rfl | rfl | rfl | rfl | rfl | rfl | rfl | rfl | rfl | rfl | rfl | rfl | rfl | rfl | rfl <;> simp
set_option maxRecDepth 100000 in
set_option maxHeartbeats 3200000 in
theorem fixedSize_ok (k bs : Int) (w : World) (hb01 : bs = 0 ∨ bs = 1) (hbs : ∀ W, Calls Tryz.prog 139 #[.int .i64 k] W fun e w' => e = .returned (.int .i64 bs) ∧ W = w') : Calls Tryz.prog 98 #[.int .i64 k] w fun e w' => e = .returned (.int .i64 (look fixT k - bs)) ∧ Kept Nope w w' := by
  have HBS := Lib.hid hbs
  clear hbs
  go_enter Tryz.func98, Tryz.ntmps98
  go_wp2
  refine wp_region_any (by kernel_rfl) ?_
  refine wpAny_inv (FixI k bs w.drew w.heap.size) (fun l a w' hI i hi => ?_) (fun l a w' hI hr => ?_) _ _ _ _ (by decide) ?_
  · have hl := getD_false (mem_ready.1 hi).1
    have hlt : i < 24 := by obtain ⟨_, o, ho, _⟩ := mem_ready.1 hi; exact (Array.getElem?_eq_some_iff.1 ho).1
    have hsl := hI.slot
    have hz := hI.lsz
    rcases (show i = 0 ∨ (0 < i ∧ i < 17) ∨ i = 17 ∨ i = 18 ∨ i = 19 ∨ i = 20 ∨ i = 21 ∨ i = 22 ∨ i = 23 by omega) with rfl | ⟨h1, h2⟩ | rfl | rfl | rfl | rfl | rfl | rfl | rfl
    · refine wpOp_lit ?_
      simp only [List.getElem?_toArray, List.getElem?_cons_zero, Option.some.injEq, exists_eq_left']
      refine ⟨trivial, .map (some w'.heap.size), w'.alloc (.map #[] 0), ?_, ⟨by simpa using hz, by simpa [Act.put] using hI.asz, hI.df, by rw [put_ne (by omega)]; exact hI.s0, hI.lit.make hl (by omega) (put_eq (by rw [hI.asz]; omega)), fun hh => ?_, hsl.step (fun f hf => ?_) (by rw [hI.asz]; omega)⟩⟩
      · rfl
      · rw [getD_set_ne' (by omega)] at hh
        have := (hI.cl hh).1
        rw [hl] at this
        cases this
      · simp at hf; rcases hf with rfl | rfl | rfl | rfl | rfl | rfl | rfl <;> simp
    · have d0 : l.getD 0 false = true := by
        rcases (show i = 1 ∨ i = 2 ∨ i = 3 ∨ i = 4 ∨ i = 5 ∨ i = 6 ∨ i = 7 ∨ i = 8 ∨ i = 9 ∨ i = 10 ∨ i = 11 ∨ i = 12 ∨ i = 13 ∨ i = 14 ∨ i = 15 ∨ i = 16 by omega) with rfl | rfl | rfl | rfl | rfl | rfl | rfl | rfl | rfl | rfl | rfl | rfl | rfl | rfl | rfl | rfl
        all_goals exact dep_of 0 hi (by kernel_rfl)
      have e3 : a.eval (.tmp 3) = .map (some w.heap.size) := (hI.lit.yes d0).1
      have hT : KeysApart fixT := apart_of _ (by decide)
      have hcl2 : ∀ w2, LitInv fixT 3 w.heap.size w.drew (l.setIfInBounds i true) a w2 → FixI k bs w.drew w.heap.size (l.setIfInBounds i true) (a.put none undef) w2 := fun w2 hL =>
        ⟨by simpa using hz, hI.asz, hI.df, hI.s0, hL, fun hh => (by
          rw [getD_set_ne' (by omega)] at hh
          exact ⟨getD_up (hI.cl hh).1, fun j hj => getD_up ((hI.cl hh).2 j hj)⟩), hsl.none_ (fun f hf => by simp at hf; rcases hf with rfl | rfl | rfl | rfl | rfl | rfl | rfl <;> simp <;> omega)⟩
      rcases (show i = 1 ∨ i = 2 ∨ i = 3 ∨ i = 4 ∨ i = 5 ∨ i = 6 ∨ i = 7 ∨ i = 8 ∨ i = 9 ∨ i = 10 ∨ i = 11 ∨ i = 12 ∨ i = 13 ∨ i = 14 ∨ i = 15 ∨ i = 16 by omega) with rfl | rfl | rfl | rfl | rfl | rfl | rfl | rfl | rfl | rfl | rfl | rfl | rfl | rfl | rfl | rfl
      · obtain ⟨w2, hrun, hL⟩ := hI.lit.ins (j := 0) (p := (2, 1)) hT d0 rfl hl (by omega)
        refine wpOp_skip ?_
        simp only [List.getElem?_toArray, List.getElem?_cons_succ, List.getElem?_cons_zero, Option.some.injEq, exists_eq_left']
        refine ⟨trivial, w2, ?_, hcl2 w2 hL⟩
        rw [exec_insert, e3]
        simp only [Act.eval]
        rw [hrun]
        rfl
      · obtain ⟨w2, hrun, hL⟩ := hI.lit.ins (j := 1) (p := (6, 1)) hT d0 rfl hl (by omega)
        refine wpOp_skip ?_
        simp only [List.getElem?_toArray, List.getElem?_cons_succ, List.getElem?_cons_zero, Option.some.injEq, exists_eq_left']
        refine ⟨trivial, w2, ?_, hcl2 w2 hL⟩
        rw [exec_insert, e3]
        simp only [Act.eval]
        rw [hrun]
        rfl
      · obtain ⟨w2, hrun, hL⟩ := hI.lit.ins (j := 2) (p := (3, 2)) hT d0 rfl hl (by omega)
        refine wpOp_skip ?_
        simp only [List.getElem?_toArray, List.getElem?_cons_succ, List.getElem?_cons_zero, Option.some.injEq, exists_eq_left']
        refine ⟨trivial, w2, ?_, hcl2 w2 hL⟩
        rw [exec_insert, e3]
        simp only [Act.eval]
        rw [hrun]
        rfl
      · obtain ⟨w2, hrun, hL⟩ := hI.lit.ins (j := 3) (p := (7, 2)) hT d0 rfl hl (by omega)
        refine wpOp_skip ?_
        simp only [List.getElem?_toArray, List.getElem?_cons_succ, List.getElem?_cons_zero, Option.some.injEq, exists_eq_left']
        refine ⟨trivial, w2, ?_, hcl2 w2 hL⟩
        rw [exec_insert, e3]
        simp only [Act.eval]
        rw [hrun]
        rfl
      · obtain ⟨w2, hrun, hL⟩ := hI.lit.ins (j := 4) (p := (4, 4)) hT d0 rfl hl (by omega)
        refine wpOp_skip ?_
        simp only [List.getElem?_toArray, List.getElem?_cons_succ, List.getElem?_cons_zero, Option.some.injEq, exists_eq_left']
        refine ⟨trivial, w2, ?_, hcl2 w2 hL⟩
        rw [exec_insert, e3]
        simp only [Act.eval]
        rw [hrun]
        rfl
      · obtain ⟨w2, hrun, hL⟩ := hI.lit.ins (j := 5) (p := (8, 4)) hT d0 rfl hl (by omega)
        refine wpOp_skip ?_
        simp only [List.getElem?_toArray, List.getElem?_cons_succ, List.getElem?_cons_zero, Option.some.injEq, exists_eq_left']
        refine ⟨trivial, w2, ?_, hcl2 w2 hL⟩
        rw [exec_insert, e3]
        simp only [Act.eval]
        rw [hrun]
        rfl
      · obtain ⟨w2, hrun, hL⟩ := hI.lit.ins (j := 6) (p := (10, 4)) hT d0 rfl hl (by omega)
        refine wpOp_skip ?_
        simp only [List.getElem?_toArray, List.getElem?_cons_succ, List.getElem?_cons_zero, Option.some.injEq, exists_eq_left']
        refine ⟨trivial, w2, ?_, hcl2 w2 hL⟩
        rw [exec_insert, e3]
        simp only [Act.eval]
        rw [hrun]
        rfl
      · obtain ⟨w2, hrun, hL⟩ := hI.lit.ins (j := 7) (p := (12, 4)) hT d0 rfl hl (by omega)
        refine wpOp_skip ?_
        simp only [List.getElem?_toArray, List.getElem?_cons_succ, List.getElem?_cons_zero, Option.some.injEq, exists_eq_left']
        refine ⟨trivial, w2, ?_, hcl2 w2 hL⟩
        rw [exec_insert, e3]
        simp only [Act.eval]
        rw [hrun]
        rfl
      · obtain ⟨w2, hrun, hL⟩ := hI.lit.ins (j := 8) (p := (15, 4)) hT d0 rfl hl (by omega)
        refine wpOp_skip ?_
        simp only [List.getElem?_toArray, List.getElem?_cons_succ, List.getElem?_cons_zero, Option.some.injEq, exists_eq_left']
        refine ⟨trivial, w2, ?_, hcl2 w2 hL⟩
        rw [exec_insert, e3]
        simp only [Act.eval]
        rw [hrun]
        rfl
      · obtain ⟨w2, hrun, hL⟩ := hI.lit.ins (j := 9) (p := (5, 8)) hT d0 rfl hl (by omega)
        refine wpOp_skip ?_
        simp only [List.getElem?_toArray, List.getElem?_cons_succ, List.getElem?_cons_zero, Option.some.injEq, exists_eq_left']
        refine ⟨trivial, w2, ?_, hcl2 w2 hL⟩
        rw [exec_insert, e3]
        simp only [Act.eval]
        rw [hrun]
        rfl
      · obtain ⟨w2, hrun, hL⟩ := hI.lit.ins (j := 10) (p := (9, 8)) hT d0 rfl hl (by omega)
        refine wpOp_skip ?_
        simp only [List.getElem?_toArray, List.getElem?_cons_succ, List.getElem?_cons_zero, Option.some.injEq, exists_eq_left']
        refine ⟨trivial, w2, ?_, hcl2 w2 hL⟩
        rw [exec_insert, e3]
        simp only [Act.eval]
        rw [hrun]
        rfl
      · obtain ⟨w2, hrun, hL⟩ := hI.lit.ins (j := 11) (p := (11, 8)) hT d0 rfl hl (by omega)
        refine wpOp_skip ?_
        simp only [List.getElem?_toArray, List.getElem?_cons_succ, List.getElem?_cons_zero, Option.some.injEq, exists_eq_left']
        refine ⟨trivial, w2, ?_, hcl2 w2 hL⟩
        rw [exec_insert, e3]
        simp only [Act.eval]
        rw [hrun]
        rfl
      · obtain ⟨w2, hrun, hL⟩ := hI.lit.ins (j := 12) (p := (13, 8)) hT d0 rfl hl (by omega)
        refine wpOp_skip ?_
        simp only [List.getElem?_toArray, List.getElem?_cons_succ, List.getElem?_cons_zero, Option.some.injEq, exists_eq_left']
        refine ⟨trivial, w2, ?_, hcl2 w2 hL⟩
        rw [exec_insert, e3]
        simp only [Act.eval]
        rw [hrun]
        rfl
      · obtain ⟨w2, hrun, hL⟩ := hI.lit.ins (j := 13) (p := (16, 8)) hT d0 rfl hl (by omega)
        refine wpOp_skip ?_
        simp only [List.getElem?_toArray, List.getElem?_cons_succ, List.getElem?_cons_zero, Option.some.injEq, exists_eq_left']
        refine ⟨trivial, w2, ?_, hcl2 w2 hL⟩
        rw [exec_insert, e3]
        simp only [Act.eval]
        rw [hrun]
        rfl
      · obtain ⟨w2, hrun, hL⟩ := hI.lit.ins (j := 14) (p := (14, 16)) hT d0 rfl hl (by omega)
        refine wpOp_skip ?_
        simp only [List.getElem?_toArray, List.getElem?_cons_succ, List.getElem?_cons_zero, Option.some.injEq, exists_eq_left']
        refine ⟨trivial, w2, ?_, hcl2 w2 hL⟩
        rw [exec_insert, e3]
        simp only [Act.eval]
        rw [hrun]
        rfl
      · obtain ⟨w2, hrun, hL⟩ := hI.lit.ins (j := 15) (p := (17, 16)) hT d0 rfl hl (by omega)
        refine wpOp_skip ?_
        simp only [List.getElem?_toArray, List.getElem?_cons_succ, List.getElem?_cons_zero, Option.some.injEq, exists_eq_left']
        refine ⟨trivial, w2, ?_, hcl2 w2 hL⟩
        rw [exec_insert, e3]
        simp only [Act.eval]
        rw [hrun]
        rfl
    · have d0 := dep_of 0 hi (by kernel_rfl)
      have hall : ∀ j, j < 16 → l.getD (j + 1) false = true := fun j hj => by
        rcases (show j = 0 ∨ j = 1 ∨ j = 2 ∨ j = 3 ∨ j = 4 ∨ j = 5 ∨ j = 6 ∨ j = 7 ∨ j = 8 ∨ j = 9 ∨ j = 10 ∨ j = 11 ∨ j = 12 ∨ j = 13 ∨ j = 14 ∨ j = 15 by omega) with rfl | rfl | rfl | rfl | rfl | rfl | rfl | rfl | rfl | rfl | rfl | rfl | rfl | rfl | rfl | rfl
        · exact dep_of 1 hi (by kernel_rfl)
        · exact dep_of 2 hi (by kernel_rfl)
        · exact dep_of 3 hi (by kernel_rfl)
        · exact dep_of 4 hi (by kernel_rfl)
        · exact dep_of 5 hi (by kernel_rfl)
        · exact dep_of 6 hi (by kernel_rfl)
        · exact dep_of 7 hi (by kernel_rfl)
        · exact dep_of 8 hi (by kernel_rfl)
        · exact dep_of 9 hi (by kernel_rfl)
        · exact dep_of 10 hi (by kernel_rfl)
        · exact dep_of 11 hi (by kernel_rfl)
        · exact dep_of 12 hi (by kernel_rfl)
        · exact dep_of 13 hi (by kernel_rfl)
        · exact dep_of 14 hi (by kernel_rfl)
        · exact dep_of 15 hi (by kernel_rfl)
        · exact dep_of 16 hi (by kernel_rfl)
      have e3 : a.eval (.tmp 3) = .map (some w.heap.size) := (hI.lit.yes d0).1
      refine wpOp_lit ?_
      simp only [List.getElem?_toArray, List.getElem?_cons_succ, List.getElem?_cons_zero, Option.some.injEq, exists_eq_left']
      refine ⟨trivial, .map (some w.heap.size), w', ?_, (hI.other 17 4 _ (by omega) (by omega) (by omega) (by omega) (fun _ => ⟨d0, hall⟩) ?_)⟩
      · simp [execOp, e3]
      · intro f hf; simp at hf; rcases hf with rfl | rfl | rfl | rfl | rfl | rfl | rfl <;> simp
    · have e0 : a.eval (.tmp 0) = .int .i64 k := hI.s0
      refine wpOp_lit ?_
      simp only [List.getElem?_toArray, List.getElem?_cons_succ, List.getElem?_cons_zero, Option.some.injEq, exists_eq_left']
      refine ⟨trivial, .int .i64 k, w', ?_, (hI.other 18 5 _ (by omega) (by omega) (by omega) (by omega) (fun h => by omega) ?_)⟩
      · simp [execOp, e0]
      · intro f hf; simp at hf; rcases hf with rfl | rfl | rfl | rfl | rfl | rfl | rfl <;> simp
    · have d17 := dep_of 17 hi (by kernel_rfl)
      have d18 := dep_of 18 hi (by kernel_rfl)
      have e4 : a.eval (.tmp 4) = .map (some w.heap.size) := hsl (17, 4, _) (by simp) d17
      have e5 : a.eval (.tmp 5) = .int .i64 k := hsl (18, 5, _) (by simp) d18
      have hlk := hI.lit.full (apart_of _ (by decide)) (hI.cl d17).1 (hI.cl d17).2 k
      refine wpOp_lit ?_
      simp only [List.getElem?_toArray, List.getElem?_cons_succ, List.getElem?_cons_zero, Option.some.injEq, exists_eq_left']
      refine ⟨trivial, .int .i64 (look fixT k), w', ?_, (hI.other 19 6 _ (by omega) (by omega) (by omega) (by omega) (fun h => by omega) ?_)⟩
      · rw [exec_lookup, e4, e5, hlk]; rfl
      · intro f hf; simp at hf; rcases hf with rfl | rfl | rfl | rfl | rfl | rfl | rfl <;> simp
    · have e0 : a.eval (.tmp 0) = .int .i64 k := hI.s0
      refine wpOp_lit ?_
      simp only [List.getElem?_toArray, List.getElem?_cons_succ, List.getElem?_cons_zero, Option.some.injEq, exists_eq_left']
      refine ⟨trivial, .int .i64 k, w', ?_, (hI.other 20 7 _ (by omega) (by omega) (by omega) (by omega) (fun h => by omega) ?_)⟩
      · simp [execOp, e0]
      · intro f hf; simp at hf; rcases hf with rfl | rfl | rfl | rfl | rfl | rfl | rfl <;> simp
    · have d20 := dep_of 20 hi (by kernel_rfl)
      have e7 : a.eval (.tmp 7) = .int .i64 k := hsl (20, 7, _) (by simp) d20
      have hfin := hI.other 21 8 (.int .i64 bs) (by omega) (by omega) (by omega) (by omega) (fun h => by omega) (by intro f hf; simp at hf; rcases hf with rfl | rfl | rfl | rfl | rfl | rfl | rfl <;> simp)
      have HF := Lib.hid hfin
      clear hfin
      refine wpOp_call ?_
      simp only [List.getElem?_toArray, List.getElem?_cons_succ, List.getElem?_cons_zero, Option.some.injEq, exists_eq_left']
      refine ⟨trivial, ?_⟩
      have e7' : a.tmps.getD 7 undef = .int .i64 k := e7
      clear hi hl hsl hz e7 d20
      generalize HID0 : (fun a' w' => FixI k bs w.drew w.heap.size (l.setIfInBounds 21 true) a' w') = K21
      have hK21 : K21 (a.put (some 8) (.int .i64 bs)) w' := by rw [← HID0]; exact HF.out
      have HK21 := Lib.hid hK21
      clear hK21 HID0
      go_simp
      refine (HBS.out _).mono ?_
      rintro e w2 ⟨rfl, rfl⟩
      exact HK21.out
    · have d19 := dep_of 19 hi (by kernel_rfl)
      have d21 := dep_of 21 hi (by kernel_rfl)
      have e6 : a.eval (.tmp 6) = .int .i64 (look fixT k) := hsl (19, 6, _) (by simp) d19
      have e8 : a.eval (.tmp 8) = .int .i64 bs := hsl (21, 8, _) (by simp) d21
      have hw : IntKind.i64.wrap (look fixT k - bs) = look fixT k - bs := IntWalk.i64_in _ (by have := look_fix k; omega)
      refine wpOp_lit ?_
      simp only [List.getElem?_toArray, List.getElem?_cons_succ, List.getElem?_cons_zero, Option.some.injEq, exists_eq_left']
      refine ⟨trivial, .int .i64 (look fixT k - bs), w', ?_, (hI.other 22 9 _ (by omega) (by omega) (by omega) (by omega) (fun h => by omega) ?_)⟩
      · have e6' : a.tmps.getD 6 undef = .int .i64 (look fixT k) := e6
        have e8' : a.tmps.getD 8 undef = .int .i64 bs := e8
        go_simp
      · intro f hf; simp at hf; rcases hf with rfl | rfl | rfl | rfl | rfl | rfl | rfl <;> simp
    · have d22 := dep_of 22 hi (by kernel_rfl)
      have e9 : a.eval (.tmp 9) = .int .i64 (look fixT k - bs) := hsl (22, 9, _) (by simp) d22
      refine wpOp_lit ?_
      simp only [List.getElem?_toArray, List.getElem?_cons_succ, List.getElem?_cons_zero, Option.some.injEq, exists_eq_left']
      refine ⟨trivial, .int .i64 (look fixT k - bs), w', ?_, (hI.other 23 2 _ (by omega) (by omega) (by omega) (by omega) (fun h => by omega) ?_)⟩
      · simp [execOp, e9]
      · intro f hf; simp at hf; rcases hf with rfl | rfl | rfl | rfl | rfl | rfl | rfl <;> simp
  · have hall := all_listed (by rw [hI.lsz]; rfl) hr (by kernel_rfl)
    have h2 := hI.slot (23, 2, .int .i64 (look fixT k - bs)) (by simp) (hall 23 (by decide))
    have hk := (hI.lit.yes (hall 0 (by decide))).2.1
    rename_i Qx Kx hKx
    have hdf := hI.df
    refine hKx a w' ?_
    obtain ⟨tm, df⟩ := a
    simp only at hdf h2
    subst hdf
    have H2 := Lib.hid (And.intro h2 (((Kept.refl Nope w).drew).trans' hk))
    clear hI hr hall h2 hk
    go_wp2
    refine bodyPost_ret (fn := Tryz.f98) (v := .int .i64 (look fixT k - bs)) ?_ rfl ⟨rfl, H2.out.2⟩
    exact (results_tmp (fn := Tryz.f98) rfl tm _ w').trans (by rw [H2.out.1])
  · refine ⟨by simp, rfl, rfl, rfl, ⟨rfl, fun _ => ⟨rfl, fun j hj => ?_⟩, fun h => ?_⟩, fun h => ?_, fun f hf h => ?_⟩
    · simp only [fixT, List.length_cons, List.length_nil] at hj
      rw [Array.getD_eq_getD_getElem?, Array.getElem?_replicate]
      split <;> rfl
    · simp at h
    · simp at h
    · simp only [Array.getD_eq_getD_getElem?, Array.getElem?_replicate] at h
      split at h <;> simp at h
end Go.Proofs.YtbckofjoancdjaaGreatDoor
namespace Go.Proofs.YtbckofjoancdjaaGreatDoor
open Go Go.RowKit Go.Lib
theorem wpList_insert_int {ops : Array Oper} {rest : List Oper} {o : Oper} {a : Act} {Q : Exit → Act → World → Prop} {w : World} (hg : o.guard = none) (m x v : Operand) (hop : o.op = Op.insert 243 m x v)
    {b : Nat} {t : List (Int × Int)} {k n : Int} (hm : a.eval m = .map (some b)) (hx : a.eval x = .int .i64 k) (hv : a.eval v = .int .i64 n) (h : MapAt w b (t.map ip)) (hn : t.all (fun p => decide (p.1 ≠ k)) = true)
    (hK : ∀ w', MapAt w' b ((t ++ [(k, n)]).map ip) → Kept (Only b) w w' → wpList Tryz.prog ops Q rest (a.put o.dst undef) w') : wpList Tryz.prog ops Q (o :: rest) a w := by
  refine wpList_plain hg fun K hK' => ?_
  obtain ⟨w', hrun, h1, h2⟩ := h.put (key := .int .i64 k) (val := .int .i64 n) Tryz.underlying243 (fun W => check_int false k W) (NoKey.int fun p hp => by have := List.all_eq_true.1 hn p hp; simpa using this)
  unfold Oper.wp
  simp [execOp, hop, hm, hx, hv, hrun, Result.andThen]
  exact hK' _ _ (hK w' (by simpa [ip] using h1) h2)
theorem wpList_lookup_int {ops : Array Oper} {rest : List Oper} {o : Oper} {a : Act} {Q : Exit → Act → World → Prop} {w : World} (hg : o.guard = none) (m x : Operand) (hop : o.op = Op.lookup 243 m x false)
    {b : Nat} {t : List (Int × Int)} {k : Int} (hm : a.eval m = .map (some b)) (hx : a.eval x = .int .i64 k) (h : MapAt w b (t.map ip))
    (hK : wpList Tryz.prog ops Q rest (a.put o.dst (.int .i64 (look t k))) w) : wpList Tryz.prog ops Q (o :: rest) a w := by
  refine wpList_plain hg fun K hK' => ?_
  have hrun := lookup_int h k
  unfold Oper.wp
  simp [execOp, hop, hm, hx, hrun, Result.andThen]
  exact hK' _ _ hK
def codT : List (Int × Int) := [(0, 64), (1, 86), (2, 80), (6, 81), (3, 96), (7, 97), (4, 112), (8, 113), (10, 114), (15, 115), (12, 116), (5, 128), (9, 129), (11, 130), (16, 131), (13, 132), (14, 148), (17, 152), (18, 176), (19, 177), (20, 179), (21, 208), (22, 209), (23, 240)]
set_option maxRecDepth 100000 in
set_option maxHeartbeats 3200000 in
theorem coded_ok (k : Int) (w : World) : Calls Tryz.prog 89 #[.int .i64 k] w fun e w' => e = .returned (.int .i64 (look codT k)) ∧ Kept Nope w w' := by
  have HM := Lib.hid (show MapAt (w.alloc (.map #[] 0)) w.heap.size (([] : List (Int × Int)).map ip) from MapAt.new w)
  have HK := Lib.hid (Kept.refl (Only w.heap.size) (w.alloc (.map #[] 0)))
  have hmk := fun W => run_makeMap (P := Tryz.prog) 243 W
  go_enter Tryz.func89, Tryz.ntmps89
  go_wp2_with (first | (refine wpList_insert_int rfl (.tmp 3) _ _ rfl rfl rfl rfl HM.out (by decide) ?_; intro w2 hm2 hk2; replace HM := Lib.hid hm2; replace HK := Lib.hid (HK.out.trans' hk2); clear hm2 hk2) | (refine wpList_lookup_int rfl (.tmp 4) (.tmp 5) rfl rfl rfl HM.out ?_))
  go_ret
  exact ⟨rfl, ((Kept.refl Nope w).alloc _).trans HK.out fun b hb e => by have e' : b = w.heap.size := e; omega⟩
end Go.Proofs.YtbckofjoancdjaaGreatDoor
