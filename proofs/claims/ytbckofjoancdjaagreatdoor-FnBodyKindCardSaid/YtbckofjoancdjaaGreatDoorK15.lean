/- Map literals of whole numbers: their inserts come in any order; what a look-up gives; a region by an invariant. Map literals: what is known while their inserts come in any order ('LitInv'), and of the slots of the operations that are listed ('SlotInv'). Package spec: SymbolArrays: it answers no only of trees without arrays of symbols. Package spec: EmptyTexts, Values. -/
import Derived.OrdersHeld
import Derived.Test.YtbckofjoancdjaaGreatDoorK14
import Derived.Test.YtbckofjoancdjaaGreatDoorK7
namespace Go.Proofs.YtbckofjoancdjaaGreatDoor
open Go Go.RowKit Go.Lib
def ip (p : Int × Int) : Value × Value := (.int .i64 p.1, .int .i64 p.2)
def look (t : List (Int × Int)) (k : Int) : Int := ((t.find? fun p => k == p.1).map (·.2)).getD 0
theorem findNow_int (q : IntKind) (k : Int) : ∀ (t : List (Int × Int)) (arr : List MapEntry) (i : Nat), arr.map (fun e => (e.key, e.val)) = t.map ip →
    ∃ r, Instr.findNow (.int q) (.int .i64 k) arr i = some r ∧ ((t.find? fun p => k == p.1) = none → r = none) ∧ (∀ p, (t.find? fun p => k == p.1) = some p → ∃ j, r = some (j, .int .i64 p.2))
  | [], arr, i, h => by
    have : arr = [] := by simpa using h
    subst this
    exact ⟨none, rfl, fun _ => rfl, fun p hp => by simp at hp⟩
  | p :: t, arr, i, h => by
    cases arr with
    | nil => simp at h
    | cons e arr =>
      simp only [List.map_cons, List.cons.injEq, Prod.mk.injEq, ip] at h
      obtain ⟨⟨h1, h2⟩, h3⟩ := h
      obtain ⟨r, hr, g1, g2⟩ := findNow_int q k t arr (i + 1) h3
      by_cases hk : k = p.1
      · refine ⟨some (i, e.val), ?_, fun hn => ?_, fun p' hp => ?_⟩
        · simp [Instr.findNow, h1, Instr.sameNow, hk]
        · simp [hk] at hn
        · have : p = p' := by simpa [List.find?_cons, hk] using hp
          subst this
          exact ⟨i, by rw [h2]⟩
      · refine ⟨r, ?_, fun hn => g1 (by simpa [List.find?_cons, hk] using hn), fun p' hp => g2 p' (by simpa [List.find?_cons, hk] using hp)⟩
        have hb : (k == p.1) = false := by simpa using hk
        simp only [Instr.findNow, h1, Instr.sameNow, if_true, hb]
        exact hr
theorem NoKey.int {k : Int} {t : List (Int × Int)} (h : ∀ p ∈ t, p.1 ≠ k) : NoKey 3 (.int .i64 k) (t.map ip) := by
  intro arr ha W
  have hn : (t.find? fun p => k == p.1) = none := List.find?_eq_none.2 fun p hp => by simpa using fun e => h p hp (Eq.symm e)
  obtain ⟨r, hr, g1, _⟩ := findNow_int .i64 k t arr 0 ha
  rw [g1 hn] at hr
  unfold Instr.findKey
  simp only [Sem.run_bind, run_underlying Tryz.underlying3, Result.andThen_ok, hr, Sem.run_pure]
theorem check_int (b : Bool) (k : Int) (W : World) : (Instr.checkKey b 10000 3 (.int .i64 k)).run Tryz.prog W = .ok () W := by cases b <;> kernel_rfl
theorem zero_int (W : World) : (zeroValue 3).run Tryz.prog W = .ok (.int .i64 0) W := by kernel_rfl
theorem lookup_int {w : World} {b : Nat} {t : List (Int × Int)} (h : MapAt w b (t.map ip)) (k : Int) : (Instr.lookup 243 (.map (some b)) (.int .i64 k) false).run Tryz.prog w = .ok (.int .i64 (look t k)) w := by
  obtain ⟨arr, clock, hb, he, _⟩ := h
  obtain ⟨r, hr, g1, g2⟩ := findNow_int .i64 k t arr.toList 0 he
  have hfk : (Instr.findKey 3 (.int .i64 k) arr.toList).run Tryz.prog w = .ok r w := by
    unfold Instr.findKey
    simp only [Sem.run_bind, run_underlying Tryz.underlying3, Result.andThen_ok, hr, Sem.run_pure]
  unfold Instr.lookup
  simp only [Sem.run_bind, run_underlying Tryz.underlying243, Result.andThen_ok, MapKept.run_getObj_map hb, Sem.run_pure, check_int, hfk]
  cases hf : (t.find? fun p => k == p.1) with
  | none =>
    rw [g1 hf]
    simp [look, hf]
  | some p =>
    obtain ⟨j, hj⟩ := g2 p hf
    rw [hj]
    simp [look, hf]
def rem (l : Array Bool) : Nat := l.toList.countP (fun b => !b)
theorem countP_set : ∀ (l : List Bool) (i : Nat), l[i]? = some false → (l.set i true).countP (fun b => !b) + 1 = l.countP (fun b => !b)
  | [], i, h => by simp at h
  | b :: l, 0, h => by
    have : b = false := by simpa using h
    subst this
    simp
  | b :: l, i + 1, h => by
    have ih := countP_set l i (by simpa using h)
    simp only [List.set_cons_succ, List.countP_cons]
    omega
theorem rem_set {l : Array Bool} {i : Nat} (h : l.getD i true = false) : rem (l.setIfInBounds i true) + 1 = rem l := by
  obtain ⟨l⟩ := l
  unfold rem
  have h1 : l[i]? = some false := by
    rw [Array.getD_eq_getD_getElem?] at h
    cases hx : l[i]? with
    | none => simp [hx] at h
    | some b => simp [hx] at h; rw [h]
  simpa using countP_set l i h1
theorem wpAny_inv {P : Program} {md : Region.Mode} {ops : Array Oper} {Q : Exit → Act → World → Prop} (I : Array Bool → Act → World → Prop)
    (hstep : ∀ l a w, I l a w → ∀ i, i ∈ Region.ready md ops l → wpOp P ops Q i (fun a' w' => I (l.setIfInBounds i true) a' w') a w)
    (hdone : ∀ l a w, I l a w → Region.ready md ops l = [] → Q .normal a w) : ∀ (fuel : Nat) (l : Array Bool) (a : Act) (w : World), rem l ≤ fuel → I l a w → wpAny P md ops Q fuel l a w := by
  intro fuel
  induction fuel with
  | zero =>
    intro l a w hl hI
    have hr : Region.ready md ops l = [] := by
      cases h : Region.ready md ops l with
      | nil => rfl
      | cons i r =>
        have hi : i ∈ Region.ready md ops l := by rw [h]; simp
        have := rem_set (mem_ready.1 hi).1
        omega
    exact ⟨hr, hdone l a w hI hr⟩
  | succ fuel ih =>
    intro l a w hl hI
    refine ⟨hdone l a w hI, fun i hi => ?_⟩
    have h1 := rem_set (mem_ready.1 hi).1
    exact wpOp_mono (fun a' w' h => ih _ a' w' (by omega) h) (hstep l a w hI i hi)
theorem wpOp_run {P : Program} {ops : Array Oper} {Q : Exit → Act → World → Prop} {K : Act → World → Prop} {i : Nat} {o : Oper} {a : Act} {w w' : World} {v : Value} (ho : ops[i]? = some o) (hg : o.guard = none) (hrun : (execOp a.eval o).run P w = .ok (.value v) w') (hK : K (a.put o.dst v) w') : wpOp P ops Q i K a w := by
  unfold wpOp
  rw [ho]
  simp only [Region.wanted, hg, if_true]
  left
  unfold Oper.wp
  rw [hrun]
  exact hK
end Go.Proofs.YtbckofjoancdjaaGreatDoor
namespace Go.Proofs.YtbckofjoancdjaaGreatDoor
open Go Go.RowKit Go.Lib
def KeysApart (T : List (Int × Int)) : Prop := ∀ (i j : Nat) (p q : Int × Int), T[i]? = some p → T[j]? = some q → p.1 = q.1 → i = j
theorem look_same {T t : List (Int × Int)} (hT : KeysApart T) (h1 : ∀ p ∈ t, p ∈ T) (h2 : ∀ p ∈ T, p ∈ t) (k : Int) : look t k = look T k := by
  unfold look
  cases ht : t.find? (fun p => k == p.1) with
  | none =>
    cases hT' : T.find? (fun p => k == p.1) with
    | none => rfl
    | some p =>
      have h := List.find?_eq_none.1 ht p (h2 p (List.mem_of_find?_eq_some hT'))
      have h' := List.find?_some hT'
      exact absurd h' h
  | some p =>
    have hp := List.mem_of_find?_eq_some ht
    have hpk := List.find?_some ht
    cases hT' : T.find? (fun p => k == p.1) with
    | none => exact absurd hpk (List.find?_eq_none.1 hT' p (h1 p hp))
    | some q =>
      have hq := List.mem_of_find?_eq_some hT'
      have hqk := List.find?_some hT'
      obtain ⟨i, hi⟩ := List.mem_iff_getElem?.1 (h1 p hp)
      obtain ⟨j, hj⟩ := List.mem_iff_getElem?.1 hq
      have e1 : k = p.1 := by simpa using hpk
      have e2 : k = q.1 := by simpa using hqk
      have hij := hT i j p q hi hj (e1.symm.trans e2)
      subst hij
      rw [hi] at hj
      cases hj
      rfl
theorem getD_set_eq {l : Array Bool} {i : Nat} {d : Bool} (h : i < l.size) : (l.setIfInBounds i true).getD i d = true := by
  rw [Array.getD_eq_getD_getElem?, Array.getElem?_setIfInBounds, if_pos rfl, if_pos h]; rfl
theorem getD_set_ne' {l : Array Bool} {i j : Nat} {d : Bool} (h : i ≠ j) : (l.setIfInBounds i true).getD j d = l.getD j d := by
  rw [Array.getD_eq_getD_getElem?, Array.getD_eq_getD_getElem?, Array.getElem?_setIfInBounds, if_neg h]
structure LitInv (T : List (Int × Int)) (m b : Nat) (w0 : World) (l : Array Bool) (a : Act) (w : World) : Prop where
  hb : b = w0.heap.size
  no : l.getD 0 false = false → w = w0 ∧ ∀ j, j < T.length → l.getD (j + 1) false = false
  yes : l.getD 0 false = true → a.tmps.getD m undef = .map (some b) ∧ Kept Nope w0 w ∧ ∃ t : List (Int × Int), MapAt w b (t.map ip) ∧ (∀ p ∈ t, ∃ j, l.getD (j + 1) false = true ∧ T[j]? = some p) ∧ ∀ (j : Nat) (p : Int × Int), T[j]? = some p → l.getD (j + 1) false = true → p ∈ t
namespace LitInv
variable {T : List (Int × Int)} {m b : Nat} {w0 w : World} {l : Array Bool} {a : Act}
theorem make {a' : Act} (h : LitInv T m b w0 l a w) (h0 : l.getD 0 false = false) (hz : 0 < l.size) (ha : a'.tmps.getD m undef = .map (some w.heap.size)) : LitInv T m b w0 (l.setIfInBounds 0 true) a' (w.alloc (.map #[] 0)) := by
  obtain ⟨rfl, hn⟩ := h.no h0
  refine ⟨h.hb, fun hh => (by rw [getD_set_eq hz] at hh; cases hh), fun _ => ⟨by rw [ha, h.hb], (Kept.refl _ _).alloc _, [], h.hb ▸ MapAt.new _, fun p hp => (by cases hp), fun j p hj hl => ?_⟩⟩
  rw [getD_set_ne' (by omega)] at hl
  rw [hn j (List.getElem?_eq_some_iff.1 hj).1] at hl
  cases hl
theorem ins {j : Nat} {p : Int × Int} (hT : KeysApart T) (h : LitInv T m b w0 l a w) (h0 : l.getD 0 false = true) (hj : T[j]? = some p) (hl : l.getD (j + 1) false = false) (hz : j + 1 < l.size) :
    ∃ w', (Instr.mapUpdate 243 (.map (some b)) (.int .i64 p.1) (.int .i64 p.2)).run Tryz.prog w = .ok () w' ∧ LitInv T m b w0 (l.setIfInBounds (j + 1) true) a w' := by
  obtain ⟨hm, hk, t, ht, h1, h2⟩ := h.yes h0
  have hfresh : ∀ q ∈ t, q.1 ≠ p.1 := fun q hq e => by
    obtain ⟨i, hi, hiT⟩ := h1 q hq
    have := hT i j q p hiT hj e
    subst this
    rw [hl] at hi
    cases hi
  obtain ⟨w', hrun, hm', hk'⟩ := ht.put (val := .int .i64 p.2) Tryz.underlying243 (fun W => check_int false p.1 W) (NoKey.int hfresh)
  refine ⟨w', hrun, h.hb, fun hh => ?_, fun _ => ⟨hm, hk.trans hk' (fun c hc e => by have e' : c = b := e; have := h.hb; omega), t ++ [p], by simpa [ip] using hm', fun q hq => ?_, fun i q hi hl' => ?_⟩⟩
  · rw [getD_set_ne' (by omega), h0] at hh; cases hh
  · rcases List.mem_append.1 hq with hq | hq
    · obtain ⟨i, hi, hiT⟩ := h1 q hq
      by_cases e : j = i
      · subst e; exact ⟨j, getD_set_eq hz, hiT⟩
      · exact ⟨i, by rw [getD_set_ne' (by omega)]; exact hi, hiT⟩
    · rw [List.mem_singleton.1 hq]
      exact ⟨j, getD_set_eq hz, hj⟩
  · by_cases e : j = i
    · subst e
      rw [hj] at hi
      cases hi
      simp
    · rw [getD_set_ne' (by omega)] at hl'
      exact List.mem_append.2 (.inl (h2 i q hi hl'))
theorem other {i : Nat} {a' : Act} (h : LitInv T m b w0 l a w) (hi : T.length < i) (ha : a'.tmps.getD m undef = a.tmps.getD m undef) : LitInv T m b w0 (l.setIfInBounds i true) a' w := by
  refine ⟨h.hb, fun hh => ?_, fun hh => ?_⟩
  · rw [getD_set_ne' (by omega)] at hh
    exact ⟨(h.no hh).1, fun j hj => by rw [getD_set_ne' (by omega)]; exact (h.no hh).2 j hj⟩
  · rw [getD_set_ne' (by omega)] at hh
    obtain ⟨hm, hk, t, ht, h1, h2⟩ := h.yes hh
    refine ⟨ha.trans hm, hk, t, ht, fun p hp => ?_, fun j p hj hl => ?_⟩
    · obtain ⟨j, hj, hjT⟩ := h1 p hp
      exact ⟨j, by rw [getD_set_ne' (by have := (List.getElem?_eq_some_iff.1 hjT).1; omega)]; exact hj, hjT⟩
    · rw [getD_set_ne' (by have := (List.getElem?_eq_some_iff.1 hj).1; omega)] at hl
      exact h2 j p hj hl
theorem full (hT : KeysApart T) (h : LitInv T m b w0 l a w) (h0 : l.getD 0 false = true) (hall : ∀ j, j < T.length → l.getD (j + 1) false = true) (k : Int) : (Instr.lookup 243 (.map (some b)) (.int .i64 k) false).run Tryz.prog w = .ok (.int .i64 (look T k)) w := by
  obtain ⟨hm, hk, t, ht, h1, h2⟩ := h.yes h0
  rw [← look_same hT (fun p hp => by obtain ⟨j, _, hj⟩ := h1 p hp; exact List.mem_of_getElem? hj) (fun p hp => by
    obtain ⟨j, hj⟩ := List.mem_iff_getElem?.1 hp
    exact h2 j p hj (hall j (List.getElem?_eq_some_iff.1 hj).1)) k]
  exact lookup_int ht k
end LitInv
def SlotInv (F : List (Nat × Nat × Value)) (l : Array Bool) (a : Act) : Prop := ∀ f ∈ F, l.getD f.1 false = true → a.tmps.getD f.2.1 undef = f.2.2
theorem SlotInv.step {F : List (Nat × Nat × Value)} {l : Array Bool} {a : Act} {i d : Nat} {v : Value} (h : SlotInv F l a) (hF : ∀ f ∈ F, (f.1 = i → f.2.1 = d ∧ f.2.2 = v) ∧ (f.1 ≠ i → f.2.1 ≠ d)) (hd : d < a.tmps.size) : SlotInv F (l.setIfInBounds i true) (a.put (some d) v) := by
  intro f hf hl
  by_cases e : f.1 = i
  · obtain ⟨h1, h2⟩ := (hF f hf).1 e
    rw [h1, h2]
    simp [Act.put, hd]
  · rw [getD_set_ne' (fun h => e h.symm)] at hl
    have hne := (hF f hf).2 e
    have h3 := h f hf hl
    rw [← h3]
    simp only [Act.put, Array.getD_eq_getD_getElem?]
    rw [Array.getElem?_setIfInBounds, if_neg (fun h => hne h.symm)]
theorem SlotInv.none_ {F : List (Nat × Nat × Value)} {l : Array Bool} {a : Act} {i : Nat} (h : SlotInv F l a) (hF : ∀ f ∈ F, f.1 ≠ i) : SlotInv F (l.setIfInBounds i true) a := by
  intro f hf hl
  rw [getD_set_ne' (fun h => hF f hf h.symm)] at hl
  exact h f hf hl
end Go.Proofs.YtbckofjoancdjaaGreatDoor
namespace Go.Proofs.YtbckofjoancdjaaGreatDoor
open Go Go.RowKit Go.Lib
end Go.Proofs.YtbckofjoancdjaaGreatDoor
namespace Go.Proofs.YtbckofjoancdjaaGreatDoor
open Go Go.RowKit Go.Lib
theorem VSl.sixS {S : Nat → Prop} {w : World} {s : Value} {l : List V} (h : VSl S w s l) {i : Nat} {v : V} (hv : l[i]? = some v) : ∃ b off cap pk ck pd cd, s = .slice (some ⟨b, off, none⟩) l.length cap ∧ VAgg S w (vagg v (.slice pk v.kids.length ck) (.slice pd v.desc.length cd)) v ∧
      w.cell? ⟨b, off + i * 6, none⟩ = some (.int .i64 v.kind) ∧ w.cell? ⟨b, off + i * 6 + 1, none⟩ = some (.int .u64 v.num) ∧
        w.cell? ⟨b, off + i * 6 + 2, none⟩ = some (.string v.text) ∧ w.cell? ⟨b, off + i * 6 + 3, none⟩ = some (.slice pk v.kids.length ck) ∧
        w.cell? ⟨b, off + i * 6 + 4, none⟩ = some (.int .i64 v.of_) ∧ w.cell? ⟨b, off + i * 6 + 5, none⟩ = some (.slice pd v.desc.length cd) := by
  obtain ⟨b, off, cap, ks, ds, e, _, h1, h2, h3, c0, c1, c2, c3, c4, c5, k0, k1⟩ := h.at_ hv
  obtain ⟨pk, ck, rfl, _⟩ := k0.form
  obtain ⟨pd, cd, rfl, _⟩ := k1.form
  exact ⟨b, off, cap, pk, ck, pd, cd, e, ⟨_, _, rfl, h3, k0, k1⟩, c0, c1, c2, c3, c4, c5⟩
theorem VAgg.alloc {S : Nat → Prop} {w : World} {x : Value} {v : V} (h : VAgg S w x v) (o : Obj) : VAgg S (w.alloc o) x v := h.keep ((Kept.refl Nope w).alloc o) fun _ _ _ h => h
theorem text_nil {t : ByteArray} (h : ¬ t = ⟨#[]⟩) : ¬ t.toList = [] := by
  intro e
  rw [ByteArray.toList_eq] at e
  obtain ⟨a⟩ := t
  exact h (congrArg ByteArray.mk (Array.toList_inj.1 (show a.toList = #[].toList from e)))
def AskAny (w : World) : Ending → World → Prop := fun e w' => ∃ b, e = .returned (.bool b) ∧ Kept Nope w w'
end Go.Proofs.YtbckofjoancdjaaGreatDoor
