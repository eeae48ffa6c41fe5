/- Maps that are known by their entries: new entries, look-ups; maps of whole numbers. WORDS FOR MEMORY: values of type any that stand for a value of MessagePack. -/
import Derived.Maps.RangeRun
import Derived.ChangeKeysEq
import Derived.OrdersHeld
import Derived.Carry
import Derived.Test.YtapfahngeaojkaaGreatDoorK6
import Derived.Test.YtapfahngeaojkaaGreatDoorK5
namespace Go.Proofs.YtapfahngeaojkaaGreatDoor
open Go Go.RowKit Go.Lib
open Go.ChangeMaps (setBlock)
def MapAt (w : World) (b : Nat) (es : List (Value × Value)) : Prop :=
  ∃ arr clock, w.heap[b]? = some (.map arr clock) ∧ arr.toList.map (fun e => (e.key, e.val)) = es ∧ (∀ x ∈ arr.toList, x.born < clock) ∧ (arr.toList.map (·.born)).Nodup
namespace MapAt
variable {M : Nat → Prop} {w w' : World} {b : Nat} {es : List (Value × Value)}
theorem lt (h : MapAt w b es) : b < w.heap.size := by obtain ⟨_, _, h, _⟩ := h; exact block_lt h
theorem keep (h : MapAt w b es) (hk : Kept M w w') (hb : ¬ M b) : MapAt w' b es := by
  obtain ⟨arr, clock, h, h2⟩ := h
  exact ⟨arr, clock, hk.obj h hb, h2⟩
theorem new (w : World) : MapAt (w.alloc (.map #[] 0)) w.heap.size [] := ⟨#[], 0, heap_alloc_new w _, rfl, by simp, by simp⟩
end MapAt
theorem bytes_ne {a b : ByteArray} (h : a ≠ b) : (a == b) = false := by
  cases hh : (a == b)
  · rfl
  · exact absurd ((MapKept.bytes_beq a b).1 hh) h
def NoKey (kt : TypeId) (key : Value) (es : List (Value × Value)) : Prop :=
  ∀ arr : List MapEntry, arr.map (fun e => (e.key, e.val)) = es → ∀ W, (Instr.findKey kt key arr).run Tryz.prog W = .ok none W
theorem findNow_string (key : ByteArray) : ∀ (arr : List MapEntry) (i : Nat), (∀ e ∈ arr, ∃ t, e.key = .string t ∧ t ≠ key) → Instr.findNow .string (.string key) arr i = some none
  | [], i, _ => rfl
  | e :: arr, i, h => by
    obtain ⟨t, ht, hne⟩ := h e (by simp)
    have ih := findNow_string key arr (i + 1) (fun x hx => h x (by simp [hx]))
    simp only [Instr.findNow, ht, Instr.sameNow, bytes_ne (Ne.symm hne)]
    exact ih
theorem NoKey.text {kt : TypeId} (hu : Tryz.prog.underlying kt = some .string) {key : ByteArray} {es : List (Value × Value)} (h : ∀ e ∈ es, ∃ t, e.1 = .string t ∧ t ≠ key) : NoKey kt (.string key) es := by
  intro arr ha W
  subst ha
  have hfn := findNow_string key arr 0 (fun e he => h (e.key, e.val) (List.mem_map.2 ⟨e, he, rfl⟩))
  unfold Instr.findKey
  simp only [Sem.run_bind, run_underlying hu, Result.andThen_ok, hfn, Sem.run_pure]
theorem MapAt.put {w : World} {b : Nat} {es : List (Value × Value)} {t kt et : TypeId} {key val : Value} (h : MapAt w b es) (ht : Tryz.prog.underlying t = some (.map kt et)) (hc : ∀ W, (Instr.checkKey false 10000 kt key).run Tryz.prog W = .ok () W) (hn : NoKey kt key es) :
    ∃ w', (Instr.mapUpdate t (.map (some b)) key val).run Tryz.prog w = .ok () w' ∧ MapAt w' b (es ++ [(key, val)]) ∧ Kept (Only b) w w' := by
  obtain ⟨arr, clock, hb, he, hlt, hnd⟩ := h
  have hf := hn arr.toList he w
  refine ⟨setBlock w b (.map (arr.push { key, val, born := clock }) (clock + 1)), ?_, ⟨arr.push { key, val, born := clock }, clock + 1, ChangeMaps.heap_setBlock_same hb _, by simp [he], ?_, ?_⟩, ?_⟩
  · have hset : ∀ o : Obj, (setObj b o).run Tryz.prog w = .ok () (setBlock w b o) := fun o => by simp [setObj, Sem.run, hb, setBlock]
    simp only [Instr.mapUpdate, Sem.run_bind, run_underlying ht, MapKept.run_getObj_map hb, hc, hf, hset, Result.andThen_ok]
  · intro x hx
    have hx' : x ∈ arr ∨ x = { key, val, born := clock } := by simpa using hx
    rcases hx' with hx | hx
    · have := hlt x (by simpa using hx); omega
    · subst hx; exact Nat.lt_succ_self _
  · simp only [Array.toList_push, List.map_append, List.map_cons, List.map_nil]
    rw [List.nodup_append]
    refine ⟨hnd, by simp, fun a ha c hc => ?_⟩
    obtain ⟨x, hx, rfl⟩ := List.mem_map.1 ha
    simp at hc
    subst hc
    have := hlt x hx
    omega
  · exact ⟨rfl, rfl, rfl, by simp [setBlock], fun k hk hne => ChangeMaps.heap_setBlock_other hb _ (fun e => hne e)⟩
theorem wpList_mapUpdate_new {ops : Array Oper} {rest : List Oper} {o : Oper} {a : Act} {Q : Exit → Act → World → Prop} {w : World} (hg : o.guard = none) (m x v : Operand) (t : TypeId) (hop : o.op = Op.mapUpdate t m x v)
    {b : Nat} {es : List (Value × Value)} {kt et : TypeId} {key val : Value} (hm : a.eval m = .map (some b)) (hx : a.eval x = key) (hv : a.eval v = val) (h : MapAt w b es) (ht : Tryz.prog.underlying t = some (.map kt et))
    (hc : ∀ W, (Instr.checkKey false 10000 kt key).run Tryz.prog W = .ok () W) (hn : NoKey kt key es)
    (hK : ∀ w', MapAt w' b (es ++ [(key, val)]) → Kept (Only b) w w' → wpList Tryz.prog ops Q rest (a.put o.dst undef) w') : wpList Tryz.prog ops Q (o :: rest) a w := by
  refine wpList_plain hg fun K hK' => ?_
  obtain ⟨w', hrun, h1, h2⟩ := h.put (val := val) ht hc hn
  unfold Oper.wp
  simp [execOp, hop, hm, hx, hv, hrun, Result.andThen]
  exact hK' _ _ (hK w' h1 h2)
def ip (p : Int × Int) : Value × Value := (.int .i64 p.1, .int .i64 p.2)
def look (t : List (Int × Int)) (k : Int) : Int := ((t.find? fun p => k == p.1).map (·.2)).getD 0
theorem findNow_int (q : IntKind) (k : Int) : ∀ (t : List (Int × Int)) (arr : List MapEntry) (i : Nat), arr.map (fun e => (e.key, e.val)) = t.map ip →
    ∃ r, Instr.findNow (.int q) (.int .i64 k) arr i = some r ∧ ((t.find? fun p => k == p.1) = none → r = none) ∧ (∀ p, (t.find? fun p => k == p.1) = some p → ∃ j, r = some (j, .int .i64 p.2))
  | [], arr, i, h => by
    have : arr = [] := by simpa using h
    subst this
    exact ⟨none, rfl, fun _ => rfl, fun p hp => by simp at hp⟩
  | p :: t, arr, i, h => by
    cases arr with
    | nil => simp at h
    | cons e arr =>
      simp only [List.map_cons, List.cons.injEq, Prod.mk.injEq, ip] at h
      obtain ⟨⟨h1, h2⟩, h3⟩ := h
      obtain ⟨r, hr, g1, g2⟩ := findNow_int q k t arr (i + 1) h3
      by_cases hk : k = p.1
      · refine ⟨some (i, e.val), ?_, fun hn => ?_, fun p' hp => ?_⟩
        · simp [Instr.findNow, h1, Instr.sameNow, hk]
        · simp [hk] at hn
        · have : p = p' := by simpa [List.find?_cons, hk] using hp
          subst this
          exact ⟨i, by rw [h2]⟩
      · refine ⟨r, ?_, fun hn => g1 (by simpa [List.find?_cons, hk] using hn), fun p' hp => g2 p' (by simpa [List.find?_cons, hk] using hp)⟩
        have hb : (k == p.1) = false := by simpa using hk
        simp only [Instr.findNow, h1, Instr.sameNow, if_true, hb]
        exact hr
theorem NoKey.int {k : Int} {t : List (Int × Int)} (h : ∀ p ∈ t, p.1 ≠ k) : NoKey 3 (.int .i64 k) (t.map ip) := by
  intro arr ha W
  have hn : (t.find? fun p => k == p.1) = none := List.find?_eq_none.2 fun p hp => by simpa using fun e => h p hp (Eq.symm e)
  obtain ⟨r, hr, g1, _⟩ := findNow_int .i64 k t arr 0 ha
  rw [g1 hn] at hr
  unfold Instr.findKey
  simp only [Sem.run_bind, run_underlying Tryz.underlying3, Result.andThen_ok, hr, Sem.run_pure]
theorem check_int (b : Bool) (k : Int) (W : World) : (Instr.checkKey b 10000 3 (.int .i64 k)).run Tryz.prog W = .ok () W := by cases b <;> kernel_rfl
theorem zero_int (W : World) : (zeroValue 3).run Tryz.prog W = .ok (.int .i64 0) W := by kernel_rfl
theorem lookup_int {w : World} {b : Nat} {t : List (Int × Int)} (h : MapAt w b (t.map ip)) (k : Int) : (Instr.lookup 97 (.map (some b)) (.int .i64 k) false).run Tryz.prog w = .ok (.int .i64 (look t k)) w := by
  obtain ⟨arr, clock, hb, he, _⟩ := h
  obtain ⟨r, hr, g1, g2⟩ := findNow_int .i64 k t arr.toList 0 he
  have hfk : (Instr.findKey 3 (.int .i64 k) arr.toList).run Tryz.prog w = .ok r w := by
    unfold Instr.findKey
    simp only [Sem.run_bind, run_underlying Tryz.underlying3, Result.andThen_ok, hr, Sem.run_pure]
  unfold Instr.lookup
  simp only [Sem.run_bind, run_underlying Tryz.underlying97, Result.andThen_ok, MapKept.run_getObj_map hb, Sem.run_pure, check_int, hfk]
  cases hf : (t.find? fun p => k == p.1) with
  | none =>
    rw [g1 hf]
    simp [look, hf]
  | some p =>
    obtain ⟨j, hj⟩ := g2 p hf
    rw [hj]
    simp [look, hf]
theorem wpList_insert_int {ops : Array Oper} {rest : List Oper} {o : Oper} {a : Act} {Q : Exit → Act → World → Prop} {w : World} (hg : o.guard = none) (m x v : Operand) (hop : o.op = Op.insert 97 m x v)
    {b : Nat} {t : List (Int × Int)} {k n : Int} (hm : a.eval m = .map (some b)) (hx : a.eval x = .int .i64 k) (hv : a.eval v = .int .i64 n) (h : MapAt w b (t.map ip)) (hn : t.all (fun p => decide (p.1 ≠ k)) = true)
    (hK : ∀ w', MapAt w' b ((t ++ [(k, n)]).map ip) → Kept (Only b) w w' → wpList Tryz.prog ops Q rest (a.put o.dst undef) w') : wpList Tryz.prog ops Q (o :: rest) a w := by
  refine wpList_plain hg fun K hK' => ?_
  obtain ⟨w', hrun, h1, h2⟩ := h.put (key := .int .i64 k) (val := .int .i64 n) Tryz.underlying97 (fun W => check_int false k W) (NoKey.int fun p hp => by have := List.all_eq_true.1 hn p hp; simpa using this)
  unfold Oper.wp
  simp [execOp, hop, hm, hx, hv, hrun, Result.andThen]
  exact hK' _ _ (hK w' (by simpa [ip] using h1) h2)
theorem wpList_lookup_int {ops : Array Oper} {rest : List Oper} {o : Oper} {a : Act} {Q : Exit → Act → World → Prop} {w : World} (hg : o.guard = none) (m x : Operand) (hop : o.op = Op.lookup 97 m x false)
    {b : Nat} {t : List (Int × Int)} {k : Int} (hm : a.eval m = .map (some b)) (hx : a.eval x = .int .i64 k) (h : MapAt w b (t.map ip))
    (hK : wpList Tryz.prog ops Q rest (a.put o.dst (.int .i64 (look t k))) w) : wpList Tryz.prog ops Q (o :: rest) a w := by
  refine wpList_plain hg fun K hK' => ?_
  have hrun := lookup_int h k
  unfold Oper.wp
  simp [execOp, hop, hm, hx, hrun, Result.andThen]
  exact hK' _ _ hK
end Go.Proofs.YtapfahngeaojkaaGreatDoor
namespace Go.Proofs.YtapfahngeaojkaaGreatDoor
open Go Go.RowKit Go.Lib
inductive UAny (S : Nat → Prop) (w : World) : Value → V → Prop
  | nil {v : V} : v.kind = 0 → UAny S w .nilIface v
  | bool {v : V} : v.kind = 1 → UAny S w (.iface 4 (.bool (v.num != 0))) v
  | int {v : V} : v.kind = 2 → UAny S w (.iface 2 (.int .i64 (IntKind.i64.wrap v.num))) v
  | uint {v : V} : v.kind = 3 → UAny S w (.iface 23 (.int .u64 v.num)) v
  | f32 {v : V} : v.kind = 4 → UAny S w (.iface 50 (.float .f32 v.num.toNat)) v
  | f64 {v : V} : v.kind = 5 → UAny S w (.iface 53 (.float .f64 v.num.toNat)) v
  | text {v : V} : v.kind = 6 → UAny S w (.iface 9 (.string v.text)) v
  | bin {v : V} {s : Value} : v.kind = 7 → BSl S w s (bytesOf v.text) → UAny S w (.iface 22 s) v
  | arr {v : V} {s : Value} {xs : List Value} : v.kind = 8 → CSl S w 1 s v.kids.length xs → (∀ (i : Nat) (x : Value) (k : V), xs[i]? = some x → v.kids[i]? = some k → UAny S w x k) → UAny S w (.iface 55 s) v
  | map {v : V} {b : Nat} {es : List (Value × Value)} : v.kind = 9 → S b → MapAt w b es → es.length = (pairs v.kids).length → (∀ (i : Nat) (e : Value × Value) (p : V × V), es[i]? = some e → (pairs v.kids)[i]? = some p → p.1.kind = 6 ∧ e.1 = .string p.1.text) →
      (∀ (i : Nat) (e : Value × Value) (p : V × V), es[i]? = some e → (pairs v.kids)[i]? = some p → UAny S w e.2 p.2) → UAny S w (.iface 56 (.map (some b))) v
theorem CSl.keep {S M : Nat → Prop} {w w' : World} {size n : Nat} {s : Value} {xs : List Value} (h : CSl S w size s n xs) (hk : Kept M w w') (hS : ∀ b, b < w.heap.size → S b → ¬ M b) : CSl S w' size s n xs := by
  obtain ⟨hl, a, cap, rfl, hc, hm, h⟩ := h
  refine ⟨hl, a, cap, rfl, hc, hm, ?_⟩
  rcases h with rfl | ⟨b, off, rfl, hb, h⟩
  · exact .inl rfl
  · exact .inr ⟨b, off, rfl, hb, fun j x hx => hk.cell (h j x hx) (hS b (World.block_lt_of_cell? w _ (h j x hx)) hb)⟩
theorem CSl.mono0 {S S' : Nat → Prop} {w : World} {size n : Nat} {s : Value} {xs : List Value} (h : CSl S w size s n xs) (hS : ∀ b, b < w.heap.size → S b → S' b) (hsz : 0 < size) : CSl S' w size s n xs := by
  obtain ⟨hl, a, cap, rfl, hc, hm, h⟩ := h
  refine ⟨hl, a, cap, rfl, hc, hm, ?_⟩
  rcases h with rfl | ⟨b, off, rfl, hb, h⟩
  · exact .inl rfl
  · rcases xs with _ | ⟨x, xs⟩
    · left
      rcases Nat.eq_zero_or_pos n with h0 | h0
      · exact h0
      · have := Nat.mul_pos h0 hsz
        simp at hl
        omega
    · exact .inr ⟨b, off, rfl, hS b (World.block_lt_of_cell? w _ (h 0 x rfl)) hb, h⟩
namespace UAny
variable {S S' M : Nat → Prop} {w w' : World} {x : Value} {v : V}
theorem keep (h : UAny S w x v) (hk : Kept M w w') (hS : ∀ b, b < w.heap.size → S b → ¬ M b) : UAny S w' x v := by
  induction h with
  | nil h => exact .nil h
  | bool h => exact .bool h
  | int h => exact .int h
  | uint h => exact .uint h
  | f32 h => exact .f32 h
  | f64 h => exact .f64 h
  | text h => exact .text h
  | bin h hb => exact .bin h (hb.keep hk hS)
  | arr h hs _ ih => exact .arr h (hs.keep hk hS) ih
  | map h hb hm h1 h2 _ ih => exact .map h hb (hm.keep hk (hS _ hm.lt hb)) h1 h2 ih
theorem mono (h : UAny S w x v) (hS : ∀ b, b < w.heap.size → S b → S' b) : UAny S' w x v := by
  induction h with
  | nil h => exact .nil h
  | bool h => exact .bool h
  | int h => exact .int h
  | uint h => exact .uint h
  | f32 h => exact .f32 h
  | f64 h => exact .f64 h
  | text h => exact .text h
  | bin h hb => exact .bin h (hb.mono hS)
  | arr h hs _ ih => exact .arr h (hs.mono0 hS (by omega)) ih
  | map h hb hm h1 h2 _ ih => exact .map h (hS _ hm.lt hb) hm h1 h2 ih
theorem nope (h : UAny S w x v) (hk : Kept Nope w w') : UAny S w' x v := h.keep hk fun _ _ _ h => h
end UAny
end Go.Proofs.YtapfahngeaojkaaGreatDoor
