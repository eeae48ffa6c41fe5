/- DERIVED: THE SHELF's CONTRACTS AT THIS DUMP, IN PLAIN WORDS (tools/lay-plain.mjs out of 'TryzSortT.lean', which tools/lay-shelf.mjs wrote): THE SAME DECLARATIONS UNDER THE SAME NAMES: 'import', 'namespace', 'open', 'def', 'theorem' AND NOTHING ELSE: no command of the shelf's: FOR A HAND-IN. Each laying: the table of numbers ('.._ren') and one theorem, a field a fact of the dump's own or the kernel's comparison; each contract: ONE APPLICATION. A range over a map that is known by its entries: which have come ('RangeAt'). Package msgp: keysOf: the keys of a map, sorted. -/
import Derived.Ground.NamesProg
import Derived.Shelf.Sort.Plain
import Derived.Shelf.Slices.In.SortNone2
import Derived.Test.YtapfahngeaojkaaGreatDoorProg
import Derived.Test.YtapfahngeaojkaaGreatDoorK14
import Derived.Maps.RangeWalk
import Derived.Test.YtapfahngeaojkaaGreatDoorK9
namespace Go.Proofs
open Go.Shelf
def Tryz.laysStrings_ren : Go.Shelf.Ren := ⟨fun | 192 => 82 | 190 => 85 | 125 => 90 | 258 => 89 | 128 => 106 | 129 => 107 | 302 => 97 | 303 => 98 | 304 => 99 | 305 => 100 | 306 => 101 | 307 => 102 | 308 => 103 | 309 => 104 | 310 => 105 | 333 => 114 | 329 => 115 | 330 => 116 | 334 => 117 | 335 => 118 | 336 => 119 | 344 => 134 | n => n, fun | 31 => 130 | 0 => 0 | 9 => 9 | 3 => 3 | 46 => 81 | 51 => 52 | 53 => 23 | 4 => 4 | 183 => 153 | 182 => 152 | 131 => 158 | 5 => 5 | 218 => 170 | 222 => 45 | 228 => 198 | 229 => 199 | n => n, fun | n => n⟩
theorem Tryz.laysStrings : Go.Proofs.Lays.n192 Tryz.prog Tryz.laysStrings_ren := {
  mixed := by kernel_rfl
  f125 := Tryz.func90.trans (congrArg some (by kernel_rfl))
  f128 := Tryz.func106.trans (congrArg some (by kernel_rfl))
  f129 := Tryz.func107.trans (congrArg some (by kernel_rfl))
  f190 := Tryz.func85.trans (congrArg some (by kernel_rfl))
  f192 := Tryz.func82.trans (congrArg some (by kernel_rfl))
  f258 := Tryz.func89.trans (congrArg some (by kernel_rfl))
  f302 := Tryz.func97.trans (congrArg some (by kernel_rfl))
  f303 := Tryz.func98.trans (congrArg some (by kernel_rfl))
  f304 := Tryz.func99.trans (congrArg some (by kernel_rfl))
  f305 := Tryz.func100.trans (congrArg some (by kernel_rfl))
  f306 := Tryz.func101.trans (congrArg some (by kernel_rfl))
  f307 := Tryz.func102.trans (congrArg some (by kernel_rfl))
  f308 := Tryz.func103.trans (congrArg some (by kernel_rfl))
  f309 := Tryz.func104.trans (congrArg some (by kernel_rfl))
  f310 := Tryz.func105.trans (congrArg some (by kernel_rfl))
  f329 := Tryz.func115.trans (congrArg some (by kernel_rfl))
  f330 := Tryz.func116.trans (congrArg some (by kernel_rfl))
  f333 := Tryz.func114.trans (congrArg some (by kernel_rfl))
  f334 := Tryz.func117.trans (congrArg some (by kernel_rfl))
  f335 := Tryz.func118.trans (congrArg some (by kernel_rfl))
  f336 := Tryz.func119.trans (congrArg some (by kernel_rfl))
  f344 := Tryz.func134.trans (congrArg some (by kernel_rfl))
  t0 := Tryz.underlying0
  a0 := Tryz.isAgg0
  z0 := Tryz.sizeOf0
  v0 := Tryz.zeroValue0
  t3 := Tryz.underlying3
  a3 := Tryz.isAgg3
  z3 := Tryz.sizeOf3
  v3 := Tryz.zeroValue3
  t4 := Tryz.underlying4
  a4 := Tryz.isAgg4
  z4 := Tryz.sizeOf4
  v4 := Tryz.zeroValue4
  t5 := Tryz.underlying5
  a5 := Tryz.isAgg5
  z5 := Tryz.sizeOf5
  v5 := Tryz.zeroValue5
  t9 := Tryz.underlying9
  a9 := Tryz.isAgg9
  z9 := Tryz.sizeOf9
  v9 := Tryz.zeroValue9
  t31 := Tryz.underlying130
  a31 := Tryz.isAgg130
  z31 := Tryz.sizeOf130
  v31 := Tryz.zeroValue130
  t46 := Tryz.underlying81
  a46 := Tryz.isAgg81
  z46 := Tryz.sizeOf81
  v46 := Tryz.zeroValue81
  t51 := Tryz.underlying52
  a51 := Tryz.isAgg52
  z51 := Tryz.sizeOf52
  v51 := Tryz.zeroValue52
  t53 := Tryz.underlying23
  a53 := Tryz.isAgg23
  z53 := Tryz.sizeOf23
  v53 := Tryz.zeroValue23
  t131 := Tryz.underlying158
  a131 := Tryz.isAgg158
  z131 := Tryz.sizeOf158
  v131 := Tryz.zeroValue158
  t182 := Tryz.underlying152
  a182 := Tryz.isAgg152
  z182 := Tryz.sizeOf152
  v182 := Tryz.zeroValue152
  t183 := Tryz.underlying153
  a183 := Tryz.isAgg153
  z183 := Tryz.sizeOf153
  v183 := Tryz.zeroValue153
  t218 := Tryz.underlying170
  a218 := Tryz.isAgg170
  z218 := Tryz.sizeOf170
  v218 := Tryz.zeroValue170
  t222 := Tryz.underlying45
  a222 := Tryz.isAgg45
  z222 := Tryz.sizeOf45
  v222 := Tryz.zeroValue45
  t228 := Tryz.underlying198
  a228 := Tryz.isAgg198
  z228 := Tryz.sizeOf198
  v228 := Tryz.zeroValue198
  t229 := Tryz.underlying199
  a229 := Tryz.isAgg199
  z229 := Tryz.sizeOf199
  v229 := Tryz.zeroValue199 }
end Go.Proofs
namespace Go.Proofs.YtapfahngeaojkaaGreatDoor
open Go Go.RowKit Go.Lib
open Go.ChangeMaps (setBlock)
def RangeAt (w : World) (r b : Nat) (es : List (Value × Value)) (vis : List Nat) : Prop :=
  ∃ arr clock seen, w.heap[b]? = some (.map arr clock) ∧ arr.toList.map (fun e => (e.key, e.val)) = es ∧ (∀ x ∈ arr.toList, x.born < clock) ∧ (arr.toList.map (·.born)).Nodup ∧
    w.heap[r]? = some (.mapIter (some b) clock seen clock) ∧ (∀ i x, arr[i]? = some x → (seen.contains x.born = true ↔ i ∈ vis)) ∧ vis.Nodup ∧ (∀ i ∈ vis, i < es.length) ∧ (∀ i x, vis.getLast? = some i → arr[i]? = some x → ∃ s' : Array Nat, seen = s'.push x.born) ∧ seen.size = vis.length
def seenSize (w : World) (r : Nat) : Nat := match w.heap[r]? with | some (.mapIter _ _ seen _) => seen.size | _ => 0
namespace RangeAt
variable {w w' : World} {r b : Nat} {es : List (Value × Value)} {vis : List Nat} {M : Nat → Prop}
theorem map_ (h : RangeAt w r b es vis) : MapAt w b es := by
  obtain ⟨arr, clock, seen, h1, h2, h3, h4, _⟩ := h
  exact ⟨arr, clock, h1, h2, h3, h4⟩
theorem lt (h : RangeAt w r b es vis) : r < w.heap.size := by obtain ⟨_, _, _, _, _, _, _, h, _⟩ := h; exact block_lt h
theorem keep (h : RangeAt w r b es vis) (hk : Kept M w w') (hb : ¬ M b) (hr : ¬ M r) : RangeAt w' r b es vis := by
  obtain ⟨arr, clock, seen, h1, h2, h3, h4, h5, h6⟩ := h
  exact ⟨arr, clock, seen, hk.obj h1 hb, h2, h3, h4, hk.obj h5 hr, h6⟩
theorem start (w : World) (h : MapAt w b es) : ∃ clock, RangeAt (w.alloc (.mapIter (some b) clock #[] clock)) w.heap.size b es [] ∧ ∀ t kt et, Tryz.prog.underlying t = some (.map kt et) →
    (Instr.range t (.map (some b))).run Tryz.prog w = .ok (.pointer (some ⟨w.heap.size, 0, none⟩)) (w.alloc (.mapIter (some b) clock #[] clock)) := by
  obtain ⟨arr, clock, h1, h2, h3, h4⟩ := h
  refine ⟨clock, ⟨arr, clock, #[], (Below.heap_alloc w _ b (block_lt h1)).trans h1, h2, h3, h4, heap_alloc_new w _, by simp, by simp, by simp, by simp, rfl⟩, fun t kt et ht => ?_⟩
  simp only [Instr.range, Sem.run_bind, run_underlying ht, Result.andThen_ok, MapKept.run_getObj_map h1, Sem.run_pure]
  rfl
theorem next_ (h : RangeAt w r b es vis) (ty : TypeId) :
    ((∀ i, i < es.length → i ∈ vis) ∧ (Instr.next (.pointer (some ⟨r, 0, none⟩)) false ty).run Tryz.prog w = .ok (.tuple #[.bool false]) w) ∨
    ∃ i e w', i ∉ vis ∧ es[i]? = some e ∧ (Instr.next (.pointer (some ⟨r, 0, none⟩)) false ty).run Tryz.prog w = .ok (.tuple #[.bool true, e.1, e.2]) w' ∧ RangeAt w' r b es (vis ++ [i]) ∧ Kept (Only r) w w' := by
  obtain ⟨arr, clock, seen, h1, h2, h3, h4, h5, h6, h7, h8, h9, h10⟩ := h
  have hrb : r ≠ b := fun e => by rw [e] at h5; rw [h1] at h5; cases h5
  have hlen : es.length = arr.size := by rw [← h2]; simp
  have hat : ∀ i : Nat, es[i]? = (arr[i]?).map fun e => (e.key, e.val) := fun i => by rw [← h2]; simp
  rcases run_next_at (P := Tryz.prog) w ty r b clock clock seen arr clock h5 h1 h3 (Nat.le_refl _) with ⟨h0, hrun⟩ | ⟨e, he, w1, hw1, hrun⟩
  · left
    refine ⟨fun i hi => ?_, hrun⟩
    have hx : arr[i]? = some arr[i] := Array.getElem?_eq_getElem (by omega)
    refine (h6 i _ hx).1 ?_
    cases hc : seen.contains arr[i].born
    · exfalso
      have hm : arr[i] ∈ leftOf arr seen := by
        unfold leftOf
        rw [Array.mem_filter]
        exact ⟨Array.getElem_mem _, by rw [hc]; rfl⟩
      have := Array.size_pos_of_mem hm
      omega
    · rfl
  · right
    have hm : e ∈ arr ∧ (!seen.contains e.born) = true := by
      have : e ∈ leftOf arr seen := by simpa using he
      unfold leftOf at this
      rwa [Array.mem_filter] at this
    obtain ⟨i, hi⟩ := Array.mem_iff_getElem?.1 hm.1
    have hns : i ∉ vis := fun hv => by
      have := (h6 i e hi).2 hv
      rw [this] at hm
      simp at hm
    have hil : i < arr.size := (Array.getElem?_eq_some_iff.1 hi).1
    have hk1 : Kept (Only r) w w1 := by
      rcases hw1 with rfl | rfl
      · exact Kept.refl _ _
      · exact (Kept.refl _ _).drew
    have h5' : w1.heap[r]? = some (.mapIter (some b) clock seen clock) := by rcases hw1 with rfl | rfl <;> exact h5
    have hsb : ∀ o : Obj, (setBlock w1 r o).heap[r]? = some o := fun o => by
      have hlt : r < w1.heap.size := block_lt h5'
      simp [setBlock, hlt]
    have hso : ∀ (o : Obj) (k : Nat), k ≠ r → (setBlock w1 r o).heap[k]? = w1.heap[k]? := fun o k hk => by
      simp only [setBlock]
      rw [Array.getElem?_setIfInBounds, if_neg (by omega)]
    have hks : ∀ o : Obj, Kept (Only r) w1 (setBlock w1 r o) := fun o => ⟨rfl, rfl, rfl, by simp [setBlock], fun k _ hk => hso o k hk⟩
    refine ⟨i, (e.key, e.val), _, hns, by rw [hat, hi]; rfl, hrun, ⟨arr, clock, seen.push e.born, ?_, h2, h3, h4, hsb _, ?_, ?_, ?_, ?_, by simp [h10]⟩, hk1.trans' (hks _)⟩
    · rw [hso _ _ hrb.symm]; exact hk1.obj h1 (fun e => hrb e.symm)
    · intro j x hx
      rw [Array.contains_push]
      constructor
      · intro hc
        rcases Bool.or_eq_true_iff.1 hc with hc | hc
        · exact List.mem_append.2 (.inl ((h6 j x hx).1 hc))
        · have hb : x.born = e.born := by simpa using hc
          have hij : j = i := by
            have hj : (arr.toList.map (·.born))[j]? = some x.born := by simp [hx]
            have hi' : (arr.toList.map (·.born))[i]? = some e.born := by simp [hi]
            rw [hb] at hj
            have hjl : j < (arr.toList.map (·.born)).length := (List.getElem?_eq_some_iff.1 hj).1
            exact (List.getElem?_inj hjl h4).1 (hj.trans hi'.symm)
          simp [hij]
      · intro hv
        rcases List.mem_append.1 hv with hv | hv
        · rw [(h6 j x hx).2 hv]; rfl
        · have hji : j = i := by simpa using hv
          subst hji
          rw [hi] at hx
          cases hx
          simp
    · rw [List.nodup_append]
      exact ⟨h7, by simp, fun a ha c hc => by simp at hc; subst hc; exact fun e => hns (e ▸ ha)⟩
    · intro j hj
      rcases List.mem_append.1 hj with hj | hj
      · exact h8 j hj
      · have : j = i := by simpa using hj
        omega
    · intro j x hj hx
      have : j = i := by simpa using hj.symm
      subst this
      rw [hi] at hx
      cases hx
      exact ⟨seen, rfl⟩
theorem entry_ {i : Nat} {e : Value × Value} (h : RangeAt w r b es (vis ++ [i])) (he : es[i]? = some e) : (Instr.entry (.pointer (some ⟨r, 0, none⟩))).run Tryz.prog w = .ok (.tuple #[e.1, e.2]) w := by
  obtain ⟨arr, clock, seen, h1, h2, h3, h4, h5, h6, h7, h8, h9, h10⟩ := h
  have hat : es[i]? = (arr[i]?).map fun e => (e.key, e.val) := by rw [← h2]; simp
  rw [hat] at he
  obtain ⟨x, hx, rfl⟩ := Option.map_eq_some_iff.1 he
  obtain ⟨seen', rfl⟩ := h9 i x (by simp) hx
  exact run_entry_at (P := Tryz.prog) w r b clock seen' arr clock x h5 h1 (by have := Array.mem_of_getElem? hx; simpa using this) h4
theorem size_ (h : RangeAt w r b es vis) : seenSize w r = vis.length := by
  obtain ⟨arr, clock, seen, h1, h2, h3, h4, h5, h6, h7, h8, h9, h10⟩ := h
  unfold seenSize
  rw [h5]
  exact h10
theorem nodup (h : RangeAt w r b es vis) : vis.Nodup := by obtain ⟨arr, clock, seen, h1, h2, h3, h4, h5, h6, h7, h8, h9, h10⟩ := h; exact h7
theorem below (h : RangeAt w r b es vis) : ∀ i ∈ vis, i < es.length := by obtain ⟨arr, clock, seen, h1, h2, h3, h4, h5, h6, h7, h8, h9, h10⟩ := h; exact h8
theorem few (h : RangeAt w r b es vis) : vis.length ≤ es.length := by
  have := List.Nodup.length_le_of_subset h.nodup (l₂ := List.range es.length) (fun i hi => by simpa using h.below i hi)
  simpa using this
end RangeAt
theorem wpList_range_new {ops : Array Oper} {rest : List Oper} {o : Oper} {a : Act} {Q : Exit → Act → World → Prop} {w : World} (hg : o.guard = none) (m : Operand) (t : TypeId) (hop : o.op = Op.range t m)
    {b : Nat} {es : List (Value × Value)} {kt et : TypeId} (hm : a.eval m = .map (some b)) (h : MapAt w b es) (ht : Tryz.prog.underlying t = some (.map kt et))
    (hK : ∀ w', RangeAt w' w.heap.size b es [] → Kept Nope w w' → wpList Tryz.prog ops Q rest (a.put o.dst (.pointer (some ⟨w.heap.size, 0, none⟩))) w') : wpList Tryz.prog ops Q (o :: rest) a w := by
  refine wpList_plain hg fun K hK' => ?_
  obtain ⟨clock, h1, hrun⟩ := RangeAt.start w h
  have hr := hrun t kt et ht
  unfold Oper.wp
  simp [execOp, hop, hm, hr, Result.andThen]
  exact hK' _ _ (hK _ h1 ((Kept.refl _ _).alloc _))
theorem wpList_next_new {ops : Array Oper} {rest : List Oper} {o : Oper} {a : Act} {Q : Exit → Act → World → Prop} {w : World} (hg : o.guard = none) (it : Operand) (hop : o.op = Op.next it false)
    {r b : Nat} {es : List (Value × Value)} {vis : List Nat} (hit : a.eval it = .pointer (some ⟨r, 0, none⟩)) (h : RangeAt w r b es vis)
    (hend : (∀ i, i < es.length → i ∈ vis) → wpList Tryz.prog ops Q rest (a.put o.dst (.tuple #[.bool false])) w)
    (hK : ∀ i e w', i ∉ vis → es[i]? = some e → RangeAt w' r b es (vis ++ [i]) → Kept (Only r) w w' → wpList Tryz.prog ops Q rest (a.put o.dst (.tuple #[.bool true, e.1, e.2])) w') : wpList Tryz.prog ops Q (o :: rest) a w := by
  refine wpList_plain hg fun K hK' => ?_
  rcases h.next_ o.type with ⟨h1, hrun⟩ | ⟨i, e, w', h1, h2, hrun, h3, h4⟩
  · unfold Oper.wp
    simp [execOp, hop, hit, hrun, Result.andThen]
    exact hK' _ _ (hend h1)
  · unfold Oper.wp
    simp [execOp, hop, hit, hrun, Result.andThen]
    exact hK' _ _ (hK i e w' h1 h2 h3 h4)
theorem MapAt.len {w : World} {b : Nat} {es : List (Value × Value)} {t kt et : TypeId} (h : MapAt w b es) (ht : Tryz.prog.underlying t = some (.map kt et)) (ty : TypeId) : (Builtin.len_ #[t] ty #[.map (some b)]).run Tryz.prog w = .ok (.int .i64 es.length) w := by
  obtain ⟨arr, clock, h1, h2, _⟩ := h
  have hl : es.length = arr.size := by rw [← h2]; simp
  rw [hl]
  simp [Builtin.len_, run_underlying ht, MapKept.run_getObj_map h1, Sem.run_bind, goInt]
theorem wpList_len_new {ops : Array Oper} {rest : List Oper} {o : Oper} {a : Act} {Q : Exit → Act → World → Prop} {w : World} (hg : o.guard = none) (m : Operand) (t : TypeId) (hop : o.op = Op.call { callee := Callee.builtin Builtin.len, args := #[m], argTypes := #[t] })
    {b : Nat} {es : List (Value × Value)} {kt et : TypeId} (hm : a.eval m = .map (some b)) (h : MapAt w b es) (ht : Tryz.prog.underlying t = some (.map kt et))
    (hK : wpList Tryz.prog ops Q rest (a.put o.dst (.int .i64 es.length)) w) : wpList Tryz.prog ops Q (o :: rest) a w := by
  refine wpList_plain hg fun K hK' => ?_
  have hr := h.len ht o.type
  unfold Oper.wp
  simp [execOp, hop, resolve, invoke, builtin, hm, hr, Result.andThen]
  exact hK' _ _ hK
theorem wpList_entry_new {ops : Array Oper} {rest : List Oper} {o : Oper} {a : Act} {Q : Exit → Act → World → Prop} {w : World} (hg : o.guard = none) (it : Operand) (hop : o.op = Op.entry it)
    {r b i : Nat} {es : List (Value × Value)} {vis : List Nat} {k v : Value} (hit : a.eval it = .pointer (some ⟨r, 0, none⟩)) (h : RangeAt w r b es (vis ++ [i])) (he : es[i]? = some (k, v))
    (hK : wpList Tryz.prog ops Q rest (a.put o.dst (.tuple #[k, v])) w) : wpList Tryz.prog ops Q (o :: rest) a w := by
  refine wpList_plain hg fun K hK' => ?_
  have hr := h.entry_ he
  unfold Oper.wp
  simp [execOp, hop, hit, hr, Result.andThen]
  exact hK' _ _ hK
end Go.Proofs.YtapfahngeaojkaaGreatDoor
namespace Go.Proofs.YtapfahngeaojkaaGreatDoor
open Go Go.RowKit Go.Lib
def OwnB (v : Value) : Nat → Prop := fun b => v.ownBlock = some b
theorem kept_grown {w w' : World} {v : Value} (hg : w.grownBy w' v.ownBlock) : Kept (OwnB v) w w' := ⟨hg.os, hg.tape, hg.output, hg.size, fun k hk hn => hg.block k hk (fun e => hn e.symm)⟩
theorem bytes_eta (t : ByteArray) : (⟨(bytesOf t).toArray⟩ : ByteArray) = t := by obtain ⟨⟨l⟩⟩ := t; rfl
theorem wpList_make0 (w : World) {ops : Array Oper} {rest : List Oper} {o : Oper} {a : Act} {Q : Exit → Act → World → Prop} (hg : o.guard = none) (l c : Operand) (t : TypeId) (hop : o.op = Op.makeSlice t l c) (e : TypeId) (i : TypeInfo) (z : Value) (size bytes : Nat) (ht : Tryz.prog.underlying t = some (.slice e))
    (hi : Tryz.prog.info? e = some i) (hz : i.zero = some z) (hsize : i.size = size) (hby : i.bytes = bytes) (n : Nat) (hl : a.eval l = .int .i64 0) (hc : a.eval c = .int .i64 n) (hn : bytes * n ≤ 281474976710656) (hm : n ≤ maxLen) (base : Nat) (hbase : base ≤ w.heap.size)
    (hK : ∀ W, Hid (W.ownsRow base e size (.slice (some ⟨w.heap.size, 0, none⟩) 0 n) 0 [] ∧ Kept Nope w W) → wpList Tryz.prog ops Q rest (a.put o.dst (.slice (some ⟨w.heap.size, 0, none⟩) 0 n)) W) : wpList Tryz.prog ops Q (o :: rest) a w := by
  refine wpList_plain hg fun K hK' => ?_
  subst hby
  obtain ⟨w', hrun, h1, h2⟩ := run_make_own (P := Tryz.prog) w base t e i z size ht hi hz hsize .i64 .i64 n hn hm hbase
  unfold Oper.wp
  simp [execOp, hop, hl, hc, hrun, Result.andThen]
  exact hK' _ _ (hK w' (Lib.hid ⟨h1, ⟨h2.os, h2.tape, h2.output, h2.size, fun k hk _ => h2.block k hk (by simp)⟩⟩))
theorem findNow_hit (key : ByteArray) (y : Value) : ∀ (arr : List MapEntry) (i : Nat), (∀ e ∈ arr, ∃ t, e.key = .string t) → (∀ e ∈ arr, e.key = .string key → e.val = y) → (∃ e ∈ arr, e.key = .string key) → ∃ n, Instr.findNow .string (.string key) arr i = some (some (n, y))
  | [], i, _, _, h => by obtain ⟨e, he, _⟩ := h; cases he
  | e :: arr, i, h1, h2, h3 => by
    obtain ⟨t, ht⟩ := h1 e (by simp)
    by_cases hk : t = key
    · subst hk
      have hv := h2 e (by simp) ht
      refine ⟨i, ?_⟩
      simp only [Instr.findNow, ht, Instr.sameNow, (MapKept.bytes_beq t t).2 rfl]
      rw [hv]
    · obtain ⟨n, hn⟩ := findNow_hit key y arr (i + 1) (fun x hx => h1 x (by simp [hx])) (fun x hx => h2 x (by simp [hx])) (by
        obtain ⟨x, hx, hxk⟩ := h3
        rcases List.mem_cons.1 hx with rfl | hx
        · rw [ht] at hxk
          injection hxk with hxk
          exact absurd hxk hk
        · exact ⟨x, hx, hxk⟩)
      refine ⟨n, ?_⟩
      simp only [Instr.findNow, ht, Instr.sameNow, bytes_ne (Ne.symm hk)]
      exact hn
theorem check_text (c : Bool) (t : ByteArray) (W : World) : (Instr.checkKey c 10000 9 (.string t)).run Tryz.prog W = .ok () W := by cases c <;> kernel_rfl
theorem lookup_text {w : World} {b i : Nat} {es : List (Value × Value)} (h : MapAt w b es) {t : ByteArray} {y : Value} (hi : es[i]? = some (.string t, y)) (hs : ∀ e ∈ es, ∃ t, e.1 = .string t) (hu : ∀ e ∈ es, e.1 = .string t → e.2 = y) :
    (Instr.lookup 56 (.map (some b)) (.string t) false).run Tryz.prog w = .ok y w := by
  obtain ⟨arr, clock, hb, he, _⟩ := h
  have hm : ∀ e ∈ arr.toList, (e.key, e.val) ∈ es := fun e h => by rw [← he]; exact List.mem_map.2 ⟨e, h, rfl⟩
  obtain ⟨n, hn⟩ := findNow_hit t y arr.toList 0 (fun e h => hs _ (hm e h)) (fun e h => hu _ (hm e h)) (by
    have := List.mem_of_getElem? hi
    rw [← he] at this
    obtain ⟨e, h1, h2⟩ := List.mem_map.1 this
    injection h2 with h2 h3
    exact ⟨e, h1, h2⟩)
  have hfk : (Instr.findKey 9 (.string t) arr.toList).run Tryz.prog w = .ok (some (n, y)) w := by
    unfold Instr.findKey
    simp only [Sem.run_bind, run_underlying Tryz.underlying9, Result.andThen_ok, hn, Sem.run_pure]
  unfold Instr.lookup
  simp only [Sem.run_bind, run_underlying Tryz.underlying56, Result.andThen_ok, MapKept.run_getObj_map hb, Sem.run_pure, check_text, hfk]
  simp
theorem CSl.one_str {W : World} (t : ByteArray) {g : Nat} (hg : W.heap.size = g) : CSl Any_ (W.alloc (.cells #[.string t] 9)) 1 (.slice (some ⟨g, 0, none⟩) 1 1) 1 [.string t] := by
  subst hg
  refine ⟨rfl, _, 1, rfl, Nat.le_refl _, by decide, .inr ⟨W.heap.size, 0, rfl, trivial, fun j u hu => ?_⟩⟩
  rw [(Blk.new W 9 #[.string t]).cell, Nat.zero_add]
  simpa using hu
theorem info_str1 : (Tryz.prog.info? 9).map (fun i => (i.zero, i.size, i.bytes)) = some (some (.string ⟨#[]⟩), 1, 16) := by kernel_rfl
def encT (l : List UInt8) : Value := .string ⟨l.toArray⟩
theorem sortT_ok (w : World) (base : Nat) (x : Value) (ts : List (List UInt8)) (hrow : w.ownsRow base 9 1 x ts.length (ts.map encT)) (hn : ts.length ≤ 1000) :
    Calls Tryz.prog 82 #[x] w fun e w' => e = .returned (.tuple #[]) ∧ ∃ ts' : List (List UInt8), ts'.Perm ts ∧ w'.ownsRow base 9 1 x ts.length (ts'.map encT) ∧ Kept (fun k => x.ownBlock = some k) w w' := by
  have hrow0 := hrow
  rcases hrow.2 with ⟨rfl, e0⟩ | ⟨g, cap, cur, rfl, hb, hg, hnc, hm, hsz, hcur⟩
  · refine (Any.sort_Strings_none Tryz.laysStrings none 0 w).mono ?_
    rintro e w' ⟨rfl, rfl⟩
    exact ⟨rfl, ts, List.Perm.refl _, hrow0, Kept.refl _ _⟩
  · have hlt : g < w.heap.size := block_lt hg
    rw [Nat.mul_one] at hcur
    have hcl : ts.length ≤ cur.size := by
      have h1 := congrArg List.length hcur
      rw [List.length_take, List.length_map] at h1
      simp at h1
      omega
    have hH : Sort.Holds encStr w g 0 ts.toArray := by
      intro j hj
      rw [List.size_toArray] at hj
      rw [Nat.zero_add]
      constructor
      · rw [cell_of_row w g j cur _ (0, 0) hg, getElem!_pos _ j (by rw [List.size_toArray]; exact hj)]
        have h1 : (cur.toList.take ts.length)[j]? = (ts.map encT)[j]? := by rw [hcur]
        rw [List.getElem?_take, if_pos hj, List.getElem?_map, List.getElem?_eq_getElem hj] at h1
        simpa [encT] using h1
      · simp [World.frozen?, hg]
    refine (Any.sort_Strings Tryz.laysStrings g 0 cap ts w hH hlt (by omega)).mono ?_
    rintro e w' ⟨rfl, n, os, rfl⟩
    have hp : (ts.mergeSort fun x y => decide (x ≤ y)).Perm ts := List.mergeSort_perm _ _
    generalize ts.mergeSort (fun x y => decide (x ≤ y)) = ts' at hp
    have hl := hp.length_eq
    refine ⟨rfl, ts', hp, ⟨by rw [List.length_map, hl, Nat.mul_one], .inr ⟨g, cap, Sort.putCells encStr 0 ts'.toArray cur, rfl, hb, ?_, hnc, hm, by simpa [Sort.putCells] using hsz, ?_⟩⟩, rfl, rfl, rfl, by simp [Sort.grow, Sort.putRow, Sort.mapBlock], fun k hk hne => ?_⟩
    · rw [Sort.heap_grow_old _ _ (by simpa [Sort.putRow, Sort.mapBlock] using hlt)]
      simp [Sort.putRow, Sort.mapBlock, Array.getElem?_modify, hg, Sort.onCells]
    · apply List.ext_getElem?
      intro j
      rw [Nat.mul_one, List.getElem?_take]
      by_cases hj : j < ts.length
      · rw [if_pos hj, Array.getElem?_toList, Sort.putCells, Array.getElem?_mapIdx, Array.getElem?_eq_getElem (by omega)]
        simp only [Option.map_some]
        rw [if_pos ⟨Nat.zero_le _, by rw [List.size_toArray]; omega⟩, Nat.sub_zero, getElem!_pos _ j (by rw [List.size_toArray]; omega), List.getElem?_map, List.getElem?_eq_getElem (by omega)]
        simp [encT]
      · rw [if_neg hj, List.getElem?_eq_none (by rw [List.length_map]; omega)]
    · have hne' : g ≠ k := fun e => hne (by rw [← e]; rfl)
      rw [Sort.heap_grow_old _ _ (by simpa [Sort.putRow, Sort.mapBlock] using hk)]
      simp [Sort.putRow, Sort.mapBlock, Array.getElem?_modify, hne']
structure TxInv (w w' : World) (b r : Nat) (es : List (Value × Value)) (vis : List Nat) (ts : List (List UInt8)) (x : Value) : Prop where
  rng : RangeAt w' r b es vis
  kept : Kept Nope w w'
  row : w'.ownsRow w.heap.size 9 1 x ts.length (ts.map encT)
  len : ts.length = vis.length
  val : ∀ (i q : Nat) (t : List UInt8), vis[i]? = some q → ts[i]? = some t → ∃ y, es[q]? = some (encT t, y)
  bigr : w.heap.size ≤ r
  lt : b < w.heap.size
namespace TxInv
variable {w w' : World} {b r : Nat} {es : List (Value × Value)} {vis : List Nat} {ts : List (List UInt8)} {x : Value}
theorem own_ner (h : TxInv w w' b r es vis ts x) : x.ownBlock ≠ some r := by
  intro e
  obtain ⟨_, _, _, _, _, _, _, hr, _⟩ := h.rng
  rcases h.row.2 with ⟨rfl, _⟩ | ⟨g, cap, cur, rfl, _, hg, _⟩
  · cases e
  · injection e with e
    subst e
    rw [hr] at hg
    injection hg with hg
    cases hg
theorem step (h : TxInv w w' b r es vis ts x) {i : Nat} {w2 w6 w7 : World} {t : List UInt8} {y x' : Value} (hR : RangeAt w2 r b es (vis ++ [i])) (he : es[i]? = some (encT t, y)) (hk2 : Kept (Only r) w' w2) (h26 : Kept Nope w2 w6)
    (hown : w7.ownsRow w.heap.size 9 1 x' (ts.length + 1) (ts.map encT ++ [encT t])) (hg : w6.grownBy w7 x.ownBlock) : TxInv w w7 b r es (vis ++ [i]) (ts ++ [t]) x' := by
  have hkg : Kept (OwnB x) w6 w7 := kept_grown hg
  have hnr := h.own_ner
  have hlt := h.lt
  have hbr := h.bigr
  have hownb : ∀ k, OwnB x k → w.heap.size ≤ k := fun k hk => (h.row.lt k hk).1
  refine ⟨(hR.keep h26 (fun h => h) (fun h => h)).keep hkg (fun e => by have := hownb b e; omega) (fun e => hnr e), ?_, ?_, by simp [h.len], ?_, h.bigr, h.lt⟩
  · have h1 := (h.kept.trans hk2 fun k hk e => by have e' : k = r := e; omega).trans' h26
    exact h1.trans hkg fun k hk e => by have := hownb k e; omega
  · rw [List.length_append, List.length_singleton, List.map_append, List.map_singleton]
    exact hown
  · intro q z t0 hq ht0
    rw [List.getElem?_append] at hq ht0
    rw [h.len] at ht0
    split at hq
    · next hlt2 =>
      rw [if_pos hlt2] at ht0
      exact h.val q z t0 hq ht0
    · next hge =>
      rw [if_neg hge] at ht0
      have h0 : q - vis.length = 0 := by
        have := (List.getElem?_eq_some_iff.1 hq).1
        simp at this
        omega
      rw [h0] at hq ht0
      simp at hq ht0
      subst hq ht0
      exact ⟨y, he⟩
end TxInv
theorem perm_all {n : Nat} {vis : List Nat} (hn : vis.Nodup) (h1 : ∀ i ∈ vis, i < n) (h2 : ∀ i, i < n → i ∈ vis) : vis.Perm (List.range n) :=
  (List.perm_ext_iff_of_nodup hn List.nodup_range).2 fun a => ⟨fun h => by simpa using h1 a h, fun h => h2 a (by simpa using h)⟩
theorem encT_inj {a b : List UInt8} (h : encT a = encT b) : a = b := by
  unfold encT at h
  injection h with h
  injection h with h
  simpa using h
theorem keys_perm {es : List (Value × Value)} {tx ts : List (List UInt8)} {vis : List Nat} (hk : es.map (·.1) = tx.map encT) (hn : vis.Nodup) (h1 : ∀ i ∈ vis, i < es.length) (h2 : ∀ i, i < es.length → i ∈ vis) (hl : ts.length = vis.length)
    (hv : ∀ (i q : Nat) (t : List UInt8), vis[i]? = some q → ts[i]? = some t → ∃ y, es[q]? = some (encT t, y)) : ts.Perm tx := by
  have hlen : es.length = tx.length := by have := congrArg List.length hk; simpa using this
  have hp := (perm_all hn h1 h2).map (fun q => tx.getD q [])
  have e1 : ts = vis.map (fun q => tx.getD q []) := by
    apply List.ext_getElem?
    intro i
    rw [List.getElem?_map]
    cases hvi : vis[i]? with
    | none =>
      have h3 := List.getElem?_eq_none_iff.1 hvi
      exact List.getElem?_eq_none (by omega)
    | some q =>
      have hil := (List.getElem?_eq_some_iff.1 hvi).1
      have hti : ts[i]? = some (ts[i]'(by omega)) := List.getElem?_eq_getElem _
      obtain ⟨y, hy⟩ := hv i q _ hvi hti
      have h3 : (es.map (·.1))[q]? = some (encT (ts[i]'(by omega))) := by rw [List.getElem?_map, hy]; rfl
      rw [hk, List.getElem?_map] at h3
      cases htq : tx[q]? with
      | none => rw [htq] at h3; cases h3
      | some t' =>
        rw [htq] at h3
        have h4 : encT t' = encT (ts[i]'(by omega)) := by simpa using h3
        rw [hti]
        show some _ = some (tx.getD q [])
        rw [List.getD_eq_getElem?_getD, htq, ← encT_inj h4]
        rfl
  have e2 : (List.range es.length).map (fun q => tx.getD q []) = tx := by
    apply List.ext_getElem?
    intro i
    rw [List.getElem?_map]
    by_cases hi : i < es.length
    · rw [List.getElem?_range hi]
      show some (tx.getD i []) = tx[i]?
      have h4 : tx[i]? = some (tx[i]'(by omega)) := List.getElem?_eq_getElem _
      rw [List.getD_eq_getElem?_getD, h4]
      rfl
    · rw [List.getElem?_eq_none (by simp; omega), List.getElem?_eq_none (by omega)]
      rfl
  rw [e1]
  rw [e2] at hp
  exact hp
def KeysP (tx : List (List UInt8)) (w : World) : Ending → World → Prop := fun e w' => ∃ (x' : Value) (ts : List (List UInt8)), e = .returned x' ∧ ts.Perm tx ∧ CSl (fun i => w.heap.size ≤ i) w' 1 x' ts.length (ts.map encT) ∧ Kept Nope w w'
theorem CSl.ownRow {w : World} {base : Nat} {e : TypeId} {size n : Nat} {x : Value} {xs : List Value} (h : w.ownsRow base e size x n xs) : CSl (fun i => base ≤ i) w size x n xs := by
  refine ⟨h.1, ?_⟩
  rcases h.2 with ⟨rfl, h0⟩ | ⟨g, cap, cur, rfl, hb, hg, hn, hm, _, _⟩
  · subst h0; exact ⟨none, 0, rfl, Nat.le_refl _, by decide, .inl rfl⟩
  · exact ⟨_, cap, rfl, hn, hm, .inr ⟨g, 0, rfl, hb, fun j u hu => by have := h.cells (g := g) rfl j u hu; rw [Addr.add_lit] at this; exact this⟩⟩
set_option maxRecDepth 100000 in
set_option maxHeartbeats 3200000 in
theorem keysOf_ok (w : World) (b : Nat) (es : List (Value × Value)) (tx : List (List UInt8)) (hm : MapAt w b es) (hk : es.map (·.1) = tx.map encT) (hn : es.length ≤ 1000) : Calls Tryz.prog 75 #[.map (some b)] w (KeysP tx w) := by
  obtain ⟨i1, hi, hz0, hz1, hz2⟩ := info_parts info_str1
  have hbl := hm.lt
  have HK := Lib.hid hk
  have HM := Lib.hid hm
  have hke : ∀ (i : Nat) (e : Value × Value), es[i]? = some e → ∃ t : List UInt8, e.1 = encT t := fun i e he => by
    have h1 : (es.map (·.1))[i]? = some e.1 := by rw [List.getElem?_map, he]; rfl
    rw [hk, List.getElem?_map] at h1
    cases hq : tx[i]? with
    | none => rw [hq] at h1; cases h1
    | some t => rw [hq] at h1; exact ⟨t, by simpa using h1.symm⟩
  have HX := Lib.hid hke
  clear hm hk hke
  go_enter Tryz.func75, Tryz.ntmps75
  go_wp2_with (first
    | (at_len; go_must (refine wpList_len_new rfl _ 56 rfl rfl HM.out Tryz.underlying56 ?_))
    | (at_make; go_must (refine wpList_make0 _ rfl _ _ 130 rfl 9 i1 _ 1 16 Tryz.underlying130 hi hz0 hz1 hz2 es.length rfl rfl (by omega) (by unfold maxLen; omega) w.heap.size (Nat.le_refl _) ?_; intro w0 H0))
    | (at_range; go_must (refine wpList_range_new rfl _ 56 rfl rfl (HM.out.keep H0.out.2 (fun h => h)) Tryz.underlying56 ?_; intro w1 hR hk1; have H1 := Lib.hid (And.intro hR (H0.out.2.trans' hk1)); have HR0 := Lib.hid (ownsRow_keep H0.out.1 hk1 (fun _ _ h => h)); clear hR hk1)))
  (try go_simp)
  obtain ⟨r, hr0⟩ : ∃ r, w0.heap.size = r := ⟨_, rfl⟩
  rw [hr0] at H1 ⊢
  have HI0 : Hid (TxInv w w1 b r es [] [] (.slice (some ⟨w.heap.size, 0, none⟩) 0 es.length)) := Lib.hid ⟨H1.out.1, H1.out.2, HR0.out, rfl, (fun _ _ _ h => nomatch h), by rw [← hr0]; exact H0.out.2.size, hbl⟩
  clear hr0 H0 HR0
  go_loopw [3] (fun x w' => ∃ (vis : List Nat) (ts : List (List UInt8)), Hid (TxInv w w' b r es vis ts x)) (fun _ w' => es.length - seenSize w' r)
  case atStart => exact ⟨[], [], HI0⟩
  case round =>
    obtain ⟨vis, ts, HI⟩ := hrel
    obtain ⟨po, co, hx0⟩ := ownsRow_form0 HI.out.row
    subst hx0
    have hfew0 := HI.out.rng.few
    rw [← HI.out.len] at hfew0
    clear HI0
    go_wp2_with (at_next; go_must (refine wpList_next_new rfl (.tmp 9) rfl rfl HI.out.rng ?_ ?_))
    · intro hall
      have HP := Lib.hid (keys_perm HK.out HI.out.rng.nodup HI.out.rng.below hall HI.out.len HI.out.val)
      clear hall
      go_wp2_with (go_at_call 82; go_must (refine (sortT_ok _ w.heap.size _ ts HI.out.row (by omega)).mono ?_; rintro e w8 ⟨rfl, ts', hperm, hrow8, hk8⟩; have H8 := Lib.hid (And.intro hperm (And.intro hrow8 hk8)); clear hperm hrow8 hk8))
      (try go_simp)
      go_ret
      refine ⟨_, ts', rfl, H8.out.1.trans HP.out, ?_, HI.out.kept.trans H8.out.2.2 fun k hk e => by have := (HI.out.row.lt k e).1; omega⟩
      rw [H8.out.1.length_eq]
      exact CSl.ownRow H8.out.2.1
    · intro i a y w2 hi0 he hR hk2
      obtain ⟨t, ha⟩ := HX.out i _ he
      simp only at ha
      subst ha
      obtain ⟨T, hT0⟩ : ∃ T : ByteArray, (⟨t.toArray⟩ : ByteArray) = T := ⟨_, rfl⟩
      have heT : encT t = .string T := by unfold encT; rw [hT0]
      rw [heT] at he ⊢
      have HT := Lib.hid heT
      have H2 := Lib.hid (And.intro hR (And.intro hk2 he))
      have hsz := HI.out.rng.size_
      have hsz2 := hR.size_
      have hfew := hR.few
      rw [List.length_append, List.length_singleton] at hsz2 hfew
      have HM2 := Lib.hid (And.intro hsz (And.intro hsz2 hfew))
      have hka := (Kept.refl Nope w2).alloc (.cells #[.string T] 9)
      have HROW := Lib.hid (And.intro (ownsRow_keep (ownsRow_keep HI.out.row hk2 (fun q hq e => HI.out.own_ner (by have e' : q = r := e; rw [← e']; exact hq))) hka (fun _ _ h => h)) (Nat.le_trans HI.out.kept.size (Nat.le_trans hk2.size hka.size)))
      clear hR hk2 hi0 he hsz hsz2 hfew hT0 heT hka
      go_wp2_with (first
        | (at_builtin; go_must (refine wpList_append_c _ rfl (.tmp 14) (.tmp 16) 130 rfl w.heap.size 9 i1 _ 1 16 Tryz.underlying130 hi hz0 hz1 hz2 rfl (by decide) _ _ _ rfl HROW.out.1 Any_ _ 1 [.string T] rfl (CSl.one_str (W := w2) T rfl) (by intro z hz; rw [List.mem_singleton.1 hz]; rfl) (by unfold maxLen; omega) (by omega) HROW.out.2 ?_; intro v7 w7 hown hgrow _; have H7 := Lib.hid (HI.out.step (y := y) H2.out.1 (by rw [HT.out]; exact H2.out.2.2) H2.out.2.1 ((Kept.refl Nope w2).alloc _) (by rw [HT.out]; exact hown) hgrow); clear hown hgrow))
        | (refine wpList_entry_new rfl (.tmp 9) rfl rfl H2.out.1 H2.out.2.2 ?_))
      have hs7 := H7.out.rng.size_
      rw [List.length_append, List.length_singleton] at hs7
      have h9 := HM2.out
      (try go_simp)
      go_roundw
      case rel => exact ⟨_, _, H7⟩
      case measure => omega
end Go.Proofs.YtapfahngeaojkaaGreatDoor
