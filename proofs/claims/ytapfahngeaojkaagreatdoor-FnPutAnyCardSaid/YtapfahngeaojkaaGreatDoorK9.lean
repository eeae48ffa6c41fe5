/- ROWS OF BYTES that are the call's own and known whole: storing a byte, copying bytes or a text onto them. Package msgp: the first bytes of short forms: wfixint, wnfixint, wfixstr, wfixarray, wfixmap. -/
import Derived.Laws.CopyOwn
import Derived.Lib.SlBuf
import Derived.Lib.BufferWrite
import Derived.Deep.RegionHeld3
import Derived.Deep.DrawnRows
import Derived.Test.YtapfahngeaojkaaGreatDoorK6
namespace Go.Proofs.YtapfahngeaojkaaGreatDoor
open Go Go.RowKit Go.Lib
theorem ownsRow_form0 {w : World} {base : Nat} {e : TypeId} {size n : Nat} {x : Value} {xs : List Value} (h : w.ownsRow base e size x n xs) : ∃ p c, x = .slice p n c := by
  rcases h.2 with ⟨rfl, e⟩ | ⟨g, cap, cur, rfl, _⟩
  · exact ⟨none, 0, by rw [e]⟩
  · exact ⟨_, _, rfl⟩
theorem info_u8 : (Tryz.prog.info? 5).map (fun i => (i.zero, i.size, i.bytes)) = some (some (.int .u8 0), 1, 1) := by kernel_rfl
def BRow (M : Nat → Prop) (w : World) (x : Value) (bs : List UInt8) : Prop := w.ownsRow 0 5 1 x bs.length (bs.map u8) ∧ ∀ k, x.ownBlock = some k → M k
namespace BRow
variable {M : Nat → Prop} {w w' : World} {x : Value} {bs : List UInt8}
theorem keep {M' : Nat → Prop} (h : BRow M w x bs) (hk : Kept M' w w') (hM : ∀ b, M b → ¬ M' b) : BRow M w' x bs := ⟨ownsRow_keep h.1 hk fun k hk => hM k (h.2 k hk), h.2⟩
theorem nope (h : BRow M w x bs) (hk : Kept Nope w w') : BRow M w' x bs := h.keep hk fun _ _ h => h
theorem form (h : BRow M w x bs) : ∃ p c, x = .slice p bs.length c := ownsRow_form0 h.1
theorem bsl (h : BRow M w x bs) : BSl M w x bs := (BSl.ofOwn h.1).mono fun b _ hb => h.2 b hb
end BRow
structure Wide (M : Nat → Prop) (w : World) (g cap m : Nat) (cur : Array Value) (bs : List UInt8) : Prop where
  ge : M g
  blk : Blk w g 5 cur
  size : cur.size = cap
  room : m ≤ cap
  max : cap ≤ maxLen
  take : cur.toList.take bs.length = bs.map u8
  le : bs.length ≤ m
theorem Wide.keep {M : Nat → Prop} {w w' : World} {g cap m : Nat} {cur : Array Value} {bs : List UInt8} (h : Wide M w g cap m cur bs) (hk : Kept Nope w w') : Wide M w' g cap m cur bs :=
  ⟨h.ge, h.blk.kept hk (fun h => h), h.size, h.room, h.max, h.take, h.le⟩
theorem Wide.put {M : Nat → Prop} {w w' : World} {g cap m : Nat} {cur cur' : Array Value} {bs ds : List UInt8} (h : Wide M w g cap m cur bs) (hb : Blk w' g 5 cur') (hs : cur'.size = cur.size) (ht : cur'.toList.take (bs.length + ds.length) = cur.toList.take bs.length ++ ds.map u8)
    (hl : bs.length + ds.length ≤ m) : Wide M w' g cap m cur' (bs ++ ds) :=
  ⟨h.ge, hb, hs.trans h.size, h.room, h.max, by rw [List.length_append, ht, h.take, List.map_append], by rw [List.length_append]; exact hl⟩
theorem Wide.row {M : Nat → Prop} {w : World} {g cap m : Nat} {cur : Array Value} {bs : List UInt8} (h : Wide M w g cap m cur bs) : BRow M w (.slice (some ⟨g, 0, none⟩) bs.length cap) bs :=
  ⟨⟨by simp, .inr ⟨g, cap, cur, rfl, Nat.zero_le _, h.blk, Nat.le_trans h.le h.room, h.max, by rw [Nat.mul_one]; exact h.size, by rw [Nat.mul_one]; exact h.take⟩⟩, fun k e => (show g = k by injection e) ▸ h.ge⟩
def PutB (g : Nat) (cur : Array Value) (off : Nat) (ds : List UInt8) (w : World) : Ending → World → Prop := fun e w' => e = .returned (.tuple #[]) ∧ Kept (Only g) w w' ∧
  ∃ cur', Blk w' g 5 cur' ∧ cur'.size = cur.size ∧ cur'.toList.take (off + ds.length) = cur.toList.take off ++ ds.map u8
theorem take_set_far {α : Type} (l : List α) (n i : Nat) (a : α) (h : n ≤ i) : (l.set i a).take n = l.take n := by
  apply List.ext_getElem?
  intro j
  simp only [List.getElem?_take, List.getElem?_set]
  split
  · rw [if_neg (by omega)]
  · rfl
theorem take_set_next {α : Type} (l : List α) (n : Nat) (a : α) (h : n < l.length) : (l.set n a).take (n + 1) = l.take n ++ [a] := by
  rw [List.take_add_one, take_set_far l n n a (Nat.le_refl _), List.getElem?_set_self h]
  rfl
theorem take_put {cur : Array Value} {off n : Nat} {xs : List Value} (h : cur.toList.take (off + n) = xs) (hl : off + n < cur.size) (u : Value) : (cur.setIfInBounds (off + n) u).toList.take (off + n + 1) = xs ++ [u] := by
  rw [Array.toList_setIfInBounds, take_set_next _ _ _ (by simpa using hl), h]
theorem u8_one (bs : List UInt8) : ∀ u ∈ bs.map u8, u.oneCell' = true := by
  intro u hu
  obtain ⟨x, _, rfl⟩ := List.mem_map.1 hu
  rfl
theorem take_splice {α : Type} (L : List α) (off : Nat) (cs : List α) (h : off + cs.length ≤ L.length) : (splice L off cs).take (off + cs.length) = L.take off ++ cs := by
  unfold splice
  rw [← List.append_assoc, List.take_append_of_le_length (by simp; omega), List.take_of_length_le (by simp; omega)]
theorem Blk.setRow_ {w : World} {g : Nat} {t : TypeId} {cs : Array Value} (h : Blk w g t cs) (cs' : Array Value) : Blk (w.setRow g cs') g t cs' := setRow_heap w g _ _ t _ h
def Stored (w0 : World) (g : Nat) (cur : Array Value) (off : Nat) (vs : List Value) (w : World) : Prop := Kept (Only g) w0 w ∧ ∃ cur', Blk w g 5 cur' ∧ cur'.size = cur.size ∧ cur'.toList.take (off + vs.length) = cur.toList.take off ++ vs
theorem Stored.start {w : World} {g : Nat} {cur : Array Value} (off : Nat) (h : Blk w g 5 cur) : Stored w g cur off [] w := ⟨Kept.refl _ _, cur, h, rfl, by simp⟩
theorem Stored.putB {w0 w : World} {g : Nat} {cur : Array Value} {off : Nat} {vs : List Value} (h : Stored w0 g cur off vs w) (ds : List UInt8) (hd : vs = ds.map u8) : PutB g cur off ds w0 (.returned (.tuple #[])) w := by
  obtain ⟨hk, cur', hb, hs, ht⟩ := h
  subst hd
  exact ⟨rfl, hk, cur', hb, hs, by rw [List.length_map] at ht; exact ht⟩
theorem run_store_u8 {w : World} {g i : Nat} {cur : Array Value} (hb : Blk w g 5 cur) (hi : i < cur.size) (v : Value) (hv : v.oneCell' = true) (hc : v.cells = #[v]) :
    (Instr.storeAt 5 (.pointer (some ⟨g, i, none⟩)) v).run Tryz.prog w = .ok () (w.setRow g (cur.toList.take i ++ [v] ++ cur.toList.drop (i + 1)).toArray) := by
  obtain ⟨i1, h1, hz0, hz1, hz2⟩ := info_parts info_u8
  have hst := run_storeCells_at Tryz.prog g i 5 [v] 0 cur w hb (by simp; omega) (by intro x hx; simp at hx; subst hx; exact hv)
  simp only [Nat.add_zero, List.length_singleton] at hst
  simp [Instr.storeAt, Instr.sureAddr, storeVar, sizeOf, typeInfo, h1, hz1, hc, Sem.run_bind, Sem.run_pure, Result.andThen_ok, hst]
theorem wpList_put {ops : Array Oper} {rest : List Oper} {o : Oper} {a : Act} {w : World} {Q : Exit → Act → World → Prop} (hgd : o.guard = none) (x y : Operand) (ho : o.op = .store 5 x y)
    {w0 : World} {g : Nat} {cur : Array Value} {off : Nat} {vs : List Value} (hS : Hid (Stored w0 g cur off vs w)) (n : Int) (hx : a.eval x = .pointer (some ⟨g, off + vs.length, none⟩)) (hy : a.eval y = .int .u8 n) (hlt : off + vs.length < cur.size)
    (h : ∀ W, Hid (Stored w0 g cur off (vs ++ [.int .u8 n]) W) → wpList Tryz.prog ops Q rest (a.put o.dst undef) W) : wpList Tryz.prog ops Q (o :: rest) a w := by
  refine wpList_plain hgd fun K hK => ?_
  obtain ⟨hk, cur', hb, hs, ht⟩ := hS.out
  have hrun := run_store_u8 hb (by rw [hs]; exact hlt) (.int .u8 n) rfl rfl
  unfold Oper.wp execOp
  simp only [ho, hx, hy, Sem.run_bind, Sem.run_pure, Result.andThen_ok, hrun]
  refine hK _ _ (h _ (Lib.hid ⟨hk.trans' ⟨rfl, rfl, rfl, by simp [World.setRow], fun k _ hne => setRow_other w g k _ hne⟩, _, Blk.setRow_ hb _, ?_, ?_⟩))
  · rw [← hs]; simp; have : off + vs.length < cur'.size := by rw [hs]; exact hlt
    omega
  · rw [List.length_append, List.length_singleton, List.toList_toArray, ← Nat.add_assoc, List.take_append_of_le_length (by simp; omega), List.take_of_length_le (by simp; omega), ht, List.append_assoc]
theorem cell_in {w : World} {g i : Nat} {cur : Array Value} (hb : Blk w g 5 cur) (hi : i < cur.size) : ∃ u, w.cell? ⟨g, i, none⟩ = some u := ⟨cur[i], by rw [hb.cell, Array.getElem?_eq_getElem hi]⟩
def Made (g m : Nat) (w W : World) : Prop := Kept Nope w W ∧ ∃ cur : Array Value, Blk W g 5 cur ∧ cur.size = m
theorem wpList_make_u8 (w : World) {ops : Array Oper} {rest : List Oper} {o : Oper} {a : Act} {Q : Exit → Act → World → Prop} (hg : o.guard = none) (l c : Operand) (hop : o.op = Op.makeSlice 22 l c)
    (x : Int) (m : Nat) (hx : x = (m : Int)) (hl : a.eval l = .int .i64 x) (hc : a.eval c = .int .i64 x) (hm : m ≤ 140737488355328)
    (hK : ∀ W, Hid (Made w.heap.size m w W) → wpList Tryz.prog ops Q rest (a.put o.dst (.slice (some ⟨w.heap.size, 0, none⟩) m m)) W) : wpList Tryz.prog ops Q (o :: rest) a w := by
  refine wpList_plain hg fun K hK' => ?_
  subst hx
  obtain ⟨i, hi, hz0, hz1, hz2⟩ := info_parts info_u8
  have hrun := run_make (P := Tryz.prog) w 22 5 i _ Tryz.underlying22 hi hz0 .i64 .i64 (m : Int) (m : Int) (by omega) (Int.le_refl _) (by rw [hz2]; omega) (by omega)
  simp only [Int.toNat_natCast] at hrun
  unfold Oper.wp
  simp [execOp, hop, hl, hc, hrun, Result.andThen]
  exact hK' _ _ (hK _ (Lib.hid ⟨(Kept.refl _ _).alloc _, _, Blk.new w _ _, by rw [size_madeCells, hz1, Nat.mul_one]⟩))
def Copied (g : Nat) (cur : Array Value) (off : Nat) (ds : List UInt8) (w W : World) : Prop := Kept (Only g) w W ∧ ∃ cur', Blk W g 5 cur' ∧ cur'.size = cur.size ∧ cur'.toList.take (off + ds.length) = cur.toList.take off ++ ds.map u8
theorem copied_row {w : World} {g : Nat} {cur : Array Value} {off : Nat} {ds : List UInt8} (hb : Blk w g 5 cur) (hf : off + ds.length ≤ cur.size) (cs : List Value) (hcs : cs = ds.map u8) :
    Copied g cur off ds w (w.setRow g (cur.toList.take off ++ cs ++ cur.toList.drop (off + cs.length)).toArray) := by
  subst hcs
  refine ⟨⟨rfl, rfl, rfl, by simp [World.setRow], fun k _ hne => setRow_other w g k _ hne⟩, _, Blk.setRow_ hb _, ?_, ?_⟩
  · simp; omega
  · rw [List.toList_toArray, List.take_append_of_le_length (by simp; omega), List.take_of_length_le (by simp; omega)]
theorem copied_none {w : World} {g : Nat} {cur : Array Value} (off : Nat) (hb : Blk w g 5 cur) : Copied g cur off [] w w := ⟨Kept.refl _ _, cur, hb, rfl, by simp⟩
theorem size_u8 : (Tryz.prog.info? 5).map (·.size) = some 1 := by
  obtain ⟨i, hi, _, hz1, _⟩ := info_parts info_u8
  rw [hi]
  exact congrArg some hz1
theorem wpList_copy_b {ops : Array Oper} {rest : List Oper} {o : Oper} {a : Act} {w : World} {Q : Exit → Act → World → Prop} (hgd : o.guard = none) (d s : Operand) (ho : o.op = .call { callee := .builtin .copy, args := #[d, s], argTypes := #[22, 22] })
    (dp : Option Addr) (dl dc g off : Nat) (cur : Array Value) (sv : Value) (hd : a.eval d = .slice dp dl dc) (hs : a.eval s = sv) (hb : Blk w g 5 cur) {S : Nat → Prop} (ds : List UInt8) (hbs : BSl S w sv ds) (hdp : 0 < ds.length → dp = some ⟨g, off, none⟩) (hle : ds.length ≤ dl) (hfit : off + ds.length ≤ cur.size)
    (h : ∀ W, Hid (Copied g cur off ds w W) → wpList Tryz.prog ops Q rest (a.put o.dst (.int .i64 ds.length)) W) : wpList Tryz.prog ops Q (o :: rest) a w := by
  obtain ⟨ap, cap, rfl, hc, hm, hbs⟩ := hbs
  by_cases h0 : ds = []
  · subst h0
    exact wpList_copy_nothing hgd d s 22 22 ho 5 Tryz.underlying22 size_u8 dp ap dl dc 0 cap hd hs (by simp) (h w (Lib.hid (copied_none off hb)))
  · obtain rfl := hdp (List.length_pos_iff.2 h0)
    rcases hbs with e | ⟨b, bo, rfl, _, hcell⟩
    · exact absurd e h0
    · refine wpList_plain hgd fun K hK => ?_
      have hrun := run_copy_row (P := Tryz.prog) w 22 22 o.type 5 g off dl dc ⟨b, bo, none⟩ ds.length cap cur 5 (ds.map u8) Tryz.underlying22 size_u8 hb (by rw [List.length_map]; exact (Nat.min_eq_left hle).symm) (fun j v hv => by
        rw [List.getElem?_map] at hv
        cases hx : ds[j]? with
        | none => rw [hx] at hv; cases hv
        | some x => rw [hx] at hv; simp at hv; subst hv; rw [Addr.add_lit]; exact hcell j x hx) (by rw [List.length_map]; exact hfit) (u8_one ds)
      unfold Oper.wp
      simp only [execOp, ho, resolve, invoke, builtin, Sem.run_bind, Sem.run_pure, Result.andThen_ok, List.map_toArray, List.map_cons, List.map_nil, hd, hs, hrun]
      refine hK _ _ ?_
      rw [List.length_map]
      exact h _ (Lib.hid (by have := copied_row hb hfit _ rfl; rw [List.length_map] at this; exact this))
theorem wpList_copy_s {ops : Array Oper} {rest : List Oper} {o : Oper} {a : Act} {w : World} {Q : Exit → Act → World → Prop} (hgd : o.guard = none) (d s : Operand) (ho : o.op = .call { callee := .builtin .copy, args := #[d, s], argTypes := #[22, 9] })
    (dp : Option Addr) (dl dc g off : Nat) (cur : Array Value) (t : ByteArray) (hd : a.eval d = .slice dp dl dc) (hs : a.eval s = .string t) (hb : Blk w g 5 cur) (hdp : 0 < t.size → dp = some ⟨g, off, none⟩) (hle : t.size ≤ dl) (hfit : off + t.size ≤ cur.size)
    (h : ∀ W, Hid (Copied g cur off (bytesOf t) w W) → wpList Tryz.prog ops Q rest (a.put o.dst (.int .i64 t.size)) W) : wpList Tryz.prog ops Q (o :: rest) a w := by
  have hl : (bytesOf t).length = t.size := rfl
  refine wpList_plain hgd fun K hK => ?_
  by_cases h0 : t.size = 0
  · have hrun := run_copy_empty_string (P := Tryz.prog) w 22 9 o.type 5 dp dl dc t Tryz.underlying22 (by rw [size_u8]; rfl) h0
    unfold Oper.wp
    simp only [execOp, ho, resolve, invoke, builtin, Sem.run_bind, Sem.run_pure, Result.andThen_ok, List.map_toArray, List.map_cons, List.map_nil, hd, hs, hrun]
    refine hK _ _ ?_
    have he : bytesOf t = [] := List.eq_nil_of_length_eq_zero (by rw [hl, h0])
    have hq := h w (Lib.hid (by rw [he]; exact copied_none off hb))
    rw [h0] at hq
    exact hq
  · obtain rfl := hdp (by omega)
    have hrun := run_copy_row_string (P := Tryz.prog) w 22 9 o.type 5 g off dl dc t cur 5 Tryz.underlying22 size_u8 hb hle hfit
    unfold Oper.wp
    simp only [execOp, ho, resolve, invoke, builtin, Sem.run_bind, Sem.run_pure, Result.andThen_ok, List.map_toArray, List.map_cons, List.map_nil, hd, hs, hrun]
    refine hK _ _ ?_
    have hc := copied_row (ds := bytesOf t) hb (by rw [hl]; exact hfit) (byteCells t.data.toList) rfl
    have hbl : (byteCells t.data.toList).length = t.size := by rw [byteCells_length]; rfl
    rw [hbl] at hc
    exact h _ (Lib.hid hc)
end Go.Proofs.YtapfahngeaojkaaGreatDoor
namespace Go.Proofs.YtapfahngeaojkaaGreatDoor
open Go Go.RowKit Go.Lib
theorem bits127 : ∀ n : Fin 128, bits BinOp.and IntKind.u8 (n.val : Int) 127 = (n.val : Int) := by decide
theorem bits224 : ∀ n : Fin 32, bits BinOp.or IntKind.u8 (224 + (n.val : Int)) 224 = 224 + (n.val : Int) := by decide
theorem bits160 : ∀ n : Fin 32, bits BinOp.or IntKind.u8 (n.val : Int) 160 = 160 + (n.val : Int) := by decide
theorem bits144 : ∀ n : Fin 16, bits BinOp.or IntKind.u8 (n.val : Int) 144 = 144 + (n.val : Int) := by decide
theorem bits128 : ∀ n : Fin 16, bits BinOp.or IntKind.u8 128 (n.val : Int) = 128 + (n.val : Int) := by decide
theorem wfixint_ok (w : World) (n : Nat) (h : n < 128) : Calls Tryz.prog 60 #[.int .u8 n] w (Quiet (.int .u8 n) w) := by
  have hb := bits127 ⟨n, h⟩
  simp only at hb
  go_enter Tryz.func60, Tryz.ntmps60
  go_wp2
  go_ret
  refine ⟨?_, Kept.refl _ _⟩
  simp [hb]
theorem wnfixint_ok (w : World) (i : Int) (h : -32 ≤ i) (h' : i < 0) : Calls Tryz.prog 64 #[.int .i8 i] w (Quiet (.int .u8 (i + 256)) w) := by
  obtain ⟨n, hn⟩ : ∃ n : Nat, i = (n : Int) - 32 := ⟨(i + 32).toNat, by omega⟩
  subst hn
  have hb := bits224 ⟨n, by omega⟩
  simp only at hb
  have e : ((n : Int) - 32) % 256 = 224 + (n : Int) := by omega
  have e2 : (n : Int) - 32 + 256 = 224 + (n : Int) := by omega
  go_enter Tryz.func64, Tryz.ntmps64
  go_wp2
  go_ret
  refine ⟨?_, Kept.refl _ _⟩
  simp [e, e2, hb]
theorem wfixstr_ok (w : World) (n : Nat) (h : n < 32) : Calls Tryz.prog 57 #[.int .u8 n] w (Quiet (.int .u8 (160 + n)) w) := by
  have hb := bits160 ⟨n, h⟩
  simp only at hb
  have e : (n : Int) % 32 = (n : Int) := by omega
  go_enter Tryz.func57, Tryz.ntmps57
  go_wp2
  go_ret
  refine ⟨?_, Kept.refl _ _⟩
  simp [e, hb]
theorem wfixarray_ok (w : World) (n : Nat) (h : n < 16) : Calls Tryz.prog 80 #[.int .u8 n] w (Quiet (.int .u8 (144 + n)) w) := by
  have hb := bits144 ⟨n, h⟩
  simp only at hb
  have e : (n : Int) % 16 = (n : Int) := by omega
  go_enter Tryz.func80, Tryz.ntmps80
  go_wp2
  go_ret
  refine ⟨?_, Kept.refl _ _⟩
  simp [e, hb]
theorem wfixmap_ok (w : World) (n : Nat) (h : n < 16) : Calls Tryz.prog 81 #[.int .u8 n] w (Quiet (.int .u8 (128 + n)) w) := by
  have hb := bits128 ⟨n, h⟩
  simp only at hb
  have e : (n : Int) % 16 = (n : Int) := by omega
  go_enter Tryz.func81, Tryz.ntmps81
  go_wp2
  go_ret
  refine ⟨?_, Kept.refl _ _⟩
  simp [e, hb]
end Go.Proofs.YtapfahngeaojkaaGreatDoor
