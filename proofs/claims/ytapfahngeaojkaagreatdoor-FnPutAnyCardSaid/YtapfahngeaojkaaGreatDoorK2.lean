/- WORDS FOR MEMORY: what has turned ('Kept'), a slice of bytes that reads as a list ('BSl'), a slice of values that reads as trees ('VSl'), a value itself ('VAgg'). LAWS FOR append: onto a row of the call's own, from a slice that reads as a list, nil and empty ones too. (After the guide's words for memory, turned to 'CSl'.) -/
import Derived.WalkKit
import Derived.Deep.Draws
import Derived.Test.YtapfahngeaojkaaGreatDoorK1
import Derived.Maps.AppendAt
import Derived.Deep.AppendLies
import Derived.RegionTactic
import Derived.OwnWalk
namespace Go.Proofs.YtapfahngeaojkaaGreatDoor
open Go Go.RowKit
def Nope : Nat → Prop := fun _ => False
def Only (b : Nat) : Nat → Prop := fun k => k = b
def Or2 (b c : Nat) : Nat → Prop := fun k => k = b ∨ k = c
structure Kept (M : Nat → Prop) (w w' : World) : Prop where
  os : w'.os = w.os
  tape : w'.tape = w.tape
  output : w'.output = w.output
  size : w.heap.size ≤ w'.heap.size
  block : ∀ k, k < w.heap.size → ¬ M k → w'.heap[k]? = w.heap[k]?
theorem block_lt {w : World} {k : Nat} {o : Obj} (h : w.heap[k]? = some o) : k < w.heap.size := by
  rcases Nat.lt_or_ge k w.heap.size with h1 | h1
  · exact h1
  · rw [Array.getElem?_eq_none h1] at h; cases h
namespace Kept
variable {M M' : Nat → Prop} {a b c w w' : World}
theorem refl (M) (w : World) : Kept M w w := ⟨rfl, rfl, rfl, Nat.le_refl _, fun _ _ _ => rfl⟩
theorem trans (h : Kept M a b) (k : Kept M' b c) (hM : ∀ i, i < a.heap.size → M' i → M i) : Kept M a c :=
  ⟨k.os.trans h.os, k.tape.trans h.tape, k.output.trans h.output, Nat.le_trans h.size k.size,
    fun i hi hn => (k.block i (Nat.lt_of_lt_of_le hi h.size) (fun hm => hn (hM i hi hm))).trans (h.block i hi hn)⟩
theorem trans' (h : Kept M a b) (k : Kept M b c) : Kept M a c := h.trans k fun _ _ h => h
theorem mono (h : Kept M w w') (hM : ∀ i, i < w.heap.size → M i → M' i) : Kept M' w w' :=
  ⟨h.os, h.tape, h.output, h.size, fun i hi hn => h.block i hi fun hm => hn (hM i hi hm)⟩
theorem nope (h : Kept Nope w w') : Kept M w w' := h.mono fun _ _ h => h.elim
theorem drew (h : Kept M a w) : Kept M a w.drew := ⟨h.os, h.tape, h.output, h.size, h.block⟩
theorem drewN (h : Kept M a w) (n : Nat) : Kept M a (w.drewN n) := ⟨h.os, h.tape, h.output, h.size, h.block⟩
theorem alloc (h : Kept M a w) (o : Obj) : Kept M a (w.alloc o) :=
  ⟨h.os, h.tape, h.output, Nat.le_trans h.size (by simp), fun i hi hn => (Below.heap_alloc w o i (Nat.lt_of_lt_of_le hi h.size)).trans (h.block i hi hn)⟩
theorem setCell (h : Kept M a w) {p : Addr} (hp : M p.block ∨ a.heap.size ≤ p.block) (u : Value) : Kept M a (w.setCell p u) :=
  ⟨h.os, h.tape, h.output, by simpa [World.setCell] using h.size, fun i hi hn => (Below.heap_setCell w p u i (by
    rintro rfl
    rcases hp with hp | hp
    · exact hn hp
    · omega)).trans (h.block i hi hn)⟩
theorem set1 {r : Nat} (h : Kept (Only r) a w) (i : Nat) (u : Value) : Kept (Only r) a (w.setCell ⟨r, i, none⟩ u) := h.setCell (p := ⟨r, i, none⟩) (.inl (show r = r from rfl)) u
theorem grown {row : Option Nat} (h : Kept M a w) (hg : w.grownBy w' row) (hr : ∀ k, row = some k → M k ∨ a.heap.size ≤ k) : Kept M a w' :=
  ⟨hg.os.trans h.os, hg.tape.trans h.tape, hg.output.trans h.output, Nat.le_trans h.size hg.size, fun i hi hn =>
    (hg.block i (Nat.lt_of_lt_of_le hi h.size) (fun e => by
      rcases hr i e.symm with h1 | h1
      · exact hn h1
      · omega)).trans (h.block i hi hn)⟩
theorem below {B : Nat} (h : Below B a b) (hB : B = a.heap.size) : Kept Nope a b := ⟨h.os, h.tape, h.output, h.size, fun i hi _ => h.block i (by omega)⟩
theorem toBelow (h : Kept Nope a b) : Below a.heap.size a b := ⟨h.os, h.tape, h.output, h.size, fun i hi => h.block i hi (fun h => h)⟩
theorem cell (h : Kept M a b) {p : Addr} {v : Value} (hc : a.cell? p = some v) (hn : ¬ M p.block) : b.cell? p = some v :=
  (World.cell?_of_block (h.block p.block (World.block_lt_of_cell? a p hc) hn)).trans hc
theorem frozen (h : Kept M a b) {p : Addr} (hlt : p.block < a.heap.size) (hn : ¬ M p.block) : b.frozen? p = a.frozen? p :=
  World.frozen?_of_block (h.block p.block hlt hn)
theorem obj (h : Kept M a b) {k : Nat} {o : Obj} (hc : a.heap[k]? = some o) (hn : ¬ M k) : b.heap[k]? = some o :=
  (h.block k (block_lt hc) hn).trans hc
theorem ofNew (h : Kept M a b) (hM : ∀ i, M i → a.heap.size ≤ i) : Kept Nope a b :=
  h.mono fun i hi hm => by have := hM i hm; omega
end Kept
def Gives (R : Value → World → Prop) : Ending → World → Prop := fun e w' => ∃ x, e = .returned x ∧ R x w'
def Gives2 (R : Value → Value → World → Prop) : Ending → World → Prop := fun e w' => ∃ x y, e = .returned (.tuple #[x, y]) ∧ R x y w'
def Gives3 (R : Value → Value → Value → World → Prop) : Ending → World → Prop := fun e w' => ∃ x y z, e = .returned (.tuple #[x, y, z]) ∧ R x y z w'
def Gives4 (R : Value → Value → Value → Value → World → Prop) : Ending → World → Prop := fun e w' => ∃ x y z u, e = .returned (.tuple #[x, y, z, u]) ∧ R x y z u w'
def Drew (w w' : World) : Prop := ∃ k, w' = w.drewN k
def Blk (w : World) (g : Nat) (t : TypeId) (cs : Array Value) : Prop := w.heap[g]? = some (.cells cs t (0, 0))
namespace Blk
variable {M : Nat → Prop} {w w' : World} {g : Nat} {t : TypeId} {cs : Array Value}
theorem lt (h : Blk w g t cs) : g < w.heap.size := block_lt h
theorem cell (h : Blk w g t cs) (i : Nat) : w.cell? ⟨g, i, none⟩ = cs[i]? := cell_of_row w g i cs t (0, 0) h
theorem frozen (h : Blk w g t cs) (i : Nat) : w.frozen? ⟨g, i, none⟩ = false := by
  unfold Blk at h
  simp [World.frozen?, h]
theorem new (w : World) (t : TypeId) (cs : Array Value) : Blk (w.alloc (.cells cs t)) w.heap.size t cs := heap_alloc_new w _
theorem drew (h : Blk w g t cs) : Blk w.drew g t cs := h
theorem drewN (h : Blk w g t cs) (n : Nat) : Blk (w.drewN n) g t cs := h
theorem alloc (h : Blk w g t cs) (o : Obj) : Blk (w.alloc o) g t cs := (Below.heap_alloc w o g h.lt).trans h
theorem set_ (h : Blk w g t cs) (i : Nat) (u : Value) : Blk (w.setCell ⟨g, i, none⟩ u) g t (cs.setIfInBounds i u) := by
  unfold Blk at h ⊢
  simp [World.setCell, Array.getElem?_modify, h]
theorem far (h : Blk w g t cs) {p : Addr} (hp : g ≠ p.block) (u : Value) : Blk (w.setCell p u) g t cs := (Below.heap_setCell w p u g hp).trans h
theorem kept (h : Blk w g t cs) (hb : Kept M w w') (hg : ¬ M g) : Blk w' g t cs := hb.obj h hg
theorem grown {row : Option Nat} (h : Blk w g t cs) (hb : w.grownBy w' row) (hg : some g ≠ row) : Blk w' g t cs := (hb.block g h.lt hg).trans h
end Blk
def u8 (x : UInt8) : Value := .int .u8 x.toNat
def BSl (S : Nat → Prop) (w : World) (s : Value) (bs : List UInt8) : Prop :=
  ∃ a cap, s = .slice a bs.length cap ∧ bs.length ≤ cap ∧ cap ≤ maxLen ∧
    (bs = [] ∨ ∃ b off, a = some ⟨b, off, none⟩ ∧ S b ∧ ∀ j x, bs[j]? = some x → w.cell? ⟨b, off + j, none⟩ = some (u8 x))
namespace BSl
variable {S S' M : Nat → Prop} {w w' : World} {s : Value} {bs : List UInt8}
theorem keep (h : BSl S w s bs) (hk : Kept M w w') (hS : ∀ b, b < w.heap.size → S b → ¬ M b) : BSl S w' s bs := by
  obtain ⟨a, cap, rfl, hc, hm, h⟩ := h
  refine ⟨a, cap, rfl, hc, hm, ?_⟩
  rcases h with rfl | ⟨b, off, rfl, hb, h⟩
  · exact .inl rfl
  · refine .inr ⟨b, off, rfl, hb, fun j x hx => hk.cell (h j x hx) (hS b ?_ hb)⟩
    exact World.block_lt_of_cell? w _ (h j x hx)
theorem mono (h : BSl S w s bs) (hS : ∀ b, b < w.heap.size → S b → S' b) : BSl S' w s bs := by
  obtain ⟨a, cap, rfl, hc, hm, h⟩ := h
  refine ⟨a, cap, rfl, hc, hm, ?_⟩
  rcases h with rfl | ⟨b, off, rfl, hb, h⟩
  · exact .inl rfl
  · rcases bs with _ | ⟨x, bs⟩
    · exact .inl rfl
    · exact .inr ⟨b, off, rfl, hS b (World.block_lt_of_cell? w _ (h 0 x rfl)) hb, h⟩
theorem nil (a : Option Addr) (cap : Nat) (hc : cap ≤ maxLen) : BSl S w (.slice a 0 cap) [] := ⟨a, cap, rfl, by simp, hc, .inl rfl⟩
end BSl
structure VNum (v : V) : Prop where
  kind : -9223372036854775808 ≤ v.kind ∧ v.kind ≤ 9223372036854775807
  num : 0 ≤ v.num ∧ v.num ≤ 18446744073709551615
  text : v.text.size ≤ maxLen
  of_ : -9223372036854775808 ≤ v.of_ ∧ v.of_ ≤ 9223372036854775807
inductive VSl (S : Nat → Prop) (w : World) : Value → List V → Prop
  | nil (a : Option Addr) (cap : Nat) : cap ≤ maxLen → VSl S w (.slice a 0 cap) []
  | mk (b off cap : Nat) (l : List V) (ks ds : Nat → Value) : S b → 0 < l.length → l.length ≤ cap → cap ≤ maxLen →
      (∀ i v, l[i]? = some v → VNum v ∧ w.cell? ⟨b, off + i * 6, none⟩ = some (.int .i64 v.kind) ∧ w.cell? ⟨b, off + i * 6 + 1, none⟩ = some (.int .u64 v.num) ∧
        w.cell? ⟨b, off + i * 6 + 2, none⟩ = some (.string v.text) ∧ w.cell? ⟨b, off + i * 6 + 3, none⟩ = some (ks i) ∧
        w.cell? ⟨b, off + i * 6 + 4, none⟩ = some (.int .i64 v.of_) ∧ w.cell? ⟨b, off + i * 6 + 5, none⟩ = some (ds i)) →
      (∀ i v, l[i]? = some v → VSl S w (ks i) v.kids) → (∀ i v, l[i]? = some v → VSl S w (ds i) v.desc) →
      VSl S w (.slice (some ⟨b, off, none⟩) l.length cap) l
def vagg (v : V) (ks ds : Value) : Value := .agg #[.int .i64 v.kind, .int .u64 v.num, .string v.text, ks, .int .i64 v.of_, ds]
def VAgg (S : Nat → Prop) (w : World) (x : Value) (v : V) : Prop := ∃ ks ds, x = vagg v ks ds ∧ VNum v ∧ VSl S w ks v.kids ∧ VSl S w ds v.desc
namespace VSl
variable {S S' M : Nat → Prop} {w w' : World} {s : Value} {l : List V}
theorem keep (h : VSl S w s l) (hk : Kept M w w') (hS : ∀ b, b < w.heap.size → S b → ¬ M b) : VSl S w' s l := by
  induction h with
  | nil a cap hc => exact .nil a cap hc
  | mk b off cap l ks ds hb hl hc hm hcell _ _ ihk ihd =>
    have hn : ∀ i v, l[i]? = some v → ¬ M b := fun i v hv => hS b (World.block_lt_of_cell? w _ (hcell i v hv).2.1) hb
    refine .mk b off cap l ks ds hb hl hc hm (fun i v hv => ?_) ihk ihd
    obtain ⟨h0, h1, h2, h3, h4, h5, h6⟩ := hcell i v hv
    have := hn i v hv
    exact ⟨h0, hk.cell h1 this, hk.cell h2 this, hk.cell h3 this, hk.cell h4 this, hk.cell h5 this, hk.cell h6 this⟩
theorem mono (h : VSl S w s l) (hS : ∀ b, b < w.heap.size → S b → S' b) : VSl S' w s l := by
  induction h with
  | nil a cap hc => exact .nil a cap hc
  | mk b off cap l ks ds hb hl hc hm hcell _ _ ihk ihd =>
    obtain ⟨v, hv⟩ : ∃ v, l[0]? = some v := ⟨l[0], List.getElem?_eq_getElem hl⟩
    exact .mk b off cap l ks ds (hS b (World.block_lt_of_cell? w _ (hcell 0 v hv).2.1) hb) hl hc hm hcell ihk ihd
theorem form (h : VSl S w s l) : ∃ a cap, s = .slice a l.length cap ∧ l.length ≤ cap ∧ cap ≤ maxLen := by
  cases h with
  | nil a cap hc => exact ⟨a, cap, rfl, Nat.zero_le _, hc⟩
  | mk b off cap l ks ds hb hl hc hm => exact ⟨_, cap, rfl, hc, hm⟩
theorem at_ (h : VSl S w s l) {i : Nat} {v : V} (hv : l[i]? = some v) : ∃ b off cap ks ds, s = .slice (some ⟨b, off, none⟩) l.length cap ∧ S b ∧ l.length ≤ cap ∧ cap ≤ maxLen ∧ VNum v ∧
      w.cell? ⟨b, off + i * 6, none⟩ = some (.int .i64 v.kind) ∧ w.cell? ⟨b, off + i * 6 + 1, none⟩ = some (.int .u64 v.num) ∧
        w.cell? ⟨b, off + i * 6 + 2, none⟩ = some (.string v.text) ∧ w.cell? ⟨b, off + i * 6 + 3, none⟩ = some ks ∧
        w.cell? ⟨b, off + i * 6 + 4, none⟩ = some (.int .i64 v.of_) ∧ w.cell? ⟨b, off + i * 6 + 5, none⟩ = some ds ∧ VSl S w ks v.kids ∧ VSl S w ds v.desc := by
  cases h with
  | nil a cap hc => simp at hv
  | mk b off cap l ks ds hb hl hc hm hcell hk hd =>
    obtain ⟨h0, h1, h2, h3, h4, h5, h6⟩ := hcell i v hv
    exact ⟨b, off, cap, ks i, ds i, rfl, hb, hc, hm, h0, h1, h2, h3, h4, h5, h6, hk i v hv, hd i v hv⟩
end VSl
namespace VAgg
variable {S S' M : Nat → Prop} {w w' : World} {x : Value} {v : V}
theorem keep (h : VAgg S w x v) (hk : Kept M w w') (hS : ∀ b, b < w.heap.size → S b → ¬ M b) : VAgg S w' x v := by
  obtain ⟨ks, ds, rfl, hn, h1, h2⟩ := h
  exact ⟨ks, ds, rfl, hn, h1.keep hk hS, h2.keep hk hS⟩
theorem mono (h : VAgg S w x v) (hS : ∀ b, b < w.heap.size → S b → S' b) : VAgg S' w x v := by
  obtain ⟨ks, ds, rfl, hn, h1, h2⟩ := h
  exact ⟨ks, ds, rfl, hn, h1.mono hS, h2.mono hS⟩
end VAgg
end Go.Proofs.YtapfahngeaojkaaGreatDoor
namespace Go.Proofs.YtapfahngeaojkaaGreatDoor
open Go Go.RowKit
def CSl (S : Nat → Prop) (w : World) (size : Nat) (s : Value) (n : Nat) (xs : List Value) : Prop :=
  xs.length = n * size ∧ ∃ a cap, s = .slice a n cap ∧ n ≤ cap ∧ cap ≤ maxLen ∧
    (n = 0 ∨ ∃ b off, a = some ⟨b, off, none⟩ ∧ S b ∧ ∀ j u, xs[j]? = some u → w.cell? ⟨b, off + j, none⟩ = some u)
theorem BSl.toC {S : Nat → Prop} {w : World} {s : Value} {bs : List UInt8} (h : BSl S w s bs) : CSl S w 1 s bs.length (bs.map u8) := by
  obtain ⟨a, cap, rfl, hc, hm, h⟩ := h
  refine ⟨by simp, a, cap, rfl, hc, hm, ?_⟩
  rcases h with rfl | ⟨b, off, rfl, hb, h⟩
  · exact .inl rfl
  · refine .inr ⟨b, off, rfl, hb, fun j u hu => ?_⟩
    rw [List.getElem?_map] at hu
    cases hx : bs[j]? with
    | none => rw [hx] at hu; cases hu
    | some x => rw [hx] at hu; simp at hu; subst hu; exact h j x hx
theorem BSl.ofOwn {w : World} {base : Nat} {e : TypeId} {v : Value} {bs : List UInt8} (h : w.ownsRow base e 1 v bs.length (bs.map u8)) : BSl (fun b => v.ownBlock = some b) w v bs := by
  rcases h.2 with ⟨rfl, h0⟩ | ⟨g, cap, cur, rfl, _, hg, hn, hm, _, _⟩
  · have : bs = [] := List.eq_nil_of_length_eq_zero h0
    subst this
    exact BSl.nil _ _ (by simp [maxLen])
  · refine ⟨_, cap, rfl, hn, hm, .inr ⟨g, 0, rfl, rfl, fun j x hx => ?_⟩⟩
    have := h.cells (g := g) rfl j (u8 x) (by rw [List.getElem?_map, hx]; rfl)
    rw [Addr.add_lit] at this
    exact this
theorem BSl.cut {S : Nat → Prop} {w : World} {a : Option Addr} {n c l h : Nat} {bs : List UInt8} (hb : BSl S w (.slice a n c) bs) (hl : l ≤ h) (hh : h ≤ n) :
    BSl S w (.slice (if c = l then a else Option.map (fun x => x.add l) a) (h - l) (c - l)) ((bs.drop l).take (h - l)) := by
  obtain ⟨a', c', e, hc, hm, hb⟩ := hb
  injection e with e1 e2 e3
  subst e1 e2 e3
  have hlen : ((bs.drop l).take (h - l)).length = h - l := by simp; omega
  refine ⟨_, c - l, by rw [hlen], by rw [hlen]; omega, by omega, ?_⟩
  rcases Nat.lt_or_ge l h with hlt | hge
  · rcases hb with rfl | ⟨b, off, rfl, hS, hb⟩
    · simp at hh; omega
    · refine .inr ⟨b, off + l, by rw [if_neg (by omega)]; simp [Addr.add_lit], hS, fun j x hx => ?_⟩
      rw [List.getElem?_take] at hx
      split at hx
      · rw [List.getElem?_drop] at hx
        have := hb _ _ hx
        rw [← Nat.add_assoc] at this
        exact this
      · cases hx
  · left
    apply List.eq_nil_of_length_eq_zero
    omega
theorem BSl.from_ {S : Nat → Prop} {w : World} {a : Option Addr} {n c l : Nat} {bs : List UInt8} (hb : BSl S w (.slice a n c) bs) (hl : l ≤ n) :
    BSl S w (.slice (if c = l then a else Option.map (fun x => x.add l) a) (n - l) (c - l)) (bs.drop l) := by
  have hn : n = bs.length := by obtain ⟨a', c', e, _⟩ := hb; injection e
  have h := hb.cut hl (Nat.le_refl n)
  rwa [List.take_of_length_le (by simp; omega)] at h
theorem BSl.len {S : Nat → Prop} {w : World} {a : Option Addr} {n c : Nat} {bs : List UInt8} (hb : BSl S w (.slice a n c) bs) : n = bs.length ∧ n ≤ c ∧ c ≤ maxLen := by
  obtain ⟨a', c', e, hc, hm, _⟩ := hb
  injection e with e1 e2 e3
  exact ⟨e2, by omega, by omega⟩
theorem BSl.at_ {S : Nat → Prop} {w : World} {s : Value} {bs : List UInt8} (hb : BSl S w s bs) {j : Nat} {x : UInt8} (hx : bs[j]? = some x) :
    ∃ b off c, s = .slice (some ⟨b, off, none⟩) bs.length c ∧ S b ∧ bs.length ≤ c ∧ c ≤ maxLen ∧ w.cell? ⟨b, off + j, none⟩ = some (u8 x) := by
  obtain ⟨a, c, rfl, hc, hm, hb⟩ := hb
  rcases hb with rfl | ⟨b, off, rfl, hS, hb⟩
  · simp at hx
  · exact ⟨b, off, c, rfl, hS, hc, hm, hb j x hx⟩
section
variable {P : Program} (w : World)
theorem run_append_of_nil (base : Nat) (t ty e : TypeId) (i : TypeInfo) (size : Nat) (ht : P.underlying t = some (.slice e)) (hi : P.info? e = some i)
    (v : Value) (n : Nat) (xs : List Value) (hown : w.ownsRow base e size v n xs) (c : Nat) : (Builtin.append_ #[t, t] ty #[v, .slice none 0 c]).run P w = .ok v w := by
  rcases hown.2 with ⟨rfl, rfl⟩ | ⟨g, cap, cur, rfl, _, _, hnc, _⟩
  · simp [Builtin.append_, run_underlying ht, sizeOf, typeInfo, hi, Builtin.lenOf, Builtin.firstCells]
  · simp [Builtin.append_, run_underlying ht, sizeOf, typeInfo, hi, Builtin.lenOf, Builtin.firstCells, hnc, storeCells]
theorem run_append_c (base : Nat) (t ty e : TypeId) (i : TypeInfo) (z : Value) (size bytes : Nat) (ht : P.underlying t = some (.slice e)) (hi : P.info? e = some i) (hz : i.zero = some z)
    (hsize : i.size = size) (hby : i.bytes = bytes) (hzs : z.cells.size = size) (hsz : 0 < size)
    (v : Value) (n : Nat) (xs : List Value) (hown : w.ownsRow base e size v n xs)
    (S : Nat → Prop) (s : Value) (m : Nat) (news : List Value) (hr : CSl S w size s m news) (h1 : ∀ u ∈ news, u.oneCell' = true)
    (h63 : n + m ≤ maxLen) (hbytes : (n + m) * bytes ≤ 140737488355328) (hbase : base ≤ w.heap.size) :
    ∃ v' w', (Builtin.append_ #[t, t] ty #[v, s]).run P w = .ok v' w' ∧ w'.ownsRow base e size v' (n + m) (xs ++ news) ∧ w.grownBy w' v.ownBlock ∧
      (v'.ownBlock = v.ownBlock ∨ v'.ownBlock = some w.heap.size) := by
  obtain ⟨hl, A, c, rfl, _, _, hr⟩ := hr
  have h0 : ∀ ad : Addr, m = 0 → ∀ j u, news[j]? = some u → w.cell? (ad.add j) = some u := by
    intro ad h0 j u hu
    have hn : news = [] := List.eq_nil_of_length_eq_zero (by rw [hl, h0]; simp)
    subst hn
    simp at hu
  rcases A with _ | ad
  · have hm : m = 0 := by
      rcases hr with h0 | ⟨b, off, h, _⟩
      · exact h0
      · cases h
    subst hm
    have hn : news = [] := List.eq_nil_of_length_eq_zero (by rw [hl]; simp)
    subst hn
    exact ⟨v, w, run_append_of_nil w base t ty e i size ht hi v n xs hown c, by simpa using hown, World.grownBy.refl w _, .inl rfl⟩
  · have hcells : ∀ j u, news[j]? = some u → w.cell? (ad.add j) = some u := by
      rcases hr with hm | ⟨b, off, h, _, hc⟩
      · exact h0 ad hm
      · injection h with h
        subst h
        intro j u hu
        rw [Addr.add_lit]
        exact hc j u hu
    obtain ⟨v', w', hrun, h2, h3, _, h5⟩ := run_append_own_at (P := P) w base t ty e i z size bytes ht hi hz hsize hby hzs hsz v n xs hown ad m c news hl hcells h1 h63 hbytes hbase
    exact ⟨v', w', hrun, h2, h3, h5⟩
theorem wp_append_c {o : Oper} {a : Act} {K : Act → World → Prop} {Q : Exit → Act → World → Prop} (s x : Operand) (t : TypeId)
    (ho : o.op = .call { callee := .builtin .append, args := #[s, x], argTypes := #[t, t] })
    (base : Nat) (e : TypeId) (i : TypeInfo) (z : Value) (size bytes : Nat) (ht : P.underlying t = some (.slice e)) (hi : P.info? e = some i) (hz : i.zero = some z)
    (hsize : i.size = size) (hby : i.bytes = bytes) (hzs : z.cells.size = size) (hsz : 0 < size)
    (v : Value) (n : Nat) (xs : List Value) (hs : a.eval s = v) (hown : w.ownsRow base e size v n xs)
    (S : Nat → Prop) (sv : Value) (m : Nat) (news : List Value) (hx : a.eval x = sv) (hr : CSl S w size sv m news) (h1 : ∀ u ∈ news, u.oneCell' = true)
    (h63 : n + m ≤ maxLen) (hbytes : (n + m) * bytes ≤ 140737488355328) (hbase : base ≤ w.heap.size)
    (h : ∀ v' w', w'.ownsRow base e size v' (n + m) (xs ++ news) → w.grownBy w' v.ownBlock → (v'.ownBlock = v.ownBlock ∨ v'.ownBlock = some w.heap.size) → K (a.put o.dst v') w') : o.wp P a w K Q := by
  obtain ⟨v', w', hrun, h2, h3, h4⟩ := run_append_c (P := P) w base t o.type e i z size bytes ht hi hz hsize hby hzs hsz v n xs hown S sv m news hr h1 h63 hbytes hbase
  unfold Oper.wp execOp
  simp only [ho, resolve, invoke, builtin, Sem.run_bind, Sem.run_pure, Result.andThen_ok, List.map_toArray, List.map_cons, List.map_nil, hs, hx, hrun]
  exact h v' w' h2 h3 h4
theorem wpList_append_c {ops : Array Oper} {rest : List Oper} {o : Oper} {a : Act} {Q : Exit → Act → World → Prop} (hgd : o.guard = none) (s x : Operand) (t : TypeId)
    (ho : o.op = .call { callee := .builtin .append, args := #[s, x], argTypes := #[t, t] })
    (base : Nat) (e : TypeId) (i : TypeInfo) (z : Value) (size bytes : Nat) (ht : P.underlying t = some (.slice e)) (hi : P.info? e = some i) (hz : i.zero = some z)
    (hsize : i.size = size) (hby : i.bytes = bytes) (hzs : z.cells.size = size) (hsz : 0 < size)
    (v : Value) (n : Nat) (xs : List Value) (hs : a.eval s = v) (hown : w.ownsRow base e size v n xs)
    (S : Nat → Prop) (sv : Value) (m : Nat) (news : List Value) (hx : a.eval x = sv) (hr : CSl S w size sv m news) (h1 : ∀ u ∈ news, u.oneCell' = true)
    (h63 : n + m ≤ maxLen) (hbytes : (n + m) * bytes ≤ 140737488355328) (hbase : base ≤ w.heap.size)
    (h : ∀ v' w', w'.ownsRow base e size v' (n + m) (xs ++ news) → w.grownBy w' v.ownBlock → (v'.ownBlock = v.ownBlock ∨ v'.ownBlock = some w.heap.size) → wpList P ops Q rest (a.put o.dst v') w') : wpList P ops Q (o :: rest) a w :=
  wpList_plain hgd fun _ hK => wp_append_c w s x t ho base e i z size bytes ht hi hz hsize hby hzs hsz v n xs hs hown S sv m news hx hr h1 h63 hbytes hbase fun v' w' h2 h3 h4 => hK _ _ (h v' w' h2 h3 h4)
end
end Go.Proofs.YtapfahngeaojkaaGreatDoor
