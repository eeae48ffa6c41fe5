/- WORDS FOR MEMORY: values of MessagePack as structs of five cells, slices of them, rows of one's own. Arguments: what a value of MessagePack that comes in is (a tree), what a slice of bytes is. -/
import Derived.Test.YtapfahngeaojkaaGreatDoorProg
import Derived.WalkKit
import Derived.WalkSpells
import Derived.WalkLawsBesides
import Derived.BigQuiet
import Derived.KernelRfl
import Derived.Deep.QuietTactic
import Derived.StillTailTactics
import Derived.Lib.Hide
import Derived.Lib.EndianBits
import Derived.Deep.DeepMust
import Derived.Deep.DeepFit
import Derived.LoopTactic
import Derived.IntWalk
import Derived.Outline
import Derived.Test.YtapfahngeaojkaaGreatDoorK2
import Derived.ChangeArms
import Derived.Deep.Slices
import Derived.WideKeyArgs
import Derived.Carry
namespace Go.Proofs.YtapfahngeaojkaaGreatDoor
open Go Go.RowKit Go.Lib
def Any_ : Nat → Prop := fun _ => True
theorem wp_region_tail {P : Program} {id : Nat} {Q : Exit → Act → World → Prop} {a : Act} {w : World} {l : List Oper} (n : Nat) (hm : P.follows .mixedOrders = true) (hB : Region.lexTailB .any l.toArray n = true)
    (h : ∀ K : Act → Prop, (∀ a', wpList P l.toArray Q (l.drop n) a' w.drew → K a') → wpStill P l.toArray w.drew K (l.take n) a) : (Code.region id l.toArray true).wp P Q a w :=
  wp_region_still_tail n hm hB (h _ fun _ h => h)
def KNum (v : V) : Prop := VNum v ∧ v.desc = []
inductive KSl (S : Nat → Prop) (w : World) : Value → List V → Prop
  | nil (a : Option Addr) (cap : Nat) : cap ≤ maxLen → KSl S w (.slice a 0 cap) []
  | mk (b off cap : Nat) (l : List V) (ks : Nat → Value) : S b → 0 < l.length → l.length ≤ cap → cap ≤ maxLen →
      (∀ i v, l[i]? = some v → KNum v ∧ w.cell? ⟨b, off + i * 5, none⟩ = some (.int .i64 v.kind) ∧ w.cell? ⟨b, off + i * 5 + 1, none⟩ = some (.int .u64 v.num) ∧
        w.cell? ⟨b, off + i * 5 + 2, none⟩ = some (.string v.text) ∧ w.cell? ⟨b, off + i * 5 + 3, none⟩ = some (.int .i64 v.of_) ∧ w.cell? ⟨b, off + i * 5 + 4, none⟩ = some (ks i)) →
      (∀ i v, l[i]? = some v → KSl S w (ks i) v.kids) →
      KSl S w (.slice (some ⟨b, off, none⟩) l.length cap) l
def kagg (v : V) (ks : Value) : Value := .agg #[.int .i64 v.kind, .int .u64 v.num, .string v.text, .int .i64 v.of_, ks]
def KAgg (S : Nat → Prop) (w : World) (x : Value) (v : V) : Prop := ∃ ks, x = kagg v ks ∧ KNum v ∧ KSl S w ks v.kids
namespace KSl
variable {S S' M : Nat → Prop} {w w' : World} {s : Value} {l : List V}
theorem keep (h : KSl S w s l) (hk : Kept M w w') (hS : ∀ b, b < w.heap.size → S b → ¬ M b) : KSl S w' s l := by
  induction h with
  | nil a cap hc => exact .nil a cap hc
  | mk b off cap l ks hb hl hc hm hcell _ ihk =>
    have hn : ∀ i v, l[i]? = some v → ¬ M b := fun i v hv => hS b (World.block_lt_of_cell? w _ (hcell i v hv).2.1) hb
    refine .mk b off cap l ks hb hl hc hm (fun i v hv => ?_) ihk
    obtain ⟨h0, h1, h2, h3, h4, h5⟩ := hcell i v hv
    have := hn i v hv
    exact ⟨h0, hk.cell h1 this, hk.cell h2 this, hk.cell h3 this, hk.cell h4 this, hk.cell h5 this⟩
theorem mono (h : KSl S w s l) (hS : ∀ b, b < w.heap.size → S b → S' b) : KSl S' w s l := by
  induction h with
  | nil a cap hc => exact .nil a cap hc
  | mk b off cap l ks hb hl hc hm hcell _ ihk =>
    obtain ⟨v, hv⟩ : ∃ v, l[0]? = some v := ⟨l[0], List.getElem?_eq_getElem hl⟩
    exact .mk b off cap l ks (hS b (World.block_lt_of_cell? w _ (hcell 0 v hv).2.1) hb) hl hc hm hcell ihk
theorem form (h : KSl S w s l) : ∃ a cap, s = .slice a l.length cap ∧ l.length ≤ cap ∧ cap ≤ maxLen := by
  cases h with
  | nil a cap hc => exact ⟨a, cap, rfl, Nat.zero_le _, hc⟩
  | mk b off cap l ks hb hl hc hm => exact ⟨_, cap, rfl, hc, hm⟩
theorem at_ (h : KSl S w s l) {i : Nat} {v : V} (hv : l[i]? = some v) : ∃ b off cap ks, s = .slice (some ⟨b, off, none⟩) l.length cap ∧ S b ∧ l.length ≤ cap ∧ cap ≤ maxLen ∧ KNum v ∧
      w.cell? ⟨b, off + i * 5, none⟩ = some (.int .i64 v.kind) ∧ w.cell? ⟨b, off + i * 5 + 1, none⟩ = some (.int .u64 v.num) ∧
        w.cell? ⟨b, off + i * 5 + 2, none⟩ = some (.string v.text) ∧ w.cell? ⟨b, off + i * 5 + 3, none⟩ = some (.int .i64 v.of_) ∧
        w.cell? ⟨b, off + i * 5 + 4, none⟩ = some ks ∧ KSl S w ks v.kids := by
  cases h with
  | nil a cap hc => simp at hv
  | mk b off cap l ks hb hl hc hm hcell hk =>
    obtain ⟨h0, h1, h2, h3, h4, h5⟩ := hcell i v hv
    exact ⟨b, off, cap, ks i, rfl, hb, hc, hm, h0, h1, h2, h3, h4, h5, hk i v hv⟩
end KSl
namespace KAgg
variable {S S' M : Nat → Prop} {w w' : World} {x : Value} {v : V}
theorem keep (h : KAgg S w x v) (hk : Kept M w w') (hS : ∀ b, b < w.heap.size → S b → ¬ M b) : KAgg S w' x v := by
  obtain ⟨ks, rfl, hn, h1⟩ := h
  exact ⟨ks, rfl, hn, h1.keep hk hS⟩
theorem mono (h : KAgg S w x v) (hS : ∀ b, b < w.heap.size → S b → S' b) : KAgg S' w x v := by
  obtain ⟨ks, rfl, hn, h1⟩ := h
  exact ⟨ks, rfl, hn, h1.mono hS⟩
theorem nope (h : KAgg S w x v) (hk : Kept Nope w w') : KAgg S w' x v := h.keep hk fun _ _ _ h => h
end KAgg
theorem KSl.agg {S : Nat → Prop} {w : World} {s : Value} {l : List V} (h : KSl S w s l) {i : Nat} {v : V} (hv : l[i]? = some v) : ∃ b off cap p c, s = .slice (some ⟨b, off, none⟩) l.length cap ∧ l.length ≤ cap ∧ cap ≤ maxLen ∧ w.cell? ⟨b, off + i * 5, none⟩ = some (.int .i64 v.kind) ∧ w.cell? ⟨b, off + i * 5 + 1, none⟩ = some (.int .u64 v.num) ∧
        w.cell? ⟨b, off + i * 5 + 2, none⟩ = some (.string v.text) ∧ w.cell? ⟨b, off + i * 5 + 3, none⟩ = some (.int .i64 v.of_) ∧ w.cell? ⟨b, off + i * 5 + 4, none⟩ = some (.slice p v.kids.length c) ∧ KAgg S w (kagg v (.slice p v.kids.length c)) v := by
  obtain ⟨b, off, cap, ks, rfl, _, hc, hm, hn, h1, h2, h3, h4, h5, hk⟩ := h.at_ hv
  obtain ⟨p, c, rfl, _, _⟩ := hk.form
  exact ⟨b, off, cap, p, c, rfl, hc, hm, h1, h2, h3, h4, h5, _, rfl, hn, hk⟩
structure KLay where
  v : V
  ks : Value
def KLay.cells (a : KLay) : List Value := [.int .i64 a.v.kind, .int .u64 a.v.num, .string a.v.text, .int .i64 a.v.of_, a.ks]
def KLay.agg (a : KLay) : Value := kagg a.v a.ks
def KLay.Ok (S : Nat → Prop) (w : World) (a : KLay) : Prop := KNum a.v ∧ KSl S w a.ks a.v.kids
theorem KLay.Ok.keep {S M : Nat → Prop} {w w' : World} {a : KLay} (h : a.Ok S w) (hk : Kept M w w') (hS : ∀ b, b < w.heap.size → S b → ¬ M b) : a.Ok S w' := ⟨h.1, h.2.keep hk hS⟩
theorem KLay.Ok.mono {S S' : Nat → Prop} {w : World} {a : KLay} (h : a.Ok S w) (hS : ∀ b, b < w.heap.size → S b → S' b) : a.Ok S' w := ⟨h.1, h.2.mono hS⟩
theorem KLay.Ok.one {S : Nat → Prop} {w : World} {a : KLay} (h : a.Ok S w) : ∀ u ∈ a.cells, u.oneCell' = true := by
  obtain ⟨_, h1⟩ := h
  obtain ⟨p, c, e1, _⟩ := h1.form
  intro u hu
  simp only [KLay.cells, List.mem_cons, List.mem_nil_iff, or_false] at hu
  rcases hu with rfl | rfl | rfl | rfl | rfl
  · rfl
  · rfl
  · rfl
  · rfl
  · rw [e1]; rfl
theorem KAgg.lay {S : Nat → Prop} {w : World} {x : Value} {v : V} (h : KAgg S w x v) : ∃ a : KLay, a.v = v ∧ x = a.agg ∧ a.Ok S w := by
  obtain ⟨ks, rfl, h1, h2⟩ := h
  exact ⟨⟨v, ks⟩, rfl, rfl, h1, h2⟩
theorem flatMap_five {l : List KLay} {k : Nat} {a : KLay} (h : l[k]? = some a) (m : Nat) (hm : m < 5) : (l.flatMap KLay.cells)[k * 5 + m]? = a.cells[m]? := by
  induction l generalizing k with
  | nil => simp at h
  | cons b l ih =>
    cases k with
    | zero =>
      simp at h
      subst h
      rw [List.flatMap_cons, List.getElem?_append_left (by simp [KLay.cells]; omega)]
      simp
    | succ k =>
      rw [List.flatMap_cons, List.getElem?_append_right (by simp [KLay.cells]; omega)]
      have : (k + 1) * 5 + m - b.cells.length = k * 5 + m := by simp [KLay.cells]; omega
      rw [this]
      exact ih (by simpa using h)
theorem KSl.ofOwn {S : Nat → Prop} {w : World} {base : Nat} {e : TypeId} {x : Value} {l : List KLay} (h : w.ownsRow base e 5 x l.length (l.flatMap KLay.cells)) (hS : ∀ b, x.ownBlock = some b → S b) (hok : ∀ a ∈ l, a.Ok S w) : KSl S w x (l.map KLay.v) := by
  rcases h.2 with ⟨rfl, h0⟩ | ⟨g, cap, cur, rfl, hb, hg, hn, hm, hsz, hcur⟩
  · have : l = [] := List.eq_nil_of_length_eq_zero h0
    subst this
    exact .nil _ _ (by simp [maxLen])
  · rcases Nat.eq_zero_or_pos l.length with h0 | h0
    · have : l = [] := List.eq_nil_of_length_eq_zero h0
      subst this
      exact .nil _ _ hm
    · have hcell : ∀ j u, (l.flatMap KLay.cells)[j]? = some u → w.cell? ⟨g, j, none⟩ = some u := fun j u hu => by
        rw [cell_of_row w g j cur e (0, 0) hg]
        rw [← hcur, List.getElem?_take] at hu
        split at hu
        · simpa using hu
        · cases hu
      have := KSl.mk (S := S) (w := w) g 0 cap (l.map KLay.v) (fun i => (l[i]?.map KLay.ks).getD undef) (hS g rfl) (by simpa using h0) (by simpa using hn) hm (fun i v hv => ?_) (fun i v hv => ?_)
      · simpa using this
      · rw [List.getElem?_map] at hv
        obtain ⟨a, ha, rfl⟩ := Option.map_eq_some_iff.1 hv
        have f : ∀ m, m < 5 → ∀ u, a.cells[m]? = some u → w.cell? ⟨g, 0 + i * 5 + m, none⟩ = some u := fun m hm u hu => by
          rw [Nat.zero_add]; exact hcell _ _ (by rw [flatMap_five ha m hm]; exact hu)
        refine ⟨(hok a (List.mem_of_getElem? ha)).1, f 0 (by omega) _ rfl, f 1 (by omega) _ rfl, f 2 (by omega) _ rfl, f 3 (by omega) _ rfl, ?_⟩
        rw [ha]; exact f 4 (by omega) _ rfl
      · rw [List.getElem?_map] at hv
        obtain ⟨a, ha, rfl⟩ := Option.map_eq_some_iff.1 hv
        rw [ha]
        exact (hok a (List.mem_of_getElem? ha)).2
theorem ownsRow_keep {M : Nat → Prop} {w w' : World} {base : Nat} {e : TypeId} {size n : Nat} {x : Value} {xs : List Value} (h : w.ownsRow base e size x n xs) (hk : Kept M w w') (hM : ∀ k, x.ownBlock = some k → ¬ M k) : w'.ownsRow base e size x n xs := by
  refine ⟨h.1, ?_⟩
  rcases h.2 with hn | ⟨g, cap, cur, rfl, hb, hgg, rest⟩
  · exact .inl hn
  · exact .inr ⟨g, cap, cur, rfl, hb, hk.obj hgg (hM g rfl), rest⟩
structure Row5 (w0 : World) (w : World) (x : Value) (l : List KLay) : Prop where
  own : w.ownsRow w0.heap.size 26 5 x l.length (l.flatMap KLay.cells)
  ok : ∀ a ∈ l, a.Ok (fun b => x.ownBlock ≠ some b) w
namespace Row5
variable {w0 w w' : World} {x x' : Value} {l : List KLay}
theorem nil (w0 : World) (w : World) : Row5 w0 w (.slice none 0 0) [] := ⟨World.ownsRow_nil _ _ _ _, fun _ h => by cases h⟩
theorem keep {M' : Nat → Prop} (h : Row5 w0 w x l) (hk : Kept M' w w') (hM : ∀ a ∈ l, a.Ok (fun b => x.ownBlock ≠ some b ∧ ¬ M' b) w) (hx : ∀ k, x.ownBlock = some k → ¬ M' k) : Row5 w0 w' x l :=
  ⟨ownsRow_keep h.own hk hx, fun a ha => ((hM a ha).keep hk fun _ _ hb hm => hb.2 hm).mono fun _ _ hb => hb.1⟩
theorem nope (h : Row5 w0 w x l) (hk : Kept Nope w w') : Row5 w0 w' x l := ⟨ownsRow_keep h.own hk fun _ _ h => h, fun a ha => (h.ok a ha).keep hk fun _ _ _ h => h⟩
theorem push {a : KLay} (h : Row5 w0 w x l) (ha : a.Ok (fun b => x.ownBlock ≠ some b) w) (h2 : w'.ownsRow w0.heap.size 26 5 x' (l.length + 1) (l.flatMap KLay.cells ++ a.cells)) (hg : w.grownBy w' x.ownBlock)
    (h4 : x'.ownBlock = x.ownBlock ∨ x'.ownBlock = some w.heap.size) : Row5 w0 w' x' (l ++ [a]) := by
  refine ⟨by simpa using h2, fun c hc => ?_⟩
  have hk : Kept (fun b => x.ownBlock = some b) w w' := ⟨hg.os, hg.tape, hg.output, hg.size, fun k hk hn => hg.block k hk (fun e => hn e.symm)⟩
  have hcok : c.Ok (fun b => x.ownBlock ≠ some b) w := by
    rcases List.mem_append.1 hc with h1 | h1
    · exact h.ok c h1
    · rw [List.mem_singleton.1 h1]; exact ha
  refine (hcok.mono (S' := fun b => x.ownBlock ≠ some b ∧ b < w.heap.size) fun b hb hS => ⟨hS, hb⟩).keep hk (fun b _ hb hm => hb.1 hm) |>.mono fun b _ hb => ?_
  rcases h4 with e | e
  · rw [e]; exact hb.1
  · rw [e]
    intro e'
    have : w.heap.size = b := by injection e'
    omega
theorem ksl (h : Row5 w0 w x l) : KSl Any_ w x (l.map KLay.v) := KSl.ofOwn h.own (fun _ _ => trivial) fun a ha => (h.ok a ha).mono fun _ _ _ => trivial
theorem form (h : Row5 w0 w x l) : ∃ a cap, x = .slice a l.length cap := by
  rcases h.own.2 with ⟨rfl, e⟩ | ⟨g, cap, cur, rfl, _⟩
  · exact ⟨none, 0, by rw [e]⟩
  · exact ⟨_, _, rfl⟩
end Row5
theorem text_ne {t t' : ByteArray} (h : ¬ t = t') : ¬ t.toList = t'.toList := by
  intro e
  rw [ByteArray.toList_eq, ByteArray.toList_eq] at e
  exact h (by obtain ⟨a⟩ := t; obtain ⟨b⟩ := t'; exact congrArg ByteArray.mk (Array.toList_inj.1 e))
theorem KAgg.drew {S : Nat → Prop} {w : World} {x : Value} {v : V} (h : KAgg S w x v) : KAgg S w.drew x v := h.keep ((Kept.refl Nope w).drew) fun _ _ _ h => h
theorem Blk.two (w : World) (A B : Array Value) (t : TypeId) : Blk ((w.alloc (.cells A t)).alloc (.cells B t)) w.heap.size t A ∧ Blk ((w.alloc (.cells A t)).alloc (.cells B t)) (w.heap.size + 1) t B ∧ Kept Nope w ((w.alloc (.cells A t)).alloc (.cells B t)) := by
  have h := Blk.new (w.alloc (.cells A t)) t B
  rw [World.size_alloc] at h
  exact ⟨(Blk.new w t A).alloc _, h, ((Kept.refl _ _).alloc _).alloc _⟩
def Quiet (x : Value) (w : World) : Ending → World → Prop := fun e w' => e = .returned x ∧ Kept Nope w w'
theorem info_Pack : (Tryz.prog.info? 26).map (fun i => (i.zero, i.size, i.bytes)) = some (some (.agg #[.int .i64 0, .int .u64 0, .string ⟨#[]⟩, .int .i64 0, .slice none 0 0]), 5, 64) := by kernel_rfl
end Go.Proofs.YtapfahngeaojkaaGreatDoor
namespace Go.Proofs.YtapfahngeaojkaaGreatDoor
open Go Go.RowKit Go.Lib
theorem cells_Pack : Tryz.prog.cellsOf 26 = 5 := by kernel_rfl
theorem cells_int : Tryz.prog.cellsOf 3 = 1 := by kernel_rfl
theorem cells_u64 : Tryz.prog.cellsOf 23 = 1 := by kernel_rfl
theorem cells_string : Tryz.prog.cellsOf 9 = 1 := by kernel_rfl
theorem cells_sPack : Tryz.prog.cellsOf 24 = 1 := by kernel_rfl
theorem cells_u8 : Tryz.prog.cellsOf 5 = 1 := by kernel_rfl
theorem wf_i64_le {n : Int} (h : (Lit.int .i64 n).wf = true) : -9223372036854775808 ≤ n ∧ n ≤ 9223372036854775807 := by
  unfold Lit.wf at h
  rw [Bool.and_eq_true, decide_eq_true_eq, decide_eq_true_eq, show IntKind.i64.min = -9223372036854775808 by decide, show IntKind.i64.max = 9223372036854775807 by decide] at h
  exact h
theorem wf_u64_le {n : Int} (h : (Lit.int .u64 n).wf = true) : 0 ≤ n ∧ n ≤ 18446744073709551615 := by
  unfold Lit.wf at h
  rw [Bool.and_eq_true, decide_eq_true_eq, decide_eq_true_eq, show IntKind.u64.min = 0 by decide, show IntKind.u64.max = 18446744073709551615 by decide] at h
  exact h
theorem wf_u8_le {n : Int} (h : (Lit.int .u8 n).wf = true) : 0 ≤ n ∧ n ≤ 255 := by
  unfold Lit.wf at h
  rw [Bool.and_eq_true, decide_eq_true_eq, decide_eq_true_eq, show IntKind.u8.min = 0 by decide, show IntKind.u8.max = 255 by decide] at h
  exact h
def FiveOf (W : World) (cs : List Value) (q : V × Value) : Prop :=
  cs = [.int .i64 q.1.kind, .int .u64 q.1.num, .string q.1.text, .int .i64 q.1.of_, q.2] ∧ KNum q.1 ∧ KSl Any_ W q.2 q.1.kids
instance : Inhabited (V × Value) := ⟨(.mk 0 0 ⟨#[]⟩ [] 0 [], .nilIface)⟩
section
variable {H : Type} {enc : TypeId × Value → H} {W : World} {sp : Nat → Bool}
set_option maxRecDepth 100000 in
theorem ksl_of_trod {fuel : Nat} {s : Value} {x : DataW H × List MemPlace} (h : DataW.trod enc Tryz.prog W 0 sp true fuel 24 [s] = some x)
    (ih : ∀ m cs y, m < fuel → DataW.trod enc Tryz.prog W 0 sp true m 26 cs = some y → ∃ q, FiveOf W cs q) : ∃ l, KSl Any_ W s l := by
  rcases DataW.trod_slice Tryz.underlying24 h with ⟨hcs, _⟩ | ⟨a, len, cap, elems, rest, m, rfl, hcs, _, _, hl, hm, hlen, hel, _, _⟩
  · obtain rfl := (List.cons.inj hcs).1
    exact ⟨[], .nil none 0 (Nat.zero_le _)⟩
  · obtain rfl := (List.cons.inj hcs).1
    have hall : ∀ i, i < len → ∃ q : V × Value, ∃ cs, W.cells? 0 (a.add (i * 5)) 5 = some cs ∧ FiveOf W cs q := fun i hi => by
      have h1 := hel i hi
      rw [List.getElem?_eq_getElem (by omega), cells_Pack] at h1
      obtain ⟨cs, h2, h3⟩ := Option.bind_eq_some_iff.1 h1
      obtain ⟨q, hq⟩ := ih m cs _ (Nat.lt_succ_self m) h3
      exact ⟨q, cs, h2, hq⟩
    obtain ⟨f, hf⟩ := Go.Deep.choose_lt hall
    rcases Nat.eq_zero_or_pos len with rfl | hpos
    · exact ⟨[], .nil _ _ hm⟩
    · obtain ⟨b, off, spot⟩ := a
      have hspot : spot = none := by
        obtain ⟨cs, h1, h2⟩ := hf 0 hpos
        have h3 := (World.cells?_some h1).2.2 0 (by decide)
        rw [h2.1] at h3
        simpa [Addr.add] using World.cell?_spot h3
      subst hspot
      have hlen' : ((List.range len).map fun i => (f i).1).length = len := by simp
      have hget : ∀ i v, ((List.range len).map fun i => (f i).1)[i]? = some v → i < len ∧ v = (f i).1 := fun i v hv => by
        have hi : i < len := by
          have := (List.getElem?_eq_some_iff.1 hv).1
          rwa [hlen'] at this
        refine ⟨hi, ?_⟩
        rw [List.getElem?_map, List.getElem?_range hi] at hv
        exact (Option.some.inj hv).symm
      have key := KSl.mk (S := Any_) (w := W) b off cap ((List.range len).map fun i => (f i).1) (fun i => (f i).2) trivial (by rw [hlen']; exact hpos) (by rw [hlen']; exact hl) hm
        (fun i v hv => by
          obtain ⟨hi, rfl⟩ := hget i v hv
          obtain ⟨cs, h1, h2, h3, _⟩ := hf i hi
          have h4 := (World.cells?_some h1).2.2
          rw [h2] at h4
          have hadd : ∀ j, ((⟨b, off, none⟩ : Addr).add (i * 5)).add j = ⟨b, off + i * 5 + j, none⟩ := fun j => by rw [Addr.add_lit, Addr.add_lit]
          have e0 := h4 0 (by decide)
          have e1 := h4 1 (by decide)
          have e2 := h4 2 (by decide)
          have e3 := h4 3 (by decide)
          have e4 := h4 4 (by decide)
          rw [hadd] at e0 e1 e2 e3 e4
          exact ⟨h3, e0, e1, e2, e3, e4⟩)
        (fun i v hv => by
          obtain ⟨hi, rfl⟩ := hget i v hv
          obtain ⟨cs, h1, h2, h3, h4⟩ := hf i hi
          exact h4)
      rw [hlen'] at key
      exact ⟨_, key⟩
set_option maxRecDepth 100000 in
theorem five_of_trod : ∀ (fuel : Nat) (cs : List Value) (x : DataW H × List MemPlace), DataW.trod enc Tryz.prog W 0 sp true fuel 26 cs = some x → ∃ q, FiveOf W cs q := by
  intro fuel
  induction fuel using Nat.strongRecOn with
  | _ fuel ih =>
    intro cs x h
    obtain ⟨xs, n, rfl, _, hl, hlen, hf⟩ := DataW.trod_struct Tryz.underlying26 h
    rw [cells_Pack] at hl
    match cs, hl with
    | [c0, c1, c2, c3, c4], _ =>
      match xs, hlen with
      | [y0, y1, y2, y3, y4], _ =>
        have f0 : DataW.trod enc Tryz.prog W 0 sp true n 3 [c0] = some y0 := by
          have h := hf 0 _ rfl
          simpa [cells_int] using h
        have f1 : DataW.trod enc Tryz.prog W 0 sp true n 23 [c1] = some y1 := by
          have h := hf 1 _ rfl
          simpa [cells_u64] using h
        have f2 : DataW.trod enc Tryz.prog W 0 sp true n 9 [c2] = some y2 := by
          have h := hf 2 _ rfl
          simpa [cells_string] using h
        have f3 : DataW.trod enc Tryz.prog W 0 sp true n 3 [c3] = some y3 := by
          have h := hf 3 _ rfl
          simpa [cells_int] using h
        have f4 : DataW.trod enc Tryz.prog W 0 sp true n 24 [c4] = some y4 := by
          have h := hf 4 _ rfl
          simpa [cells_sPack] using h
        obtain ⟨k, e0, _, w0⟩ := DataW.trod_int Tryz.underlying3 f0
        obtain ⟨nm, e1, _, w1⟩ := DataW.trod_int Tryz.underlying23 f1
        obtain ⟨t, e2, _, w2⟩ := DataW.trod_string Tryz.underlying9 f2
        obtain ⟨o, e3, _, w3⟩ := DataW.trod_int Tryz.underlying3 f3
        obtain rfl := (List.cons.inj e0).1
        obtain rfl := (List.cons.inj e1).1
        obtain rfl := (List.cons.inj e2).1
        obtain rfl := (List.cons.inj e3).1
        obtain ⟨l, hk⟩ := ksl_of_trod f4 fun m cs y hm hy => ih m (by omega) cs y hy
        exact ⟨(.mk k nm t l o [], c4), rfl, ⟨⟨wf_i64_le w0, wf_u64_le w1, w2, wf_i64_le w3⟩, rfl⟩, hk⟩
set_option maxRecDepth 100000 in
theorem open_Pack {base : Nat} {v : Value} {d : DataW H} {p : List MemPlace} (hval : Value.okWide Tryz.prog W .any base 26 v) (h : DataW.Trod enc Tryz.prog W 0 sp true 26 v d p) : ∃ t : V, KAgg Any_ W v t := by
  unfold Value.okWide at hval
  rw [Tryz.underlying26] at hval
  obtain ⟨cs, rfl, _⟩ := hval
  obtain ⟨fuel, hf⟩ := h
  obtain ⟨q, h1, h2, h3⟩ := five_of_trod _ _ _ hf
  have e : cs.toList = [.int .i64 q.1.kind, .int .u64 q.1.num, .string q.1.text, .int .i64 q.1.of_, q.2] := h1
  obtain ⟨l⟩ := cs
  simp only at e
  subst e
  exact ⟨q.1, q.2, rfl, h2, h3⟩
set_option maxRecDepth 100000 in
theorem open_Bytes {base : Nat} {v : Value} {d : DataW H} {p : List MemPlace} (hval : Value.okWide Tryz.prog W .any base 22 v) (h : DataW.Trod enc Tryz.prog W 0 sp true 22 v d p) : ∃ bs : List UInt8, BSl Any_ W v bs := by
  obtain ⟨a1, len, cap, rfl⟩ := Go.WideShapes.okWide_slice Tryz.underlying22 hval
  obtain ⟨fuel, hf⟩ := h
  rcases DataW.trod_slice Tryz.underlying22 hf with ⟨hcs, _⟩ | ⟨a, len', cap', elems, rest, m, rfl, hcs, _, _, hl, hm, hlen, hel, _, _⟩
  · simp [Value.cells] at hcs
    obtain ⟨rfl, rfl, rfl⟩ := hcs
    exact ⟨[], .nil none 0 (Nat.zero_le _)⟩
  · simp [Value.cells] at hcs
    obtain ⟨rfl, rfl, rfl⟩ := hcs
    have hall : ∀ i, i < len → ∃ z : UInt8, W.cell? (a.add i) = some (u8 z) := fun i hi => by
      have h1 := hel i hi
      rw [List.getElem?_eq_getElem (by omega), cells_u8, Nat.mul_one] at h1
      obtain ⟨cs, h2, h3⟩ := Option.bind_eq_some_iff.1 h1
      obtain ⟨n, rfl, _, hw⟩ := DataW.trod_int Tryz.underlying5 h3
      have h4 := (World.cells?_some h2).2.2 0 (by decide)
      have h5 := wf_u8_le hw
      refine ⟨UInt8.ofNat n.toNat, ?_⟩
      rw [show (a.add i).add 0 = a.add i by simp [Addr.add]] at h4
      rw [h4]
      simp only [List.getElem?_cons_zero, u8]
      congr 2
      simp only [UInt8.toNat_ofNat']
      omega
    obtain ⟨f, hf⟩ := Go.Deep.choose_lt hall
    rcases Nat.eq_zero_or_pos len with rfl | hpos
    · exact ⟨[], .nil _ _ hm⟩
    · obtain ⟨b, off, spot⟩ := a
      have hspot : spot = none := by simpa [Addr.add] using World.cell?_spot (hf 0 hpos)
      subst hspot
      have hlen' : ((List.range len).map f).length = len := by simp
      refine ⟨(List.range len).map f, some ⟨b, off, none⟩, cap, by rw [hlen'], by rw [hlen']; exact hl, hm, .inr ⟨b, off, rfl, trivial, fun j x hj => ?_⟩⟩
      have hj' : j < len := by
        have := (List.getElem?_eq_some_iff.1 hj).1
        rwa [hlen'] at this
      rw [List.getElem?_map, List.getElem?_range hj'] at hj
      obtain rfl := Option.some.inj hj
      have := hf j hj'
      rwa [Addr.add_lit] at this
end
end Go.Proofs.YtapfahngeaojkaaGreatDoor
