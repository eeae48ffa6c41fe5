/- Package impl: valued over a value without parts. Package impl: valued over bytes and over a time. Package impl: valued over a uuid. Slices of values that the code makes itself: a row of six cells an element, known whole. -/
import Derived.Test.YtbckofjoancdjaaGreatDoorK12
namespace Go.Proofs.YtbckofjoancdjaaGreatDoor
open Go Go.RowKit Go.Lib
def vnum (k n : Int) : Value := .agg #[.int .i64 k, .int .u64 n, .string ⟨#[]⟩, .slice none 0 0, .int .i64 0, .slice none 0 0]
def vtext (k : Int) (t : ByteArray) : Value := .agg #[.int .i64 k, .int .u64 0, .string t, .slice none 0 0, .int .i64 0, .slice none 0 0]
def Vd (w : World) (y : Value) : Ending → World → Prop := fun e w' => e = .returned (.tuple #[y, .bool true]) ∧ Kept Nope w w'
end Go.Proofs.YtbckofjoancdjaaGreatDoor
namespace Go.Proofs.YtbckofjoancdjaaGreatDoor
open Go Go.RowKit Go.Lib
def zVal : Array Value := #[.int .i64 0, .int .u64 0, .string ⟨#[]⟩, .slice none 0 0, .int .i64 0, .slice none 0 0]
theorem milli_back (ms : Int) (h0 : -9223372036854775808 ≤ ms) (h1 : ms ≤ 9223372036854775807) : wrap64 (wrap64 (ms / 1000 * 1000) + (ms % 1000 * 1000000).tdiv 1000000) = ms := by
  have hb : (ms % 1000 * 1000000).tdiv 1000000 = ms % 1000 := by rw [Int.tdiv_eq_ediv_of_nonneg (by omega)]; omega
  rw [hb]
  unfold wrap64
  omega
end Go.Proofs.YtbckofjoancdjaaGreatDoor
namespace Go.Proofs.YtbckofjoancdjaaGreatDoor
open Go Go.RowKit Go.Lib
theorem wpList_store_kept {P : Program} {ops : Array Oper} {rest : List Oper} {o : Oper} {a : Act} {w : World} {Q : Exit → Act → World → Prop} (hgd : o.guard = none) (ty : TypeId) (x y : Operand) (ho : o.op = .store ty x y)
    (g : Nat) (cells : Array Value) (hx : a.eval x = .pointer (some ⟨g, 0, none⟩)) (hy : a.eval y = .agg cells)
    (t : TypeId) (old : Array Value) (hg : Blk w g t old) (hi : (P.info? ty).map (·.size) = some cells.size)
    (hold : old.size = cells.size) (h1 : cells.all (·.oneCell') = true)
    (h : ∀ W, Blk W g t cells → Kept (Only g) w W → wpList P ops Q rest (a.put o.dst undef) W) : wpList P ops Q (o :: rest) a w :=
  wpList_store_row hgd ty x y ho g cells hx hy t old hg hi hold h1 (h _ (Blk.setRow_ hg cells) ⟨rfl, rfl, rfl, by simp [World.setRow], fun k _ hk => setRow_other w g k cells hk⟩)
end Go.Proofs.YtbckofjoancdjaaGreatDoor
namespace Go.Proofs.YtbckofjoancdjaaGreatDoor
open Go Go.RowKit Go.Lib
structure Lay where
  v : V
  ks : Value
  ds : Value
def Lay.cells (a : Lay) : List Value := [.int .i64 a.v.kind, .int .u64 a.v.num, .string a.v.text, a.ks, .int .i64 a.v.of_, a.ds]
def Lay.agg (a : Lay) : Value := vagg a.v a.ks a.ds
def Lay.Ok (S : Nat → Prop) (w : World) (a : Lay) : Prop := VNum a.v ∧ VSl S w a.ks a.v.kids ∧ VSl S w a.ds a.v.desc
theorem Lay.Ok.keep {S M : Nat → Prop} {w w' : World} {a : Lay} (h : a.Ok S w) (hk : Kept M w w') (hS : ∀ b, b < w.heap.size → S b → ¬ M b) : a.Ok S w' := ⟨h.1, h.2.1.keep hk hS, h.2.2.keep hk hS⟩
theorem Lay.Ok.mono {S S' : Nat → Prop} {w : World} {a : Lay} (h : a.Ok S w) (hS : ∀ b, b < w.heap.size → S b → S' b) : a.Ok S' w := ⟨h.1, h.2.1.mono hS, h.2.2.mono hS⟩
theorem VAgg.lay {S : Nat → Prop} {w : World} {x : Value} {v : V} (h : VAgg S w x v) : ∃ a : Lay, a.v = v ∧ x = a.agg ∧ a.Ok S w := by
  obtain ⟨ks, ds, rfl, h1, h2, h3⟩ := h
  exact ⟨⟨v, ks, ds⟩, rfl, rfl, h1, h2, h3⟩
theorem flatMap_six {l : List Lay} {k : Nat} {a : Lay} (h : l[k]? = some a) (m : Nat) (hm : m < 6) : (l.flatMap Lay.cells)[k * 6 + m]? = a.cells[m]? := by
  induction l generalizing k with
  | nil => simp at h
  | cons b l ih =>
    cases k with
    | zero =>
      simp at h
      subst h
      rw [List.flatMap_cons, List.getElem?_append_left (by simp [Lay.cells]; omega)]
      simp
    | succ k =>
      rw [List.flatMap_cons, List.getElem?_append_right (by simp [Lay.cells]; omega)]
      have : (k + 1) * 6 + m - b.cells.length = k * 6 + m := by simp [Lay.cells]; omega
      rw [this]
      exact ih (by simpa using h)
theorem VSl.ofOwn {S : Nat → Prop} {w : World} {base : Nat} {e : TypeId} {x : Value} {l : List Lay} (h : w.ownsRow base e 6 x l.length (l.flatMap Lay.cells)) (hS : ∀ b, x.ownBlock = some b → S b) (hok : ∀ a ∈ l, a.Ok S w) : VSl S w x (l.map Lay.v) := by
  rcases h.2 with ⟨rfl, h0⟩ | ⟨g, cap, cur, rfl, hb, hg, hn, hm, hsz, hcur⟩
  · have : l = [] := List.eq_nil_of_length_eq_zero h0
    subst this
    exact .nil _ _ (by simp [maxLen])
  · rcases Nat.eq_zero_or_pos l.length with h0 | h0
    · have : l = [] := List.eq_nil_of_length_eq_zero h0
      subst this
      exact .nil _ _ hm
    · have hcell : ∀ j u, (l.flatMap Lay.cells)[j]? = some u → w.cell? ⟨g, j, none⟩ = some u := fun j u hu => by
        rw [cell_of_row w g j cur e (0, 0) hg]
        rw [← hcur, List.getElem?_take] at hu
        split at hu
        · simpa using hu
        · cases hu
      have := VSl.mk (S := S) (w := w) g 0 cap (l.map Lay.v) (fun i => (l[i]?.map Lay.ks).getD undef) (fun i => (l[i]?.map Lay.ds).getD undef) (hS g rfl) (by simpa using h0) (by simpa using hn) hm (fun i v hv => ?_) (fun i v hv => ?_) (fun i v hv => ?_)
      · simpa using this
      · rw [List.getElem?_map] at hv
        obtain ⟨a, ha, rfl⟩ := Option.map_eq_some_iff.1 hv
        have f : ∀ m, m < 6 → ∀ u, a.cells[m]? = some u → w.cell? ⟨g, 0 + i * 6 + m, none⟩ = some u := fun m hm u hu => by
          rw [Nat.zero_add]; exact hcell _ _ (by rw [flatMap_six ha m hm]; exact hu)
        refine ⟨(hok a (List.mem_of_getElem? ha)).1, f 0 (by omega) _ rfl, f 1 (by omega) _ rfl, f 2 (by omega) _ rfl, ?_, f 4 (by omega) _ rfl, ?_⟩
        · rw [ha]; exact f 3 (by omega) _ rfl
        · rw [ha]; exact f 5 (by omega) _ rfl
      · rw [List.getElem?_map] at hv
        obtain ⟨a, ha, rfl⟩ := Option.map_eq_some_iff.1 hv
        rw [ha]
        exact (hok a (List.mem_of_getElem? ha)).2.1
      · rw [List.getElem?_map] at hv
        obtain ⟨a, ha, rfl⟩ := Option.map_eq_some_iff.1 hv
        rw [ha]
        exact (hok a (List.mem_of_getElem? ha)).2.2
end Go.Proofs.YtbckofjoancdjaaGreatDoor
