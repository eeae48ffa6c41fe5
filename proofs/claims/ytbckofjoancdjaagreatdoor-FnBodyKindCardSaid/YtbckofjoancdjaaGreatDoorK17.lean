/- The forms of a value as a slice of pieces: a code, and the bytes behind it. append onto rows of bytes and of pieces that are the call's own: the laws for a walk. Package spec: lengthed. -/
import Derived.Test.YtbckofjoancdjaaGreatDoorK7
import Derived.Test.YtbckofjoancdjaaGreatDoorK14
import Derived.Test.YtbckofjoancdjaaGreatDoorK16
import Derived.Deep.RegionHeld3
import Derived.Deep.DrawnRows
import Derived.LoopTactic
import Derived.IntWalk
import Derived.Outline
namespace Go.Proofs.YtbckofjoancdjaaGreatDoor
open Go Go.RowKit Go.Lib
abbrev FL := List (Nat × List UInt8)
def lenForms (short long : Nat) (d : List UInt8) (n : Int) : FL :=
  if n < 0 then (if d.length < 256 then [(short, be 1 d.length ++ d)] else []) ++ [(long, be 4 d.length ++ d)]
  else (if n < 256 ∧ d.length + 1 < 256 then [(short, be 1 (d.length + 1) ++ be 1 n.toNat ++ d)] else []) ++ [(long, be 4 (d.length + 4) ++ be 4 n.toNat ++ d)]
def lenHead (short : Nat) (d : List UInt8) (n : Int) : FL :=
  if n < 0 then (if d.length < 256 then [(short, be 1 d.length ++ d)] else []) else (if n < 256 ∧ d.length + 1 < 256 then [(short, be 1 (d.length + 1) ++ be 1 n.toNat ++ d)] else [])
def lenAt (short long : Nat) (d : List UInt8) (n : Int) (k : Nat) : FL := if k = 0 then [] else if k = 1 then lenHead short d n else lenForms short long d n
theorem lenForms_eq (short long : Nat) (d : List UInt8) (n : Int) : lenForms short long d n = lenHead short d n ++ [(long, if n < 0 then be 4 d.length ++ d else be 4 (d.length + 4) ++ be 4 n.toNat ++ d)] := by
  unfold lenForms lenHead
  split <;> simp
theorem lenAt_one (short long : Nat) (d : List UInt8) (n : Int) : lenAt short long d n 1 = lenHead short d n := by simp [lenAt]
theorem lenAt_two (short long : Nat) (d : List UInt8) (n : Int) : lenAt short long d n 2 = lenForms short long d n := by simp [lenAt]
theorem lenHead_neg (short : Nat) (d : List UInt8) (h : d.length < 256) : lenHead short d (-1) = [(short, be 1 d.length ++ d)] := by simp [lenHead, h]
theorem lenHead_neg' (short : Nat) (d : List UInt8) (h : ¬ d.length < 256) : lenHead short d (-1) = [] := by simp [lenHead]; omega
theorem lenHead_pos (short : Nat) (d : List UInt8) (q : Nat) (h : q < 256) (h2 : d.length + 1 < 256) : lenHead short d q = [(short, be 1 (d.length + 1) ++ be 1 q ++ d)] := by
  unfold lenHead
  rw [if_neg (by omega), if_pos ⟨by omega, h2⟩]
  rfl
theorem lenHead_pos' (short : Nat) (d : List UInt8) (q : Nat) (h : ¬ (q < 256 ∧ d.length + 1 < 256)) : lenHead short d q = [] := by
  unfold lenHead
  rw [if_neg (by omega), if_neg (by omega)]
def numForms (v : V) : FL :=
  (if (v.kind = 4 ∨ v.kind = 5) ∧ v.num = 0 then [(if v.kind = 4 then 0x43 else 0x44, [])] else []) ++
  (if (v.kind = 4 ∨ v.kind = 5) ∧ v.num < 256 then [(if v.kind = 4 then 0x52 else 0x53, be 1 v.num.toNat)] else []) ++
  (if (v.kind = 8 ∨ v.kind = 9) ∧ (v.num < 128 ∨ 18446744073709551488 ≤ v.num) then [(if v.kind = 8 then 0x54 else 0x55, be 1 v.num.toNat)] else []) ++ [(coded v.kind, be (fsz v.kind) v.num.toNat)]
def Forms (v : V) (f : FL) : Prop := (∀ p ∈ f, Form v p.1 p.2 ∧ p.1 < 256) ∧ (∃ d, (coded v.kind, d) ∈ f) ∧ f.length ≤ 3
theorem kind_cases {k : Int} (h : 0 ≤ k ∧ k < 24) : k = 0 ∨ k = 1 ∨ k = 2 ∨ k = 3 ∨ k = 4 ∨ k = 5 ∨ k = 6 ∨ k = 7 ∨ k = 8 ∨ k = 9 ∨ k = 10 ∨ k = 11 ∨ k = 12 ∨ k = 13 ∨ k = 14 ∨ k = 15 ∨ k = 16 ∨ k = 17 ∨ k = 18 ∨ k = 19 ∨ k = 20 ∨ k = 21 ∨ k = 22 ∨ k = 23 := by omega
theorem coded_lt (k : Int) : coded k < 256 := by
  by_cases h : 0 ≤ k ∧ k < 24
  · rcases kind_cases h with rfl | rfl | rfl | rfl | rfl | rfl | rfl | rfl | rfl | rfl | rfl | rfl | rfl | rfl | rfl | rfl | rfl | rfl | rfl | rfl | rfl | rfl | rfl | rfl <;> decide
  · unfold coded
    repeat rw [if_neg (by omega)]
    omega
theorem Forms.num {v : V} (h : numKind v.kind) : Forms v (numForms v) := by
  refine ⟨fun p hp => ?_, ⟨_, by unfold numForms; exact List.mem_append_right _ (List.mem_singleton.2 rfl)⟩, ?_⟩
  · unfold numForms at hp
    rcases List.mem_append.1 hp with hp | hp
    · rcases List.mem_append.1 hp with hp | hp
      · rcases List.mem_append.1 hp with hp | hp
        · split at hp
          · next h1 =>
            rw [List.mem_singleton.1 hp]
            rcases h1 with ⟨h1 | h1, h2⟩
            · rw [if_pos h1]; exact ⟨.uint0 h1 h2, by simp⟩
            · rw [if_neg (by omega)]; exact ⟨.ulong0 h1 h2, by simp⟩
          · cases hp
        · split at hp
          · next h1 =>
            rw [List.mem_singleton.1 hp]
            rcases h1 with ⟨h1 | h1, h2⟩
            · rw [if_pos h1]; exact ⟨.uint1 h1 h2, by simp⟩
            · rw [if_neg (by omega)]; exact ⟨.ulong1 h1 h2, by simp⟩
          · cases hp
      · split at hp
        · next h1 =>
          rw [List.mem_singleton.1 hp]
          rcases h1 with ⟨h1 | h1, h2⟩
          · rw [if_pos h1]; exact ⟨.int1 h1 h2, by simp⟩
          · rw [if_neg (by omega)]; exact ⟨.long1 h1 h2, by simp⟩
        · cases hp
    · rw [List.mem_singleton.1 hp]
      exact ⟨.full h, coded_lt _⟩
  · unfold numForms
    by_cases h1 : v.kind = 8 ∨ v.kind = 9
    · rw [if_neg (by omega), if_neg (by omega)]
      split <;> simp
    · rw [if_neg (c := (v.kind = 8 ∨ v.kind = 9) ∧ _) (fun h => h1 h.1)]
      repeat' split
      all_goals simp
theorem lenForms_len (a b : Nat) (d : List UInt8) (n : Int) : (lenForms a b d n).length ≤ 2 := by
  unfold lenForms
  split <;> split <;> simp
theorem lenAt_len (a b : Nat) (d : List UInt8) (n : Int) (k : Nat) : (lenAt a b d n k).length ≤ 2 := by
  unfold lenAt
  split
  · simp
  · split
    · unfold lenHead
      repeat' split
      all_goals simp
    · exact lenForms_len a b d n
theorem Forms.text {v : V} {a b : Nat} (h : v.kind = 18 ∨ v.kind = 19 ∨ v.kind = 20) (ha : a = tcode v.kind) (hb : b = coded v.kind) : Forms v (lenForms a b (bytesOf v.text) (-1)) := by
  have hc : tcode v.kind < 256 := by unfold tcode; split <;> (try split) <;> omega
  subst ha hb
  refine ⟨fun p hp => ?_, ⟨_, by unfold lenForms; rw [if_pos (by omega)]; exact List.mem_append_right _ (List.mem_singleton.2 rfl)⟩, by have := lenForms_len (tcode v.kind) (coded v.kind) (bytesOf v.text) (-1); omega⟩
  unfold lenForms at hp
  rw [if_pos (by omega)] at hp
  rcases List.mem_append.1 hp with hp | hp
  · split at hp
    · next h1 => rw [List.mem_singleton.1 hp]; rw [bytesOf_length] at h1 ⊢; exact ⟨.text1 h h1, hc⟩
    · cases hp
  · rw [List.mem_singleton.1 hp, bytesOf_length]; exact ⟨.text4 h, coded_lt _⟩
theorem Forms.kids {v : V} {a b : Nat} {d : List UInt8} (h : v.kind = 21 ∨ v.kind = 22) (hd : EncL v.kids d) (ha : a = ccode v.kind) (hb : b = coded v.kind) : Forms v (lenForms a b d v.kids.length) := by
  have hc : ccode v.kind < 256 := by unfold ccode; split <;> (try split) <;> omega
  subst ha hb
  refine ⟨fun p hp => ?_, ⟨_, by unfold lenForms; rw [if_neg (by omega)]; exact List.mem_append_right _ (List.mem_singleton.2 rfl)⟩, by have := lenForms_len (ccode v.kind) (coded v.kind) d v.kids.length; omega⟩
  unfold lenForms at hp
  rw [if_neg (by omega)] at hp
  rcases List.mem_append.1 hp with hp | hp
  · split at hp
    · next h1 => rw [List.mem_singleton.1 hp]; exact ⟨.kids1 h hd (by omega) h1.2, hc⟩
    · cases hp
  · rw [List.mem_singleton.1 hp]; exact ⟨.kids4 h hd, coded_lt _⟩
theorem Forms.list0 {v : V} {f : FL} (h : Forms v f) (h2 : f.length ≤ 2) (hk : v.kind = 21) (h0 : v.kids = []) : Forms v ((0x45, []) :: f) := by
  refine ⟨fun p hp => ?_, ?_, by simpa using h2⟩
  · rcases List.mem_cons.1 hp with rfl | hp
    · exact ⟨.list0 hk h0, by simp⟩
    · exact h.1 p hp
  · obtain ⟨d, hd⟩ := h.2.1
    exact ⟨d, List.mem_cons_of_mem _ hd⟩
theorem Forms.arr {v : V} {d : List UInt8} (h : v.kind = 23) (hd : Elems v d) : Forms v (lenForms 0xe0 0xf0 d v.kids.length) := by
  refine ⟨fun p hp => ?_, ⟨_, by unfold lenForms; rw [if_neg (by omega), h]; exact List.mem_append_right _ (List.mem_singleton.2 rfl)⟩, by have := lenForms_len 0xe0 0xf0 d v.kids.length; omega⟩
  unfold lenForms at hp
  rw [if_neg (by omega)] at hp
  rcases List.mem_append.1 hp with hp | hp
  · split at hp
    · next h1 => rw [List.mem_singleton.1 hp]; exact ⟨.array1 h hd (by omega) h1.2, by simp⟩
    · cases hp
  · rw [List.mem_singleton.1 hp]; exact ⟨.array4 h hd, by simp⟩
theorem Form.undesc {v : V} {c : Nat} {d : List UInt8} (h : Form v.bare c d) : Form v c d := by
  have he : ∀ d, Elems v.bare d → Elems v d := fun d h => by
    cases h with
    | plain h1 h2 h3 h4 => exact .plain h1 h2 h3 h4
    | desc h1 h2 h3 h4 => exact .desc h1 h2 h3 h4
  cases h with
  | null h => exact .null h
  | flag h => exact .flag h
  | bool h => exact .bool h
  | full h => exact .full h
  | uint0 h h' => exact .uint0 h h'
  | ulong0 h h' => exact .ulong0 h h'
  | uint1 h h' => exact .uint1 h h'
  | ulong1 h h' => exact .ulong1 h h'
  | int1 h h' => exact .int1 h h'
  | long1 h h' => exact .long1 h h'
  | wide h h' => exact .wide h h'
  | text1 h h' => exact .text1 h h'
  | text4 h => exact .text4 h
  | list0 h h' => exact .list0 h h'
  | kids1 h h1 h2 h3 => exact .kids1 h h1 h2 h3
  | kids4 h h1 => exact .kids4 h h1
  | array1 h h1 h2 h3 => exact .array1 h (he _ h1) h2 h3
  | array4 h h1 => exact .array4 h (he _ h1)
structure Pc where
  code : Nat
  data : List UInt8
  s : Value
def Pc.cells (p : Pc) : List Value := [.int .i64 p.code, p.s]
def Pc.form (p : Pc) : Nat × List UInt8 := (p.code, p.data)
structure PRow (base : Nat) (w : World) (x : Value) (l : List Pc) : Prop where
  own : w.ownsRow base 170 2 x l.length (l.flatMap Pc.cells)
  ok : ∀ p ∈ l, BSl (fun b => base ≤ b ∧ x.ownBlock ≠ some b) w p.s p.data
def PSl (base : Nat) (w : World) (x : Value) (f : FL) : Prop := ∃ l : List Pc, PRow base w x l ∧ l.map Pc.form = f
theorem flatMap_two_len (l : List Pc) : (l.flatMap Pc.cells).length = l.length * 2 := by
  induction l with
  | nil => rfl
  | cons a l ih => rw [List.flatMap_cons, List.length_append, ih]; simp [Pc.cells]; omega
theorem flatMap_two {l : List Pc} {k : Nat} {a : Pc} (h : l[k]? = some a) (m : Nat) (hm : m < 2) : (l.flatMap Pc.cells)[k * 2 + m]? = a.cells[m]? := by
  induction l generalizing k with
  | nil => simp at h
  | cons b l ih =>
    cases k with
    | zero =>
      simp at h
      subst h
      rw [List.flatMap_cons, List.getElem?_append_left (by simp [Pc.cells]; omega)]
      simp
    | succ k =>
      rw [List.flatMap_cons, List.getElem?_append_right (by simp [Pc.cells]; omega)]
      have : (k + 1) * 2 + m - b.cells.length = k * 2 + m := by simp [Pc.cells]; omega
      rw [this]
      exact ih (by simpa using h)
theorem BSl.isSlice {S : Nat → Prop} {w : World} {s : Value} {bs : List UInt8} (h : BSl S w s bs) : s.oneCell' = true := by
  obtain ⟨a, c, rfl, _⟩ := h; rfl
namespace PRow
variable {base : Nat} {w w' : World} {x x' : Value} {l l2 : List Pc}
theorem nil (base : Nat) (w : World) : PRow base w (.slice none 0 0) [] := ⟨World.ownsRow_nil _ _ _ _, fun _ h => by cases h⟩
theorem keep {M : Nat → Prop} (h : PRow base w x l) (hk : Kept M w w') (hM : ∀ b, base ≤ b → ¬ M b) : PRow base w' x l :=
  ⟨ownsRow_keep h.own hk fun k hk => hM k (h.own.lt k hk).1, fun p hp => (h.ok p hp).keep hk fun b _ hb => hM b hb.1⟩
theorem one (h : PRow base w x l) : ∀ u ∈ l.flatMap Pc.cells, u.oneCell' = true := by
  intro u hu
  obtain ⟨p, hp, hu⟩ := List.mem_flatMap.1 hu
  simp only [Pc.cells, List.mem_cons, List.mem_nil_iff, or_false] at hu
  rcases hu with rfl | rfl
  · rfl
  · exact (h.ok p hp).isSlice
theorem app (h : PRow base w x l) (h2 : w'.ownsRow base 170 2 x' (l.length + l2.length) (l.flatMap Pc.cells ++ l2.flatMap Pc.cells)) (hg : w.grownBy w' x.ownBlock)
    (h4 : x'.ownBlock = x.ownBlock ∨ x'.ownBlock = some w.heap.size) (h5 : ∀ p ∈ l2, BSl (fun b => base ≤ b ∧ x.ownBlock ≠ some b) w p.s p.data) : PRow base w' x' (l ++ l2) := by
  refine ⟨by simpa using h2, fun c hc => ?_⟩
  have hk : Kept (fun b => x.ownBlock = some b) w w' := ⟨hg.os, hg.tape, hg.output, hg.size, fun k hk hn => hg.block k hk (fun e => hn e.symm)⟩
  have hcok : BSl (fun b => base ≤ b ∧ x.ownBlock ≠ some b) w c.s c.data := by
    rcases List.mem_append.1 hc with h1 | h1
    · exact h.ok c h1
    · exact h5 c h1
  refine ((hcok.mono (S' := fun b => (base ≤ b ∧ x.ownBlock ≠ some b) ∧ b < w.heap.size) fun b hb hS => ⟨hS, hb⟩).keep hk fun b _ hb hm => hb.1.2 hm).mono fun b _ hb => ⟨hb.1.1, ?_⟩
  rcases h4 with e | e
  · rw [e]; exact hb.1.2
  · rw [e]
    intro e'
    have : w.heap.size = b := by injection e'
    omega
theorem toC (h : PRow base w x l) : CSl (fun b => base ≤ b) w 2 x l.length (l.flatMap Pc.cells) := by
  refine ⟨flatMap_two_len l, ?_⟩
  rcases h.own.2 with ⟨rfl, h0⟩ | ⟨g, cap, cur, rfl, hb, hg, hn, hm, hsz, hcur⟩
  · exact ⟨none, 0, by rw [h0], by omega, by simp [maxLen], .inl h0⟩
  · refine ⟨_, cap, rfl, hn, hm, .inr ⟨g, 0, rfl, hb, fun j u hu => ?_⟩⟩
    have := h.own.cells (g := g) rfl j u hu
    rwa [Addr.add_lit] at this
theorem lit (p : Pc) (hb : base ≤ w.heap.size) (hw : BSl (fun b => base ≤ b) w p.s p.data) : PRow base (w.alloc (.cells #[.int .i64 p.code, p.s] 170)) (.slice (some ⟨w.heap.size, 0, none⟩) 1 1) [p] := by
  refine ⟨?_, fun q hq => ?_⟩
  · exact ⟨rfl, .inr ⟨w.heap.size, 1, #[.int .i64 p.code, p.s], rfl, hb, heap_alloc_new w _, Nat.le_refl _, by simp [maxLen], rfl, by simp [Pc.cells]⟩⟩
  · rw [List.mem_singleton.1 hq]
    refine ((hw.mono (S' := fun b => base ≤ b ∧ b < w.heap.size) fun b hb hS => ⟨hS, hb⟩).keep ((Kept.refl Nope w).alloc _) fun _ _ _ h => h).mono fun b _ hb => ⟨hb.1, ?_⟩
    show some w.heap.size ≠ some b
    intro e
    injection e with e
    omega
end PRow
namespace PSl
variable {base : Nat} {w w' : World} {x : Value} {f : FL}
theorem keep {M : Nat → Prop} (h : PSl base w x f) (hk : Kept M w w') (hM : ∀ b, base ≤ b → ¬ M b) : PSl base w' x f := by
  obtain ⟨l, h1, h2⟩ := h
  exact ⟨l, h1.keep hk hM, h2⟩
theorem mono {base' : Nat} (h : PSl base w x f) (hb : base' ≤ base) : PSl base' w x f := by
  obtain ⟨l, h1, h2⟩ := h
  refine ⟨l, ⟨?_, fun p hp => (h1.ok p hp).mono fun b _ hS => ⟨Nat.le_trans hb hS.1, hS.2⟩⟩, h2⟩
  refine ⟨h1.own.1, ?_⟩
  rcases h1.own.2 with h | ⟨g, cap, cur, e, h3, h4⟩
  · exact .inl h
  · exact .inr ⟨g, cap, cur, e, Nat.le_trans hb h3, h4⟩
theorem form (h : PSl base w x f) : ∃ p c, x = .slice p f.length c ∧ f.length ≤ c ∧ c ≤ maxLen := by
  obtain ⟨l, h1, rfl⟩ := h
  obtain ⟨_, p, c, e, h2, h3, _⟩ := h1.toC
  exact ⟨p, c, by simpa using e, by simpa using h2, h3⟩
theorem at_ (h : PSl base w x f) {i : Nat} {c : Nat} {d : List UInt8} (hi : f[i]? = some (c, d)) : ∃ g cap a n k, x = .slice (some ⟨g, 0, none⟩) f.length cap ∧ f.length ≤ cap ∧ cap ≤ maxLen ∧
    w.cell? ⟨g, i * 2, none⟩ = some (.int .i64 c) ∧ w.cell? ⟨g, i * 2 + 1, none⟩ = some (.slice a n k) ∧ BSl (fun b => base ≤ b) w (.slice a n k) d := by
  obtain ⟨l, h1, rfl⟩ := h
  rw [List.getElem?_map] at hi
  obtain ⟨p, hp, e⟩ := Option.map_eq_some_iff.1 hi
  have hb := h1.ok p (List.mem_of_getElem? hp)
  unfold Pc.form at e
  injection e with e1 e2
  subst e1 e2
  have f0 := flatMap_two hp 0 (by omega)
  have f1 := flatMap_two hp 1 (by omega)
  obtain ⟨ps, n, k, hs⟩ : ∃ a n k, p.s = .slice a n k := by obtain ⟨a, c, e, _⟩ := hb; exact ⟨_, _, _, e⟩
  rcases h1.own.2 with ⟨_, h0⟩ | ⟨g, cap, cur, e, _, hg, hn, hm, _⟩
  · have := (List.getElem?_eq_some_iff.1 hp).1
    omega
  · subst e
    have c0 := h1.own.cells (g := g) rfl _ _ f0
    have c1 := h1.own.cells (g := g) rfl _ _ f1
    rw [Addr.add_lit, Nat.zero_add] at c0 c1
    refine ⟨g, cap, ps, n, k, by simp, by simpa using hn, hm, by simpa using c0, by rw [← hs]; exact c1, ?_⟩
    rw [← hs]
    exact hb.mono fun b _ h => h.1
end PSl
theorem coded_look {k : Int} (h : 0 ≤ k ∧ k < 24) : look codT k = coded k := by
  rcases kind_cases h with rfl | rfl | rfl | rfl | rfl | rfl | rfl | rfl | rfl | rfl | rfl | rfl | rfl | rfl | rfl | rfl | rfl | rfl | rfl | rfl | rfl | rfl | rfl | rfl <;> decide
theorem fsz_look {k : Int} (h : numKind k) : look fixT k = fsz k := by
  have h' : 0 ≤ k ∧ k < 24 := by unfold numKind at h; omega
  rcases kind_cases h' with rfl | rfl | rfl | rfl | rfl | rfl | rfl | rfl | rfl | rfl | rfl | rfl | rfl | rfl | rfl | rfl | rfl | rfl | rfl | rfl | rfl | rfl | rfl | rfl <;> first | decide | (unfold numKind at h; omega)
end Go.Proofs.YtbckofjoancdjaaGreatDoor
namespace Go.Proofs.YtbckofjoancdjaaGreatDoor
open Go Go.RowKit Go.Lib
def OwnB (v : Value) : Nat → Prop := fun b => v.ownBlock = some b
def BRow (base : Nat) (w : World) (x : Value) (bs : List UInt8) : Prop := w.ownsRow base 5 1 x bs.length (bs.map u8)
namespace BRow
variable {base : Nat} {w w' : World} {x : Value} {bs : List UInt8}
theorem nil (base : Nat) (w : World) : BRow base w (.slice none 0 0) [] := World.ownsRow_nil _ _ _ _
theorem keep {M : Nat → Prop} (h : BRow base w x bs) (hk : Kept M w w') (hM : ∀ b, base ≤ b → ¬ M b) : BRow base w' x bs := ownsRow_keep h hk fun k hk => hM k (h.lt k hk).1
theorem nope (h : BRow base w x bs) (hk : Kept Nope w w') : BRow base w' x bs := h.keep hk fun _ _ h => h
theorem form (h : BRow base w x bs) : ∃ p c, x = .slice p bs.length c := ownsRow_form0 h
theorem bsl (h : BRow base w x bs) : BSl (fun b => base ≤ b) w x bs := (BSl.ofOwn h).mono fun b _ hb => (h.lt b hb).1
theorem own (h : BRow base w x bs) : ∀ b, OwnB x b → base ≤ b := fun b hb => (h.lt b hb).1
theorem lit (bs : List UInt8) (hb : base ≤ w.heap.size) (hl : bs.length ≤ maxLen) : BRow base (w.alloc (.cells (bs.map u8).toArray 5)) (.slice (some ⟨w.heap.size, 0, none⟩) bs.length bs.length) bs :=
  ⟨by simp, .inr ⟨w.heap.size, bs.length, (bs.map u8).toArray, rfl, hb, heap_alloc_new w _, Nat.le_refl _, hl, by simp, by simp only [Nat.mul_one]; exact List.take_of_length_le (by simp)⟩⟩
theorem mono {base' : Nat} (h : BRow base w x bs) (hb : base' ≤ base) : BRow base' w x bs := by
  refine ⟨h.1, ?_⟩
  rcases h.2 with h | ⟨g, cap, cur, e, h3, h4⟩
  · exact .inl h
  · exact .inr ⟨g, cap, cur, e, Nat.le_trans hb h3, h4⟩
end BRow
theorem kept_grown {w w' : World} {v : Value} (hg : w.grownBy w' v.ownBlock) : Kept (OwnB v) w w' := ⟨hg.os, hg.tape, hg.output, hg.size, fun k hk hn => hg.block k hk (fun e => hn e.symm)⟩
theorem u8_one (bs : List UInt8) : ∀ u ∈ bs.map u8, u.oneCell' = true := by
  intro u hu
  obtain ⟨x, _, rfl⟩ := List.mem_map.1 hu
  rfl
def AppB (base : Nat) (w : World) (v : Value) (bs : List UInt8) (p : Option Addr) (n c : Nat) (w' : World) : Prop :=
  BRow base w' (.slice p n c) bs ∧ Kept (OwnB v) w w' ∧ ((Value.slice p n c).ownBlock = v.ownBlock ∨ (Value.slice p n c).ownBlock = some w.heap.size)
section
variable {o : Oper} {a : Act} {K : Act → World → Prop} {Q : Exit → Act → World → Prop}
theorem wp_app_b (w : World) (s x : Operand) (ho : o.op = .call { callee := .builtin .append, args := #[s, x], argTypes := #[26, 26] })
    (base : Nat) (v : Value) (bs : List UInt8) (hs : a.eval s = v) (hown : BRow base w v bs) (S : Nat → Prop) (sv : Value) (ds : List UInt8) (hx : a.eval x = sv) (hr : BSl S w sv ds)
    (hl : bs.length + ds.length ≤ 70368744177664) (hb : base ≤ w.heap.size)
    (h : ∀ p c w', AppB base w v (bs ++ ds) p (bs.length + ds.length) c w' → K (a.put o.dst (.slice p (bs.length + ds.length) c)) w') : o.wp Tryz.prog a w K Q := by
  obtain ⟨i1, hi, hz0, hz1, hz2⟩ := info_parts info_u8
  refine wp_append_c w s x 26 ho base 5 i1 _ 1 1 Tryz.underlying26 hi hz0 hz1 hz2 rfl (by omega) v bs.length (bs.map u8) hs hown S sv ds.length _ hx hr.toC (u8_one ds) (by unfold maxLen; omega) (by omega) hb fun v' w' h1 h2 h3 => ?_
  obtain ⟨p, c, rfl⟩ := ownsRow_form0 h1
  refine h p c w' ⟨?_, kept_grown h2, h3⟩
  unfold BRow
  rw [List.length_append, List.map_append]
  exact h1
theorem step_app_b {ops : Array Oper} {E : Prop} (w : World) (s x : Operand) (hgd : o.guard = none) (ho : o.op = .call { callee := .builtin .append, args := #[s, x], argTypes := #[26, 26] })
    (base : Nat) (v : Value) (bs : List UInt8) (hs : a.eval s = v) (hown : BRow base w v bs) (S : Nat → Prop) (sv : Value) (ds : List UInt8) (hx : a.eval x = sv) (hr : BSl S w sv ds)
    (hl : bs.length + ds.length ≤ 70368744177664) (hb : base ≤ w.heap.size)
    (h : ∀ p c w', AppB base w v (bs ++ ds) p (bs.length + ds.length) c w' → K (a.put o.dst (.slice p (bs.length + ds.length) c)) w') : if Region.wanted o (yielded ops a.tmps) = true then Oper.wp Tryz.prog o a w K Q else E := by
  rw [if_pos (by simp [Region.wanted, hgd])]
  exact wp_app_b w s x ho base v bs hs hown S sv ds hx hr hl hb h
theorem wpList_app_b {ops : Array Oper} {rest : List Oper} (w : World) (s x : Operand) (hgd : o.guard = none) (ho : o.op = .call { callee := .builtin .append, args := #[s, x], argTypes := #[26, 26] })
    (base : Nat) (v : Value) (bs : List UInt8) (hs : a.eval s = v) (hown : BRow base w v bs) (S : Nat → Prop) (sv : Value) (ds : List UInt8) (hx : a.eval x = sv) (hr : BSl S w sv ds)
    (hl : bs.length + ds.length ≤ 70368744177664) (hb : base ≤ w.heap.size)
    (h : ∀ p c w', AppB base w v (bs ++ ds) p (bs.length + ds.length) c w' → wpList Tryz.prog ops Q rest (a.put o.dst (.slice p (bs.length + ds.length) c)) w') : wpList Tryz.prog ops Q (o :: rest) a w :=
  wpList_plain hgd fun _ hK => wp_app_b w s x ho base v bs hs hown S sv ds hx hr hl hb fun p c w' h1 => hK _ _ (h p c w' h1)
theorem info_piece : (Tryz.prog.info? 170).map (fun i => (i.zero, i.size, i.bytes)) = some (some (.agg #[.int .i64 0, .slice none 0 0]), 2, 32) := by kernel_rfl
def AppP (base : Nat) (w : World) (v : Value) (l : List Pc) (p : Option Addr) (n c : Nat) (w' : World) : Prop := PRow base w' (.slice p n c) l ∧ Kept (OwnB v) w w'
theorem wp_app_p (w : World) (s x : Operand) (ho : o.op = .call { callee := .builtin .append, args := #[s, x], argTypes := #[167, 167] })
    (base : Nat) (v : Value) (l : List Pc) (hs : a.eval s = v) (hown : PRow base w v l) (S : Nat → Prop) (sv : Value) (l2 : List Pc) (hx : a.eval x = sv) (hr : CSl S w 2 sv l2.length (l2.flatMap Pc.cells)) (h5 : ∀ p ∈ l2, BSl (fun b => base ≤ b ∧ v.ownBlock ≠ some b) w p.s p.data)
    (hl : l.length + l2.length ≤ 1000) (hb : base ≤ w.heap.size)
    (h : ∀ p c w', AppP base w v (l ++ l2) p (l.length + l2.length) c w' → K (a.put o.dst (.slice p (l.length + l2.length) c)) w') : o.wp Tryz.prog a w K Q := by
  obtain ⟨i1, hi, hz0, hz1, hz2⟩ := info_parts info_piece
  refine wp_append_c w s x 167 ho base 170 i1 _ 2 32 Tryz.underlying167 hi hz0 hz1 hz2 rfl (by omega) v l.length (l.flatMap Pc.cells) hs hown.own S sv l2.length _ hx hr ?_ (by unfold maxLen; omega) (by omega) hb fun v' w' h1 h2 h3 => ?_
  · intro u hu
    obtain ⟨p, hp, hu⟩ := List.mem_flatMap.1 hu
    simp only [Pc.cells, List.mem_cons, List.mem_nil_iff, or_false] at hu
    rcases hu with rfl | rfl
    · rfl
    · exact (h5 p hp).isSlice
  · obtain ⟨p, c, rfl⟩ := ownsRow_form0 h1
    exact h p c w' ⟨hown.app h1 h2 h3 h5, kept_grown h2⟩
theorem step_app_p {ops : Array Oper} {E : Prop} (w : World) (s x : Operand) (hgd : o.guard = none) (ho : o.op = .call { callee := .builtin .append, args := #[s, x], argTypes := #[167, 167] })
    (base : Nat) (v : Value) (l : List Pc) (hs : a.eval s = v) (hown : PRow base w v l) (S : Nat → Prop) (sv : Value) (l2 : List Pc) (hx : a.eval x = sv) (hr : CSl S w 2 sv l2.length (l2.flatMap Pc.cells)) (h5 : ∀ p ∈ l2, BSl (fun b => base ≤ b ∧ v.ownBlock ≠ some b) w p.s p.data)
    (hl : l.length + l2.length ≤ 1000) (hb : base ≤ w.heap.size)
    (h : ∀ p c w', AppP base w v (l ++ l2) p (l.length + l2.length) c w' → K (a.put o.dst (.slice p (l.length + l2.length) c)) w') : if Region.wanted o (yielded ops a.tmps) = true then Oper.wp Tryz.prog o a w K Q else E := by
  rw [if_pos (by simp [Region.wanted, hgd])]
  exact wp_app_p w s x ho base v l hs hown S sv l2 hx hr h5 hl hb h
theorem wpList_app_p {ops : Array Oper} {rest : List Oper} (w : World) (s x : Operand) (hgd : o.guard = none) (ho : o.op = .call { callee := .builtin .append, args := #[s, x], argTypes := #[167, 167] })
    (base : Nat) (v : Value) (l : List Pc) (hs : a.eval s = v) (hown : PRow base w v l) (S : Nat → Prop) (sv : Value) (l2 : List Pc) (hx : a.eval x = sv) (hr : CSl S w 2 sv l2.length (l2.flatMap Pc.cells)) (h5 : ∀ p ∈ l2, BSl (fun b => base ≤ b ∧ v.ownBlock ≠ some b) w p.s p.data)
    (hl : l.length + l2.length ≤ 1000) (hb : base ≤ w.heap.size)
    (h : ∀ p c w', AppP base w v (l ++ l2) p (l.length + l2.length) c w' → wpList Tryz.prog ops Q rest (a.put o.dst (.slice p (l.length + l2.length) c)) w') : wpList Tryz.prog ops Q (o :: rest) a w :=
  wpList_plain hgd fun _ hK => wp_app_p w s x ho base v l hs hown S sv l2 hx hr h5 hl hb fun p c w' h1 => hK _ _ (h p c w' h1)
end
theorem CSl.one_piece {W : World} (p : Pc) : CSl Any_ (W.alloc (.cells #[.int .i64 p.code, p.s] 170)) 2 (.slice (some ⟨W.heap.size, 0, none⟩) 1 1) [p].length ([p].flatMap Pc.cells) := by
  refine ⟨rfl, _, 1, rfl, Nat.le_refl _, by decide, .inr ⟨W.heap.size, 0, rfl, trivial, fun j u hu => ?_⟩⟩
  rw [(Blk.new W 170 _).cell, Nat.zero_add]
  simpa [Pc.cells] using hu
end Go.Proofs.YtbckofjoancdjaaGreatDoor
namespace Go.Proofs.YtbckofjoancdjaaGreatDoor
open Go Go.RowKit Go.Lib
attribute [local go_sem ↓] Go.wp_at_zero Go.wp_at_succ
theorem PRow.form {base : Nat} {w : World} {x : Value} {l : List Pc} (h : PRow base w x l) : ∃ p c, x = .slice p l.length c := ownsRow_form0 h.own
theorem one_ok {base g : Nat} {w : World} {x : Value} {c : Nat} {d : List UInt8} {s : Value} {o : Obj} (h : BRow g w s d) (h1 : base ≤ g) (h2 : ∀ b, OwnB x b → b < g) : ∀ p ∈ [(⟨c, d, s⟩ : Pc)], BSl (fun b => base ≤ b ∧ x.ownBlock ≠ some b) (w.alloc o) p.s p.data := fun p hp => by
  rw [List.mem_singleton.1 hp]
  exact (h.bsl.mono (S' := fun b => base ≤ b ∧ x.ownBlock ≠ some b) fun b _ hb => ⟨by omega, fun e => by have := h2 b e; omega⟩).keep ((Kept.refl Nope w).alloc o) fun _ _ _ h => h
set_option maxRecDepth 100000 in
set_option maxHeartbeats 12800000 in
theorem lengthed_ok (short long : Nat) (dv : Value) (d : List UInt8) (n : Int) (w : World) (hd : BSl Any_ w dv d) (hl : d.length ≤ 1073741824) (hn : n = -1 ∨ 0 ≤ n ∧ n ≤ 1000) :
    Calls Tryz.prog 90 #[.int .i64 short, .int .i64 long, dv, .int .i64 n] w (Gives fun x w' => PSl w.heap.size w' x (lenForms short long d n) ∧ Kept Nope w w') := by
  obtain ⟨m, hm⟩ : ∃ m, d.length = m := ⟨_, rfl⟩
  have hd' := hd
  obtain ⟨pd, cd, rfl, _⟩ := hd
  rw [hm] at hl hd' ⊢
  have HD := Lib.hid (And.intro hd' hm)
  clear hd' hm
  have HTL := Lib.hid (lenForms_eq short long d n)
  go_enter Tryz.func90, Tryz.ntmps90
  go_wp2
  have hb0 := Blk.new w 245 #[.int .i64 short, .int .i64 1, .int .i64 long, .int .i64 4]
  have HW := Lib.hid (And.intro ((Kept.refl Nope w).alloc (.cells #[.int .i64 short, .int .i64 1, .int .i64 long, .int .i64 4] 245)) hb0)
  go_loopw [9, 20] (fun o q w' => ∃ (k : Nat) (l : List Pc), (k = 0 ∧ q = .int .i64 0 ∨ k = 1 ∧ q = .int .i64 1 ∨ k = 2 ∧ q = .int .i64 2) ∧ Hid (Kept Nope w w' ∧ Blk w' w.heap.size 245 #[.int .i64 short, .int .i64 1, .int .i64 long, .int .i64 4] ∧ PRow (w.heap.size + 1) w' o l ∧ l.map Pc.form = lenAt short long d n k)) (fun _ q _ => 2 - (RowKit.intOf q).toNat)
  case atStart => exact ⟨0, [], .inl ⟨rfl, rfl⟩, Lib.hid ⟨HW.out.1, HW.out.2, PRow.nil _ _, rfl⟩⟩
  case round =>
    obtain ⟨k, l, hk, HR⟩ := hrel
    obtain ⟨po, co, ho⟩ := HR.out.2.2.1.form
    subst ho
    have hbl := HR.out.2.1
    have b0 := hbl.cell 0
    have b1 := hbl.cell 1
    have b2 := hbl.cell 2
    have b3 := hbl.cell 3
    simp only [List.getElem?_toArray, List.getElem?_cons_zero, List.getElem?_cons_succ] at b0 b1 b2 b3
    have HLL : Hid (l.length ≤ 2) := Lib.hid (by have h := congrArg List.length HR.out.2.2.2; rw [List.length_map] at h; rw [h]; exact lenAt_len _ _ _ _ _)
    clear hbl hb0
    rcases hk with ⟨rfl, rfl⟩ | ⟨rfl, rfl⟩ | ⟨rfl, rfl⟩
    · rcases hn with rfl | hn
      · by_cases hm : m < 256
        · have hmd : (decide ((255 : Int) < (m : Int))) = false := by simp; omega
          have em : IntKind.u64.wrap (m : Int) = (m : Int) := by rw [IntKind.wrap_u64]; omega
          go_wp2
          have hB := (Blk.new wr 245 #[.int .i64 short, .int .i64 1]).alloc (.cells #[] 5)
          have hK := ((Kept.refl Nope wr).alloc (.cells #[.int .i64 short, .int .i64 1] 245)).alloc (.cells #[] 5)
          have hE := BSl.nil (S := Any_) (w := (wr.alloc (.cells #[.int .i64 short, .int .i64 1] 245)).alloc (.cells #[] 5)) (some ⟨wr.heap.size + 1, 0, none⟩) 0 (by simp [maxLen])
          generalize (wr.alloc (.cells #[.int .i64 short, .int .i64 1] 245)).alloc (.cells #[] 5) = W1 at hB hK hE ⊢
          have hlt := hB.lt
          have hwb : w.heap.size + 1 ≤ wr.heap.size := HR.out.2.1.lt
          have hor : ∀ b, OwnB (.slice po l.length co) b → b < wr.heap.size := fun b hb => (HR.out.2.2.1.own.lt b hb).2
          have hwB : wr.heap.size ≤ W1.heap.size := hK.size
          generalize wr.heap.size = B at hB hlt hE hwb hwB hor ⊢
          have hoB : ¬ OwnB (.slice po l.length co) B := fun e => Nat.lt_irrefl B (hor B e)
          have HE := Lib.hid hE
          have HKR := Lib.hid hK
          have HKW := Lib.hid (HR.out.1.trans' hK)
          have HLT : Hid (w.heap.size + 1 ≤ W1.heap.size ∧ ∀ b, OwnB (.slice po l.length co) b → b < W1.heap.size) := Lib.hid ⟨Nat.le_trans hwb hwB, fun b hb => Nat.lt_of_lt_of_le (hor b hb) hwB⟩
          have HM : Hid (∀ w', Kept (OwnB (.slice po l.length co)) W1 w' → w'.cell? ⟨B, 0, none⟩ = some (.int .i64 short) ∧ w'.cell? ⟨B, 1, none⟩ = some (.int .i64 1)) := Lib.hid fun w' h => by have hb := hB.kept h hoB; exact ⟨hb.cell 0, hb.cell 1⟩
          clear hE hK hor hwb hwB hoB hB
          go_region_held3 (fun w' => w'.cell? ⟨B, 0, none⟩ = some (.int .i64 short) ∧ w'.cell? ⟨B, 1, none⟩ = some (.int .i64 1)) (first | exact HM.out _ (Kept.refl _ W1).drew | exact HM.out _ ‹Kept (OwnB (.slice po l.length co)) W1 _› | exact HM.out _ (‹Kept (OwnB (.slice po l.length co)) W1 _›.alloc _)) (first | (go_at_call 96; refine (big_ok _ 1 _ ⟨by omega, by omega⟩ (by omega)).mono ?_; rintro e w2 ⟨x2, rfl, ho2, hk2⟩; obtain ⟨p2, c2, rfl⟩ := ownsRow_form0 ho2; have hN2 := ((Kept.refl Nope W1).drew).trans' hk2; have hS2 := hN2.nope (M := OwnB (.slice po l.length co)); have H2 := Lib.hid (And.intro (show BRow W1.heap.size w2 (.slice p2 1 c2) (be 1 (m)) from by unfold BRow; rw [be_length]; exact ho2) hN2); clear ho2 hk2 hN2) | (refine step_app_b _ (.tmp 59) (.tmp 60) rfl rfl W1.heap.size _ _ rfl H2.out.1 Any_ _ _ rfl (HE.out.keep H2.out.2 (fun _ _ _ h => h)) (by simp <;> omega) H2.out.2.size ?_; intro p3 c3 w3 ha3; have hN3 := H2.out.2.trans ha3.2.1 (fun b hb e => by have := H2.out.1.own b e; omega); have hS3 := hN3.nope (M := OwnB (.slice po l.length co)); have H3 := Lib.hid (And.intro ha3.1 hN3); clear ha3 hN3) | (refine step_app_b _ (.tmp 61) (.tmp 62) rfl rfl W1.heap.size _ _ rfl H3.out.1 Any_ _ _ rfl (HD.out.1.keep (HKW.out.trans' H3.out.2) (fun _ _ _ h => h)) (by have := HD.out.2; simp <;> omega) H3.out.2.size ?_; intro p4 c4 w4 ha4; have hN4 := H3.out.2.trans ha4.2.1 (fun b hb e => by have := H3.out.1.own b e; omega); have hS4 := hN4.nope (M := OwnB (.slice po l.length co)); have H4 := Lib.hid (And.intro ha4.1 hN4); clear ha4 hN4) | (refine step_app_p _ (.tmp 52) (.tmp 65) rfl rfl (w.heap.size + 1) _ l rfl (HR.out.2.2.1.keep ((HKR.out.trans' H4.out.2).alloc _) (fun _ _ h => h)) Any_ _ [⟨short, be 1 (m) ++ [] ++ d, .slice p4 _ c4⟩] rfl (CSl.one_piece (W := w4) _) (one_ok H4.out.1 HLT.out.1 HLT.out.2) (by have := HLL.out; simp <;> omega) (by have h1 := HLT.out.1; have h2 := H4.out.2.size; rw [World.size_alloc]; omega) ?_; intro p5 c5 w5 ha5; have H5 := Lib.hid ha5; have hS5 := ((‹Kept (OwnB (.slice po l.length co)) W1 w4›.alloc _).trans' ha5.2); clear ha5))
          go_wp2
          go_roundw
          case rel =>
            have hK5 := ((HKW.out.trans' H4.out.2).alloc (.cells #[.int .i64 short, .slice p4 _ c4] 170)).trans H5.out.2 (fun b hb e => by have := (HR.out.2.2.1.own.lt b e).1; omega)
            refine ⟨1, _, .inr (.inl ⟨rfl, rfl⟩), Lib.hid ⟨hK5, ((HR.out.2.1.kept (HKR.out.trans' H4.out.2) (fun h => h)).alloc _).kept H5.out.2 (fun e => by have := (HR.out.2.2.1.own.lt _ e).1; omega), H5.out.1, ?_⟩⟩
            rw [List.map_append, HR.out.2.2.2]
            have hm := HD.out.2
            rw [lenAt_one, lenHead_neg short d (by omega)]
            simp [lenAt, Pc.form, hm]
          case measure => simp [RowKit.intOf]
        · have hmd : (decide ((255 : Int) < (m : Int))) = true := by simp; omega
          go_wp2
          go_roundw
          case rel =>
            refine ⟨1, l, .inr (.inl ⟨rfl, rfl⟩), Lib.hid ⟨(HR.out.1.alloc _).alloc _, (HR.out.2.1.alloc _).alloc _, (HR.out.2.2.1.keep (((Kept.refl Nope wr).alloc _).alloc _) (fun _ _ h => h)), ?_⟩⟩
            rw [HR.out.2.2.2]
            have hm := HD.out.2
            rw [lenAt_one, lenHead_neg' short d (by omega)]
            simp [lenAt]
          case measure => simp [RowKit.intOf]
      · obtain ⟨q, rfl⟩ : ∃ q : Nat, n = q := ⟨n.toNat, by omega⟩
        by_cases hq : q < 256
        · have hqd : (decide ((255 : Int) < (q : Int))) = false := by simp; omega
          by_cases hm : m + 1 < 256
          · have hmd : (decide ((255 : Int) < (m : Int) + 1)) = false := by simp; omega
            have ez : IntKind.i64.wrap ((m : Int) + 1) = (m : Int) + 1 := IntWalk.i64_in _ (by omega)
            have em : IntKind.u64.wrap ((m : Int) + 1) = (m : Int) + 1 := by rw [IntKind.wrap_u64]; omega
            have en : IntKind.u64.wrap (q : Int) = (q : Int) := by rw [IntKind.wrap_u64]; omega
            go_wp2
            have hB := (Blk.new wr 245 #[.int .i64 short, .int .i64 1]).alloc (.cells #[] 5)
            have hK := ((Kept.refl Nope wr).alloc (.cells #[.int .i64 short, .int .i64 1] 245)).alloc (.cells #[] 5)
            have hE := BSl.nil (S := Any_) (w := (wr.alloc (.cells #[.int .i64 short, .int .i64 1] 245)).alloc (.cells #[] 5)) (some ⟨wr.heap.size + 1, 0, none⟩) 0 (by simp [maxLen])
            generalize (wr.alloc (.cells #[.int .i64 short, .int .i64 1] 245)).alloc (.cells #[] 5) = W1 at hB hK hE ⊢
            have hlt := hB.lt
            have hwb : w.heap.size + 1 ≤ wr.heap.size := HR.out.2.1.lt
            have hor : ∀ b, OwnB (.slice po l.length co) b → b < wr.heap.size := fun b hb => (HR.out.2.2.1.own.lt b hb).2
            have hwB : wr.heap.size ≤ W1.heap.size := hK.size
            generalize wr.heap.size = B at hB hlt hE hwb hwB hor ⊢
            have hoB : ¬ OwnB (.slice po l.length co) B := fun e => Nat.lt_irrefl B (hor B e)
            have HS0 := Lib.hid (And.intro hB (And.intro hK (And.intro hwb (And.intro hor hwB))))
            have HM : Hid (∀ w', Kept (OwnB (.slice po l.length co)) W1 w' → w'.cell? ⟨B, 0, none⟩ = some (.int .i64 short) ∧ w'.cell? ⟨B, 1, none⟩ = some (.int .i64 1)) := Lib.hid fun w' h => by have hb := hB.kept h hoB; exact ⟨hb.cell 0, hb.cell 1⟩
            clear hB hK hwb hor hwB hE hoB
            go_region_held3 (fun w' => w'.cell? ⟨B, 0, none⟩ = some (.int .i64 short) ∧ w'.cell? ⟨B, 1, none⟩ = some (.int .i64 1)) (first | exact HM.out _ (Kept.refl _ W1).drew | exact HM.out _ ‹Kept (OwnB (.slice po l.length co)) W1 _› | exact HM.out _ (‹Kept (OwnB (.slice po l.length co)) W1 _›.alloc _)) (first | (go_at_call 96; refine (big_ok _ 1 _ ⟨by omega, by omega⟩ (by omega)).mono ?_; rintro e w2 ⟨x2, rfl, ho2, hk2⟩; obtain ⟨p2, c2, rfl⟩ := ownsRow_form0 ho2; have hN2 := ((Kept.refl Nope W1).drew).trans' hk2; have hS2 := hN2.nope (M := OwnB (.slice po l.length co)); have H9 := Lib.hid (And.intro (show BRow W1.heap.size w2 (.slice p2 1 c2) (be 1 (q)) from by unfold BRow; rw [be_length]; exact ho2) hN2); clear ho2 hk2 hN2) | fail)
            have hc9 := (HM.out _ hS2)
            have hd0 := hc9.1
            have hd1 := hc9.2
            clear hc9
            go_wp2
            have hE := H9.out.1.bsl.mono (S' := Any_) fun _ _ _ => trivial
            have hB := HS0.out.1.kept H9.out.2 (fun h => h)
            have hK := HS0.out.2.1.trans' H9.out.2
            have hwb := HS0.out.2.2.1
            have hor := HS0.out.2.2.2.1
            have hwB := Nat.le_trans HS0.out.2.2.2.2 H9.out.2.size
            have hoB : ¬ OwnB (.slice po l.length co) B := fun e => Nat.lt_irrefl B (hor B e)
            clear hS2 HM HS0 H9 hd0 hd1 hlt
            obtain ⟨W0, hW0⟩ : ∃ W0, W0 = W1 := ⟨_, rfl⟩
            clear hW0 W0
            have HE := Lib.hid hE
            have HKR := Lib.hid hK
            have HKW := Lib.hid (HR.out.1.trans' hK)
            have HLT : Hid (w.heap.size + 1 ≤ w2.heap.size ∧ ∀ b, OwnB (.slice po l.length co) b → b < w2.heap.size) := Lib.hid ⟨Nat.le_trans hwb hwB, fun b hb => Nat.lt_of_lt_of_le (hor b hb) hwB⟩
            have HM : Hid (∀ w', Kept (OwnB (.slice po l.length co)) w2 w' → w'.cell? ⟨B, 0, none⟩ = some (.int .i64 short) ∧ w'.cell? ⟨B, 1, none⟩ = some (.int .i64 1)) := Lib.hid fun w' h => by have hb := hB.kept h hoB; exact ⟨hb.cell 0, hb.cell 1⟩
            clear hE hK hor hwb hwB hoB hB
            go_region_held3 (fun w' => w'.cell? ⟨B, 0, none⟩ = some (.int .i64 short) ∧ w'.cell? ⟨B, 1, none⟩ = some (.int .i64 1)) (first | exact HM.out _ (Kept.refl _ w2).drew | exact HM.out _ ‹Kept (OwnB (.slice po l.length co)) w2 _› | exact HM.out _ (‹Kept (OwnB (.slice po l.length co)) w2 _›.alloc _)) (first | (go_at_call 96; refine (big_ok _ 1 _ ⟨by omega, by omega⟩ (by omega)).mono ?_; rintro e w6 ⟨x2, rfl, ho2, hk2⟩; obtain ⟨p2, c2, rfl⟩ := ownsRow_form0 ho2; have hN2 := ((Kept.refl Nope w2).drew).trans' hk2; have hS2 := hN2.nope (M := OwnB (.slice po l.length co)); have H2 := Lib.hid (And.intro (show BRow w2.heap.size w6 (.slice p2 1 c2) (be 1 (m + 1)) from by unfold BRow; rw [be_length]; exact ho2) hN2); clear ho2 hk2 hN2) | (refine step_app_b _ (.tmp 59) (.tmp 60) rfl rfl w2.heap.size _ _ rfl H2.out.1 Any_ _ _ rfl (HE.out.keep H2.out.2 (fun _ _ _ h => h)) (by simp <;> omega) H2.out.2.size ?_; intro p3 c3 w3 ha3; have hN3 := H2.out.2.trans ha3.2.1 (fun b hb e => by have := H2.out.1.own b e; omega); have hS3 := hN3.nope (M := OwnB (.slice po l.length co)); have H3 := Lib.hid (And.intro ha3.1 hN3); clear ha3 hN3) | (refine step_app_b _ (.tmp 61) (.tmp 62) rfl rfl w2.heap.size _ _ rfl H3.out.1 Any_ _ _ rfl (HD.out.1.keep (HKW.out.trans' H3.out.2) (fun _ _ _ h => h)) (by have := HD.out.2; simp <;> omega) H3.out.2.size ?_; intro p4 c4 w4 ha4; have hN4 := H3.out.2.trans ha4.2.1 (fun b hb e => by have := H3.out.1.own b e; omega); have hS4 := hN4.nope (M := OwnB (.slice po l.length co)); have H4 := Lib.hid (And.intro ha4.1 hN4); clear ha4 hN4) | (refine step_app_p _ (.tmp 52) (.tmp 65) rfl rfl (w.heap.size + 1) _ l rfl (HR.out.2.2.1.keep ((HKR.out.trans' H4.out.2).alloc _) (fun _ _ h => h)) Any_ _ [⟨short, be 1 (m + 1) ++ be 1 q ++ d, .slice p4 _ c4⟩] rfl (CSl.one_piece (W := w4) _) (one_ok H4.out.1 HLT.out.1 HLT.out.2) (by have := HLL.out; simp <;> omega) (by have h1 := HLT.out.1; have h2 := H4.out.2.size; rw [World.size_alloc]; omega) ?_; intro p5 c5 w5 ha5; have H5 := Lib.hid ha5; have hS5 := ((‹Kept (OwnB (.slice po l.length co)) w2 w4›.alloc _).trans' ha5.2); clear ha5))
            go_wp2
            go_roundw
            case rel =>
              have hK5 := ((HKW.out.trans' H4.out.2).alloc (.cells #[.int .i64 short, .slice p4 _ c4] 170)).trans H5.out.2 (fun b hb e => by have := (HR.out.2.2.1.own.lt b e).1; omega)
              refine ⟨1, _, .inr (.inl ⟨rfl, rfl⟩), Lib.hid ⟨hK5, ((HR.out.2.1.kept (HKR.out.trans' H4.out.2) (fun h => h)).alloc _).kept H5.out.2 (fun e => by have := (HR.out.2.2.1.own.lt _ e).1; omega), H5.out.1, ?_⟩⟩
              rw [List.map_append, HR.out.2.2.2]
              have hm := HD.out.2
              rw [lenAt_one, lenHead_pos short d q hq (by omega)]
              simp [lenAt, Pc.form, hm]
            case measure => simp [RowKit.intOf]
          · have hmd : (decide ((255 : Int) < (m : Int) + 1)) = true := by simp; omega
            have ez : IntKind.i64.wrap ((m : Int) + 1) = (m : Int) + 1 := IntWalk.i64_in _ (by omega)
            have em : IntKind.u64.wrap ((m : Int) + 1) = (m : Int) + 1 := by rw [IntKind.wrap_u64]; omega
            have en : IntKind.u64.wrap (q : Int) = (q : Int) := by rw [IntKind.wrap_u64]; omega
            go_wp2
            have hB := (Blk.new wr 245 #[.int .i64 short, .int .i64 1]).alloc (.cells #[] 5)
            have hK := ((Kept.refl Nope wr).alloc (.cells #[.int .i64 short, .int .i64 1] 245)).alloc (.cells #[] 5)
            have hE := BSl.nil (S := Any_) (w := (wr.alloc (.cells #[.int .i64 short, .int .i64 1] 245)).alloc (.cells #[] 5)) (some ⟨wr.heap.size + 1, 0, none⟩) 0 (by simp [maxLen])
            generalize (wr.alloc (.cells #[.int .i64 short, .int .i64 1] 245)).alloc (.cells #[] 5) = W1 at hB hK hE ⊢
            have hlt := hB.lt
            have hwb : w.heap.size + 1 ≤ wr.heap.size := HR.out.2.1.lt
            have hor : ∀ b, OwnB (.slice po l.length co) b → b < wr.heap.size := fun b hb => (HR.out.2.2.1.own.lt b hb).2
            have hwB : wr.heap.size ≤ W1.heap.size := hK.size
            generalize wr.heap.size = B at hB hlt hE hwb hwB hor ⊢
            have hoB : ¬ OwnB (.slice po l.length co) B := fun e => Nat.lt_irrefl B (hor B e)
            have HS0 := Lib.hid (And.intro hB (And.intro hK (And.intro hwb (And.intro hor hwB))))
            have HM : Hid (∀ w', Kept (OwnB (.slice po l.length co)) W1 w' → w'.cell? ⟨B, 0, none⟩ = some (.int .i64 short) ∧ w'.cell? ⟨B, 1, none⟩ = some (.int .i64 1)) := Lib.hid fun w' h => by have hb := hB.kept h hoB; exact ⟨hb.cell 0, hb.cell 1⟩
            clear hB hK hwb hor hwB hE hoB
            go_region_held3 (fun w' => w'.cell? ⟨B, 0, none⟩ = some (.int .i64 short) ∧ w'.cell? ⟨B, 1, none⟩ = some (.int .i64 1)) (first | exact HM.out _ (Kept.refl _ W1).drew | exact HM.out _ ‹Kept (OwnB (.slice po l.length co)) W1 _› | exact HM.out _ (‹Kept (OwnB (.slice po l.length co)) W1 _›.alloc _)) (first | (go_at_call 96; refine (big_ok _ 1 _ ⟨by omega, by omega⟩ (by omega)).mono ?_; rintro e w2 ⟨x2, rfl, ho2, hk2⟩; obtain ⟨p2, c2, rfl⟩ := ownsRow_form0 ho2; have hN2 := ((Kept.refl Nope W1).drew).trans' hk2; have hS2 := hN2.nope (M := OwnB (.slice po l.length co)); have H9 := Lib.hid (And.intro (show BRow W1.heap.size w2 (.slice p2 1 c2) (be 1 (q)) from by unfold BRow; rw [be_length]; exact ho2) hN2); clear ho2 hk2 hN2) | fail)
            have hc9 := (HM.out _ hS2)
            have hd0 := hc9.1
            have hd1 := hc9.2
            clear hc9
            go_wp2
            have hE := H9.out.1.bsl.mono (S' := Any_) fun _ _ _ => trivial
            have hB := HS0.out.1.kept H9.out.2 (fun h => h)
            have hK := HS0.out.2.1.trans' H9.out.2
            have hwb := HS0.out.2.2.1
            have hor := HS0.out.2.2.2.1
            have hwB := Nat.le_trans HS0.out.2.2.2.2 H9.out.2.size
            have hoB : ¬ OwnB (.slice po l.length co) B := fun e => Nat.lt_irrefl B (hor B e)
            clear hS2 HM HS0 H9 hd0 hd1 hlt
            obtain ⟨W0, hW0⟩ : ∃ W0, W0 = W1 := ⟨_, rfl⟩
            clear hW0 W0
            go_wp2
            go_roundw
            case rel =>
              refine ⟨1, l, .inr (.inl ⟨rfl, rfl⟩), Lib.hid ⟨HR.out.1.trans' hK, HR.out.2.1.kept hK (fun h => h), (HR.out.2.2.1.keep hK (fun _ _ h => h)), ?_⟩⟩
              rw [HR.out.2.2.2]
              have hm := HD.out.2
              rw [lenAt_one, lenHead_pos' short d q (by omega)]
              simp [lenAt]
            case measure => simp [RowKit.intOf]
        · have hqd : (decide ((255 : Int) < (q : Int))) = true := by simp; omega
          go_wp2
          go_roundw
          case rel =>
            refine ⟨1, l, .inr (.inl ⟨rfl, rfl⟩), Lib.hid ⟨(HR.out.1.alloc _).alloc _, (HR.out.2.1.alloc _).alloc _, (HR.out.2.2.1.keep (((Kept.refl Nope wr).alloc _).alloc _) (fun _ _ h => h)), ?_⟩⟩
            rw [HR.out.2.2.2]
            have hm := HD.out.2
            rw [lenAt_one, lenHead_pos' short d q (by omega)]
            simp [lenAt]
          case measure => simp [RowKit.intOf]
    · rcases hn with rfl | hn
      · have em : IntKind.u64.wrap (m : Int) = (m : Int) := by rw [IntKind.wrap_u64]; omega
        go_wp2
        have hB := (Blk.new wr 245 #[.int .i64 long, .int .i64 4]).alloc (.cells #[] 5)
        have hK := ((Kept.refl Nope wr).alloc (.cells #[.int .i64 long, .int .i64 4] 245)).alloc (.cells #[] 5)
        have hE := BSl.nil (S := Any_) (w := (wr.alloc (.cells #[.int .i64 long, .int .i64 4] 245)).alloc (.cells #[] 5)) (some ⟨wr.heap.size + 1, 0, none⟩) 0 (by simp [maxLen])
        generalize (wr.alloc (.cells #[.int .i64 long, .int .i64 4] 245)).alloc (.cells #[] 5) = W1 at hB hK hE ⊢
        have hlt := hB.lt
        have hwb : w.heap.size + 1 ≤ wr.heap.size := HR.out.2.1.lt
        have hor : ∀ b, OwnB (.slice po l.length co) b → b < wr.heap.size := fun b hb => (HR.out.2.2.1.own.lt b hb).2
        have hwB : wr.heap.size ≤ W1.heap.size := hK.size
        generalize wr.heap.size = B at hB hlt hE hwb hwB hor ⊢
        have hoB : ¬ OwnB (.slice po l.length co) B := fun e => Nat.lt_irrefl B (hor B e)
        have HE := Lib.hid hE
        have HKR := Lib.hid hK
        have HKW := Lib.hid (HR.out.1.trans' hK)
        have HLT : Hid (w.heap.size + 1 ≤ W1.heap.size ∧ ∀ b, OwnB (.slice po l.length co) b → b < W1.heap.size) := Lib.hid ⟨Nat.le_trans hwb hwB, fun b hb => Nat.lt_of_lt_of_le (hor b hb) hwB⟩
        have HM : Hid (∀ w', Kept (OwnB (.slice po l.length co)) W1 w' → w'.cell? ⟨B, 0, none⟩ = some (.int .i64 long) ∧ w'.cell? ⟨B, 1, none⟩ = some (.int .i64 4)) := Lib.hid fun w' h => by have hb := hB.kept h hoB; exact ⟨hb.cell 0, hb.cell 1⟩
        clear hE hK hor hwb hwB hoB hB
        go_region_held3 (fun w' => w'.cell? ⟨B, 0, none⟩ = some (.int .i64 long) ∧ w'.cell? ⟨B, 1, none⟩ = some (.int .i64 4)) (first | exact HM.out _ (Kept.refl _ W1).drew | exact HM.out _ ‹Kept (OwnB (.slice po l.length co)) W1 _› | exact HM.out _ (‹Kept (OwnB (.slice po l.length co)) W1 _›.alloc _)) (first | (go_at_call 96; refine (big_ok _ 4 _ ⟨by omega, by omega⟩ (by omega)).mono ?_; rintro e w2 ⟨x2, rfl, ho2, hk2⟩; obtain ⟨p2, c2, rfl⟩ := ownsRow_form0 ho2; have hN2 := ((Kept.refl Nope W1).drew).trans' hk2; have hS2 := hN2.nope (M := OwnB (.slice po l.length co)); have H2 := Lib.hid (And.intro (show BRow W1.heap.size w2 (.slice p2 4 c2) (be 4 (m)) from by unfold BRow; rw [be_length]; exact ho2) hN2); clear ho2 hk2 hN2) | (refine step_app_b _ (.tmp 59) (.tmp 60) rfl rfl W1.heap.size _ _ rfl H2.out.1 Any_ _ _ rfl (HE.out.keep H2.out.2 (fun _ _ _ h => h)) (by simp <;> omega) H2.out.2.size ?_; intro p3 c3 w3 ha3; have hN3 := H2.out.2.trans ha3.2.1 (fun b hb e => by have := H2.out.1.own b e; omega); have hS3 := hN3.nope (M := OwnB (.slice po l.length co)); have H3 := Lib.hid (And.intro ha3.1 hN3); clear ha3 hN3) | (refine step_app_b _ (.tmp 61) (.tmp 62) rfl rfl W1.heap.size _ _ rfl H3.out.1 Any_ _ _ rfl (HD.out.1.keep (HKW.out.trans' H3.out.2) (fun _ _ _ h => h)) (by have := HD.out.2; simp <;> omega) H3.out.2.size ?_; intro p4 c4 w4 ha4; have hN4 := H3.out.2.trans ha4.2.1 (fun b hb e => by have := H3.out.1.own b e; omega); have hS4 := hN4.nope (M := OwnB (.slice po l.length co)); have H4 := Lib.hid (And.intro ha4.1 hN4); clear ha4 hN4) | (refine step_app_p _ (.tmp 52) (.tmp 65) rfl rfl (w.heap.size + 1) _ l rfl (HR.out.2.2.1.keep ((HKR.out.trans' H4.out.2).alloc _) (fun _ _ h => h)) Any_ _ [⟨long, be 4 (m) ++ [] ++ d, .slice p4 _ c4⟩] rfl (CSl.one_piece (W := w4) _) (one_ok H4.out.1 HLT.out.1 HLT.out.2) (by have := HLL.out; simp <;> omega) (by have h1 := HLT.out.1; have h2 := H4.out.2.size; rw [World.size_alloc]; omega) ?_; intro p5 c5 w5 ha5; have H5 := Lib.hid ha5; have hS5 := ((‹Kept (OwnB (.slice po l.length co)) W1 w4›.alloc _).trans' ha5.2); clear ha5))
        go_wp2
        go_roundw
        case rel =>
          have hK5 := ((HKW.out.trans' H4.out.2).alloc (.cells #[.int .i64 long, .slice p4 _ c4] 170)).trans H5.out.2 (fun b hb e => by have := (HR.out.2.2.1.own.lt b e).1; omega)
          refine ⟨2, _, .inr (.inr ⟨rfl, rfl⟩), Lib.hid ⟨hK5, ((HR.out.2.1.kept (HKR.out.trans' H4.out.2) (fun h => h)).alloc _).kept H5.out.2 (fun e => by have := (HR.out.2.2.1.own.lt _ e).1; omega), H5.out.1, ?_⟩⟩
          rw [List.map_append, HR.out.2.2.2]
          have hm := HD.out.2
          rw [lenAt_one, lenAt_two, HTL.out]
          congr 1
          simp [Pc.form, hm] <;> omega
        case measure => simp [RowKit.intOf]
      · obtain ⟨q, rfl⟩ : ∃ q : Nat, n = q := ⟨n.toNat, by omega⟩
        have ez : IntKind.i64.wrap ((m : Int) + 4) = (m : Int) + 4 := IntWalk.i64_in _ (by omega)
        have em : IntKind.u64.wrap ((m : Int) + 4) = (m : Int) + 4 := by rw [IntKind.wrap_u64]; omega
        have en : IntKind.u64.wrap (q : Int) = (q : Int) := by rw [IntKind.wrap_u64]; omega
        go_wp2
        have hB := (Blk.new wr 245 #[.int .i64 long, .int .i64 4]).alloc (.cells #[] 5)
        have hK := ((Kept.refl Nope wr).alloc (.cells #[.int .i64 long, .int .i64 4] 245)).alloc (.cells #[] 5)
        have hE := BSl.nil (S := Any_) (w := (wr.alloc (.cells #[.int .i64 long, .int .i64 4] 245)).alloc (.cells #[] 5)) (some ⟨wr.heap.size + 1, 0, none⟩) 0 (by simp [maxLen])
        generalize (wr.alloc (.cells #[.int .i64 long, .int .i64 4] 245)).alloc (.cells #[] 5) = W1 at hB hK hE ⊢
        have hlt := hB.lt
        have hwb : w.heap.size + 1 ≤ wr.heap.size := HR.out.2.1.lt
        have hor : ∀ b, OwnB (.slice po l.length co) b → b < wr.heap.size := fun b hb => (HR.out.2.2.1.own.lt b hb).2
        have hwB : wr.heap.size ≤ W1.heap.size := hK.size
        generalize wr.heap.size = B at hB hlt hE hwb hwB hor ⊢
        have hoB : ¬ OwnB (.slice po l.length co) B := fun e => Nat.lt_irrefl B (hor B e)
        have HS0 := Lib.hid (And.intro hB (And.intro hK (And.intro hwb (And.intro hor hwB))))
        have HM : Hid (∀ w', Kept (OwnB (.slice po l.length co)) W1 w' → w'.cell? ⟨B, 0, none⟩ = some (.int .i64 long) ∧ w'.cell? ⟨B, 1, none⟩ = some (.int .i64 4)) := Lib.hid fun w' h => by have hb := hB.kept h hoB; exact ⟨hb.cell 0, hb.cell 1⟩
        clear hB hK hwb hor hwB hE hoB
        go_region_held3 (fun w' => w'.cell? ⟨B, 0, none⟩ = some (.int .i64 long) ∧ w'.cell? ⟨B, 1, none⟩ = some (.int .i64 4)) (first | exact HM.out _ (Kept.refl _ W1).drew | exact HM.out _ ‹Kept (OwnB (.slice po l.length co)) W1 _› | exact HM.out _ (‹Kept (OwnB (.slice po l.length co)) W1 _›.alloc _)) (first | (go_at_call 96; refine (big_ok _ 4 _ ⟨by omega, by omega⟩ (by omega)).mono ?_; rintro e w2 ⟨x2, rfl, ho2, hk2⟩; obtain ⟨p2, c2, rfl⟩ := ownsRow_form0 ho2; have hN2 := ((Kept.refl Nope W1).drew).trans' hk2; have hS2 := hN2.nope (M := OwnB (.slice po l.length co)); have H9 := Lib.hid (And.intro (show BRow W1.heap.size w2 (.slice p2 4 c2) (be 4 (q)) from by unfold BRow; rw [be_length]; exact ho2) hN2); clear ho2 hk2 hN2) | fail)
        have hc9 := (HM.out _ hS2)
        have hd0 := hc9.1
        have hd1 := hc9.2
        clear hc9
        go_wp2
        have hE := H9.out.1.bsl.mono (S' := Any_) fun _ _ _ => trivial
        have hB := HS0.out.1.kept H9.out.2 (fun h => h)
        have hK := HS0.out.2.1.trans' H9.out.2
        have hwb := HS0.out.2.2.1
        have hor := HS0.out.2.2.2.1
        have hwB := Nat.le_trans HS0.out.2.2.2.2 H9.out.2.size
        have hoB : ¬ OwnB (.slice po l.length co) B := fun e => Nat.lt_irrefl B (hor B e)
        clear hS2 HM HS0 H9 hd0 hd1 hlt
        obtain ⟨W0, hW0⟩ : ∃ W0, W0 = W1 := ⟨_, rfl⟩
        clear hW0 W0
        have HE := Lib.hid hE
        have HKR := Lib.hid hK
        have HKW := Lib.hid (HR.out.1.trans' hK)
        have HLT : Hid (w.heap.size + 1 ≤ w2.heap.size ∧ ∀ b, OwnB (.slice po l.length co) b → b < w2.heap.size) := Lib.hid ⟨Nat.le_trans hwb hwB, fun b hb => Nat.lt_of_lt_of_le (hor b hb) hwB⟩
        have HM : Hid (∀ w', Kept (OwnB (.slice po l.length co)) w2 w' → w'.cell? ⟨B, 0, none⟩ = some (.int .i64 long) ∧ w'.cell? ⟨B, 1, none⟩ = some (.int .i64 4)) := Lib.hid fun w' h => by have hb := hB.kept h hoB; exact ⟨hb.cell 0, hb.cell 1⟩
        clear hE hK hor hwb hwB hoB hB
        go_region_held3 (fun w' => w'.cell? ⟨B, 0, none⟩ = some (.int .i64 long) ∧ w'.cell? ⟨B, 1, none⟩ = some (.int .i64 4)) (first | exact HM.out _ (Kept.refl _ w2).drew | exact HM.out _ ‹Kept (OwnB (.slice po l.length co)) w2 _› | exact HM.out _ (‹Kept (OwnB (.slice po l.length co)) w2 _›.alloc _)) (first | (go_at_call 96; refine (big_ok _ 4 _ ⟨by omega, by omega⟩ (by omega)).mono ?_; rintro e w6 ⟨x2, rfl, ho2, hk2⟩; obtain ⟨p2, c2, rfl⟩ := ownsRow_form0 ho2; have hN2 := ((Kept.refl Nope w2).drew).trans' hk2; have hS2 := hN2.nope (M := OwnB (.slice po l.length co)); have H2 := Lib.hid (And.intro (show BRow w2.heap.size w6 (.slice p2 4 c2) (be 4 (m + 4)) from by unfold BRow; rw [be_length]; exact ho2) hN2); clear ho2 hk2 hN2) | (refine step_app_b _ (.tmp 59) (.tmp 60) rfl rfl w2.heap.size _ _ rfl H2.out.1 Any_ _ _ rfl (HE.out.keep H2.out.2 (fun _ _ _ h => h)) (by simp <;> omega) H2.out.2.size ?_; intro p3 c3 w3 ha3; have hN3 := H2.out.2.trans ha3.2.1 (fun b hb e => by have := H2.out.1.own b e; omega); have hS3 := hN3.nope (M := OwnB (.slice po l.length co)); have H3 := Lib.hid (And.intro ha3.1 hN3); clear ha3 hN3) | (refine step_app_b _ (.tmp 61) (.tmp 62) rfl rfl w2.heap.size _ _ rfl H3.out.1 Any_ _ _ rfl (HD.out.1.keep (HKW.out.trans' H3.out.2) (fun _ _ _ h => h)) (by have := HD.out.2; simp <;> omega) H3.out.2.size ?_; intro p4 c4 w4 ha4; have hN4 := H3.out.2.trans ha4.2.1 (fun b hb e => by have := H3.out.1.own b e; omega); have hS4 := hN4.nope (M := OwnB (.slice po l.length co)); have H4 := Lib.hid (And.intro ha4.1 hN4); clear ha4 hN4) | (refine step_app_p _ (.tmp 52) (.tmp 65) rfl rfl (w.heap.size + 1) _ l rfl (HR.out.2.2.1.keep ((HKR.out.trans' H4.out.2).alloc _) (fun _ _ h => h)) Any_ _ [⟨long, be 4 (m + 4) ++ be 4 q ++ d, .slice p4 _ c4⟩] rfl (CSl.one_piece (W := w4) _) (one_ok H4.out.1 HLT.out.1 HLT.out.2) (by have := HLL.out; simp <;> omega) (by have h1 := HLT.out.1; have h2 := H4.out.2.size; rw [World.size_alloc]; omega) ?_; intro p5 c5 w5 ha5; have H5 := Lib.hid ha5; have hS5 := ((‹Kept (OwnB (.slice po l.length co)) w2 w4›.alloc _).trans' ha5.2); clear ha5))
        go_wp2
        go_roundw
        case rel =>
          have hK5 := ((HKW.out.trans' H4.out.2).alloc (.cells #[.int .i64 long, .slice p4 _ c4] 170)).trans H5.out.2 (fun b hb e => by have := (HR.out.2.2.1.own.lt b e).1; omega)
          refine ⟨2, _, .inr (.inr ⟨rfl, rfl⟩), Lib.hid ⟨hK5, ((HR.out.2.1.kept (HKR.out.trans' H4.out.2) (fun h => h)).alloc _).kept H5.out.2 (fun e => by have := (HR.out.2.2.1.own.lt _ e).1; omega), H5.out.1, ?_⟩⟩
          rw [List.map_append, HR.out.2.2.2]
          have hm := HD.out.2
          rw [lenAt_one, lenAt_two, HTL.out]
          congr 1
          simp [Pc.form, hm] <;> omega
        case measure => simp [RowKit.intOf]
    · go_wp2
      go_ret
      exact ⟨_, rfl, PSl.mono ⟨l, HR.out.2.2.1, HR.out.2.2.2⟩ (by omega), HR.out.1⟩
end Go.Proofs.YtbckofjoancdjaaGreatDoor
