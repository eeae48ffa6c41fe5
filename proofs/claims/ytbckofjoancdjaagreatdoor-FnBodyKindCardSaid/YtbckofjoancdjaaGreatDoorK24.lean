/- Package spec: Put: what its proof needs outside the walk. -/
import Derived.StillTailTactics
import Derived.Deep.LoopGhost
import Derived.Deep.DeepCutAuto
import Derived.Test.YtbckofjoancdjaaGreatDoorK23
namespace Go.Proofs.YtbckofjoancdjaaGreatDoor
open Go Go.RowKit Go.Lib
abbrev nulVal : V := .mk 0 0 ⟨#[]⟩ [] 0 []
abbrev nulL : Lay := ⟨nulVal, .slice none 0 0, .slice none 0 0⟩
theorem nulL_ok (S : Nat → Prop) (w : World) : nulL.Ok S w := ⟨⟨by decide, by decide, by decide, by decide⟩, .nil _ _ (by decide), .nil _ _ (by decide)⟩
theorem Row6.at_ {w0 w : World} {M : Nat → Prop} {pa : Option Addr} {m pc : Nat} {l : List Lay} (h : Row6 w0 M w (.slice pa m pc) l) (hm : l.length = m) {k : Nat} {e : Lay} (he : l[k]? = some e) :
    ∃ gp cur, pa = some ⟨gp, 0, none⟩ ∧ w0.heap.size ≤ gp ∧ Blk w gp 92 cur ∧ m * 6 ≤ cur.size ∧ (∀ t u, e.cells[t]? = some u → cur[k * 6 + t]? = some u) := by
  have hlt := (List.getElem?_eq_some_iff.1 he).1
  rcases h.own.2 with ⟨_, h0⟩ | ⟨g, cap, cur, h0, hb, hg, hnc, _, hsz, hcur⟩
  · omega
  · injection h0 with h1
    refine ⟨g, cur, h1, hb, hg, by rw [hsz]; exact Nat.mul_le_mul_right 6 (hm ▸ hnc), fun t u hu => ?_⟩
    have ht : t < 6 := by have := (List.getElem?_eq_some_iff.1 hu).1; simpa [Lay.cells] using this
    have h2 := flatMap_six he t ht
    rw [hu, ← hcur, List.getElem?_take, if_pos (by omega), Array.getElem?_toList] at h2
    exact h2
theorem ownsRow_base {w : World} {b b' : Nat} {e : TypeId} {size n : Nat} {x : Value} {xs : List Value} (h : w.ownsRow b e size x n xs) (hb : b' ≤ b) : w.ownsRow b' e size x n xs := by
  refine ⟨h.1, ?_⟩
  rcases h.2 with hn | ⟨g, cap, cur, rfl, hg, rest⟩
  · exact .inl hn
  · exact .inr ⟨g, cap, cur, rfl, Nat.le_trans hb hg, rest⟩
theorem row_start {w W0 : World} {g P f : Nat} {po : Value} {fs : List (Lay × Lay)} (hk : Kept Nope w W0) (hown : W0.ownsRow w.heap.size 92 6 po (fs.map Prod.fst).length ((fs.map Prod.fst).flatMap Lay.cells)) (hg : w.heap.size ≤ g) (hP : w.heap.size ≤ P)
    (hff : ∀ (k : Nat) (p : Lay × Lay), fs[k]? = some p → p.1.Ok (fun b => b ≠ f) w) : Row6 w (fun bb => bb = g ∨ bb = P ∨ bb = f) W0 po (fs.map Prod.fst) := by
  refine ⟨hown, fun a ha => ?_⟩
  obtain ⟨k, hk1⟩ := List.mem_iff_getElem?.1 ha
  rw [List.getElem?_map] at hk1
  obtain ⟨p, hp, rfl⟩ := Option.map_eq_some_iff.1 hk1
  refine ((hff k p hp).mono (S' := fun b => b ≠ f ∧ b < w.heap.size) fun b h1 h2 => ⟨h2, h1⟩).keep hk (fun _ _ _ h => h) |>.mono fun b _ hb => ⟨fun e => ?_, ?_⟩
  · have := (hown.lt b e).1; omega
  · rintro (rfl | rfl | rfl)
    · omega
    · omega
    · exact hb.1 rfl
theorem Row6.set6 {w0 w : World} {M : Nat → Prop} {g n cap i : Nat} {l : List Lay} {a : Lay} {c0 c1 c2 c3 c4 c5 : Value} (h : Row6 w0 M w (.slice (some ⟨g, 0, none⟩) n cap) l) (hn : l.length = n) (hi : i < n) (ha : a.cells = [c0, c1, c2, c3, c4, c5]) (hok : a.Ok (fun b => b ≠ g ∧ ¬ M b) w) :
    Row6 w0 M ((((((w.setCell ⟨g, i * 6, none⟩ c0).setCell ⟨g, i * 6 + 1, none⟩ c1).setCell ⟨g, i * 6 + 2, none⟩ c2).setCell ⟨g, i * 6 + 3, none⟩ c3).setCell ⟨g, i * 6 + 4, none⟩ c4).setCell ⟨g, i * 6 + 5, none⟩ c5) (.slice (some ⟨g, 0, none⟩) n cap) (l.set i a) := by
  refine ⟨own_set6 hn.symm h.own (by omega) ha, fun x hx => ?_⟩
  have hxo : x.Ok (fun b => b ≠ g ∧ ¬ M b) w := by
    rcases List.mem_or_eq_of_mem_set hx with h1 | h1
    · exact (h.ok x h1).mono fun b _ hb => ⟨fun e => hb.1 (by rw [e]; rfl), hb.2⟩
    · rw [h1]; exact hok
  refine (hxo.keep (six_sets w g (i * 6) c0 c1 c2 c3 c4 c5) (fun b _ hb e => hb.1 e)).mono fun b _ hb => ⟨fun e => hb.1 (Option.some.inj e).symm, hb.2⟩
inductive InsB (w : World) : Lay → Lay → Prop
  | same {e : Lay} : e.v.kind ≠ 23 → InsB w e e
  | sym {b off c : Nat} {s : V} : s.kind = 20 → s.kids = [] → s.desc = [] → VNum s →
      w.cell? ⟨b, off, none⟩ = some (.int .i64 20) → w.cell? ⟨b, off + 1, none⟩ = some (.int .u64 s.num) → w.cell? ⟨b, off + 2, none⟩ = some (.string s.text) → w.cell? ⟨b, off + 3, none⟩ = some (.slice none 0 0) → w.cell? ⟨b, off + 4, none⟩ = some (.int .i64 s.of_) → w.cell? ⟨b, off + 5, none⟩ = some (.slice none 0 0) →
      InsB w (Lay.mk (.mk 23 0 ⟨#[]⟩ [s] 0 []) (.slice (some ⟨b, off, none⟩) 1 c) (.slice none 0 0)) (Lay.mk s (.slice none 0 0) (.slice none 0 0))
theorem insB_or {w : World} {e r : Lay} (h : InsB w e r) : (r = e ∧ e.v.kind ≠ 23) ∨ ∃ (b off c : Nat) (s : V), e = Lay.mk (.mk 23 0 ⟨#[]⟩ [s] 0 []) (.slice (some ⟨b, off, none⟩) 1 c) (.slice none 0 0) ∧ r = Lay.mk s (.slice none 0 0) (.slice none 0 0) ∧ s.kind = 20 ∧ s.kids = [] ∧ s.desc = [] ∧ VNum s ∧
      w.cell? ⟨b, off, none⟩ = some (.int .i64 20) ∧ w.cell? ⟨b, off + 1, none⟩ = some (.int .u64 s.num) ∧ w.cell? ⟨b, off + 2, none⟩ = some (.string s.text) ∧ w.cell? ⟨b, off + 3, none⟩ = some (.slice none 0 0) ∧ w.cell? ⟨b, off + 4, none⟩ = some (.int .i64 s.of_) ∧ w.cell? ⟨b, off + 5, none⟩ = some (.slice none 0 0) := by
  cases h with
  | same h => exact .inl ⟨rfl, h⟩
  | sym h1 h2 h3 h4 h5 h6 h7 h8 h9 ha => exact .inr ⟨_, _, _, _, rfl, rfl, h1, h2, h3, h4, h5, h6, h7, h8, h9, ha⟩
def Eld (p : Lay × Lay) : Prop := p.1.v.kind ≠ 0 ∧ p.2.v.kind ≠ 0 ∧ Same p.1.v p.2.v
def Outs (w : World) (p : Lay × Lay) (r : Lay) : Prop := (Eld p ∧ r = nulL) ∨ (¬ Eld p ∧ InsB w p.1 r)
theorem mid_len {fs : List (Lay × Lay)} {rs : List Lay} {m k : Nat} (hm : fs.length = m) (hr : rs.length = fs.length) (hk : k ≤ m) : (rs.take k ++ (fs.map Prod.fst).drop k).length = m := by
  rw [List.length_append, List.length_take, List.length_drop, List.length_map]; omega
theorem mid_at {fs : List (Lay × Lay)} {rs : List Lay} {k : Nat} {p : Lay × Lay} (hr : rs.length = fs.length) (hp : fs[k]? = some p) : (rs.take k ++ (fs.map Prod.fst).drop k)[k]? = some p.1 := by
  have hlt := (List.getElem?_eq_some_iff.1 hp).1
  rw [List.getElem?_append_right (by rw [List.length_take]; omega), List.length_take, List.getElem?_drop, Nat.min_eq_left (by omega), Nat.sub_self, Nat.add_zero, List.getElem?_map, hp]; rfl
theorem mid_set {fs : List (Lay × Lay)} {rs : List Lay} {k : Nat} {r : Lay} (hr : rs.length = fs.length) (hp : rs[k]? = some r) (e : Lay) : ((rs.take k ++ (fs.map Prod.fst).drop k).set k e).set k r = rs.take (k + 1) ++ (fs.map Prod.fst).drop (k + 1) := by
  have hlt := (List.getElem?_eq_some_iff.1 hp).1
  rw [List.set_set]
  apply List.ext_getElem?
  intro j
  rw [List.getElem?_set]
  simp only [List.length_append, List.length_take, List.length_drop, List.length_map]
  by_cases hj : k = j
  · subst hj
    rw [if_pos rfl, if_pos (by omega), List.getElem?_append_left (by rw [List.length_take]; omega), List.getElem?_take, if_pos (by omega), hp]
  · rw [if_neg hj]
    by_cases h2 : j < k
    · rw [List.getElem?_append_left (by rw [List.length_take]; omega), List.getElem?_append_left (by rw [List.length_take]; omega), List.getElem?_take, List.getElem?_take, if_pos h2, if_pos (by omega)]
    · rw [List.getElem?_append_right (by rw [List.length_take]; omega), List.getElem?_append_right (by rw [List.length_take]; omega), List.length_take, List.length_take, List.getElem?_drop, List.getElem?_drop]
      congr 1; omega
theorem mid_set_same {l : List Lay} {k : Nat} {e : Lay} (h : l[k]? = some e) : l.set k e = l := by
  apply List.ext_getElem?
  intro j
  rw [List.getElem?_set]
  by_cases hj : k = j
  · subst hj; rw [if_pos rfl, h, if_pos (List.getElem?_eq_some_iff.1 h).1]
  · rw [if_neg hj]
theorem VSl.one_blk {S : Nat → Prop} {w : World} {g : Nat} {c : Int} (hc : 0 < c ∧ c < 256) (h : Blk w g 92 #[.int .i64 5, .int .u64 c, .string ⟨#[]⟩, .slice none 0 0, .int .i64 0, .slice none 0 0]) (hS : S g) : VSl S w (.slice (some ⟨g, 0, none⟩) 1 1) [.mk 5 c ⟨#[]⟩ [] 0 []] := by
  refine .mk g 0 1 [.mk 5 c ⟨#[]⟩ [] 0 []] (fun _ => .slice none 0 0) (fun _ => .slice none 0 0) hS (by simp) (by simp) (by decide) (fun i v hv => ?_) (fun i v hv => ?_) (fun i v hv => ?_)
  all_goals
    cases i with
    | succ i => simp at hv
    | zero =>
      simp at hv
      subst hv
      first
        | exact ⟨⟨by simp, by simp; omega, by show (⟨#[]⟩ : ByteArray).size ≤ maxLen; decide, by simp⟩, by simpa using h.cell 0, by simpa using h.cell 1, by simpa using h.cell 2, by simpa using h.cell 3, by simpa using h.cell 4, by simpa using h.cell 5⟩
        | exact .nil _ _ (by decide)
end Go.Proofs.YtbckofjoancdjaaGreatDoor
