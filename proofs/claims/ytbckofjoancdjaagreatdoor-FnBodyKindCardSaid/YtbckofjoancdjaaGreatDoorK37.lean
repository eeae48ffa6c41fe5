/- Package spec: AttachOf at the law's own argument. -/
import Derived.Deep.DeepCutAuto
import Derived.Test.YtbckofjoancdjaaGreatDoorK36
namespace Go.Proofs.YtbckofjoancdjaaGreatDoor
open Go Go.RowKit Go.Lib
theorem maybe8_ex (k : Int) (w : World) : Calls Tryz.prog 38 #[.int .i64 k, .slice none 0 0] w (fun e w' => e = .returned nof ∧ w' = w.alloc (.cells zFld 95)) := by
  go_enter Tryz.func38, Tryz.ntmps38
  go_wp2
  refine bodyPost_ret (results_cell_row (P := Tryz.prog) rfl _ _ w.heap.size 95 _ (0, 0) _ rfl (Blk.new w _ _) Tryz.underlying95 rfl (by kernel_rfl)) rfl ?_
  exact ⟨rfl, rfl⟩
theorem Blk.set_same {w : World} {g : Nat} {T : TypeId} {cs : Array Value} (h : Blk w g T cs) (t : Nat) (v : Value) (hv : cs[t]? = some v) : w.setCell ⟨g, t, none⟩ v = w := by
  have h0 : w.heap[g]? = some (.cells cs T (0, 0)) := h
  have h1 : cs.setIfInBounds t v = cs := by
    apply Array.ext_getElem?
    intro j
    rw [Array.getElem?_setIfInBounds]
    split
    · rename_i e
      subst e
      split
      · exact hv.symm
      · exact (Array.getElem?_eq_none (by omega)).symm
    · rfl
  have h2 : ∀ f : Obj → Obj, f (.cells cs T (0, 0)) = .cells cs T (0, 0) → w.heap.modify g f = w.heap := by
    intro f hf
    apply Array.ext_getElem?
    intro j
    rw [Array.getElem?_modify]
    split
    · rename_i e
      subst e
      rw [h0, Option.map_some, hf]
    · rfl
  unfold World.setCell
  simp only
  rw [h2]
  simp [h1]
structure Four (W C : World) (P : Nat) : Prop where
  kept : Kept Nope W C
  size : W.heap.size = P
  b0 : Blk C P 95 zFld
  b1 : Blk C (P + 1) 95 zFld
  b2 : Blk C (P + 1 + 1) 95 zFld
  b3 : Blk C (P + 1 + 1 + 1) 95 zFld
theorem four_new (W : World) (P : Nat) (h : W.heap.size = P) : Four W ((((W.alloc (.cells zFld 95)).alloc (.cells zFld 95)).alloc (.cells zFld 95)).alloc (.cells zFld 95)) P := by
  have h0 := Blk.new W 95 zFld
  have h1 := Blk.new (W.alloc (.cells zFld 95)) 95 zFld
  have h2 := Blk.new ((W.alloc (.cells zFld 95)).alloc (.cells zFld 95)) 95 zFld
  have h3 := Blk.new (((W.alloc (.cells zFld 95)).alloc (.cells zFld 95)).alloc (.cells zFld 95)) 95 zFld
  simp only [World.size_alloc, h] at h0 h1 h2 h3
  exact ⟨((((Kept.refl Nope W).alloc _).alloc _).alloc _).alloc _, h, ((h0.alloc _).alloc _).alloc _, (h1.alloc _).alloc _, h2.alloc _, h3⟩
abbrev cAttach : List Value := [.int .i64 19, .int .u64 0, .string ⟨#[97]⟩, .slice none 0 0, .int .i64 0, .slice none 0 0, .int .i64 0, .int .u64 0, .string ⟨#[]⟩, .slice none 0 0, .int .i64 0, .slice none 0 0, .int .i64 4, .int .u64 1, .string ⟨#[]⟩, .slice none 0 0, .int .i64 0, .slice none 0 0, .int .i64 0, .int .u64 0, .string ⟨#[]⟩, .slice none 0 0, .int .i64 0, .slice none 0 0, .int .i64 1, .int .u64 0, .string ⟨#[]⟩, .slice none 0 0, .int .i64 0, .slice none 0 0, .int .i64 0, .int .u64 0, .string ⟨#[]⟩, .slice none 0 0, .int .i64 0, .slice none 0 0, .int .i64 0, .int .u64 0, .string ⟨#[]⟩, .slice none 0 0, .int .i64 0, .slice none 0 0, .int .i64 2, .int .u64 2, .string ⟨#[]⟩, .slice none 0 0, .int .i64 0, .slice none 0 0, .int .i64 0, .int .u64 0, .string ⟨#[]⟩, .slice none 0 0, .int .i64 0, .slice none 0 0, .int .i64 2, .int .u64 0, .string ⟨#[]⟩, .slice none 0 0, .int .i64 0, .slice none 0 0, .int .i64 0, .int .u64 0, .string ⟨#[]⟩, .slice none 0 0, .int .i64 0, .slice none 0 0, .int .i64 0, .int .u64 0, .string ⟨#[]⟩, .slice none 0 0, .int .i64 0, .slice none 0 0, .int .i64 0, .int .u64 0, .string ⟨#[]⟩, .slice none 0 0, .int .i64 0, .slice none 0 0, .int .i64 0, .int .u64 0, .string ⟨#[]⟩, .slice none 0 0, .int .i64 0, .slice none 0 0, .int .i64 0, .int .u64 0, .string ⟨#[]⟩, .slice none 0 0, .int .i64 0, .slice none 0 0, .int .i64 0, .int .u64 0, .string ⟨#[]⟩, .slice none 0 0, .int .i64 0, .slice none 0 0, .int .i64 1, .int .u64 0, .string ⟨#[]⟩, .slice none 0 0, .int .i64 0, .slice none 0 0, .int .i64 1, .int .u64 0, .string ⟨#[]⟩, .slice none 0 0, .int .i64 0, .slice none 0 0, .int .i64 4, .int .u64 0, .string ⟨#[]⟩, .slice none 0 0, .int .i64 0, .slice none 0 0, .int .i64 4, .int .u64 0, .string ⟨#[]⟩, .slice none 0 0, .int .i64 0, .slice none 0 0, .int .i64 5, .int .u64 0, .string ⟨#[]⟩, .slice none 0 0, .int .i64 0, .slice none 0 0, .int .i64 5, .int .u64 0, .string ⟨#[]⟩, .slice none 0 0, .int .i64 0, .slice none 0 0, .int .i64 0, .int .u64 0, .string ⟨#[]⟩, .slice none 0 0, .int .i64 0, .slice none 0 0, .int .i64 0, .int .u64 0, .string ⟨#[]⟩, .slice none 0 0, .int .i64 0, .slice none 0 0, .int .i64 0, .int .u64 0, .string ⟨#[]⟩, .slice none 0 0, .int .i64 0, .slice none 0 0, .int .i64 0, .int .u64 0, .string ⟨#[]⟩, .slice none 0 0, .int .i64 0, .slice none 0 0, .int .i64 0, .int .u64 0, .string ⟨#[]⟩, .slice none 0 0, .int .i64 0, .slice none 0 0, .int .i64 0, .int .u64 0, .string ⟨#[]⟩, .slice none 0 0, .int .i64 0, .slice none 0 0]
def Pair (W C : World) (g5 g6 : Nat) : Prop := Kept Nope W C ∧ Blk C g5 95 zFld ∧ Blk C g6 95 zFld ∧ g5 ≠ g6 ∧ W.heap.size ≤ g5 ∧ W.heap.size ≤ g6
theorem Four.pair {W C : World} {P : Nat} (h : Four W C P) {g5 g6 : Nat} (h5 : g5 = P ∨ g5 = P + 1 ∨ g5 = P + 1 + 1 ∨ g5 = P + 1 + 1 + 1) (h6 : g6 = P ∨ g6 = P + 1 ∨ g6 = P + 1 + 1 ∨ g6 = P + 1 + 1 + 1) (hne : g5 ≠ g6) : Pair W C.drew g5 g6 := by
  have hs := h.size
  refine ⟨h.kept.drew, ?_, ?_, hne, by omega, by omega⟩
  · rcases h5 with rfl | rfl | rfl | rfl
    · exact h.b0
    · exact h.b1
    · exact h.b2
    · exact h.b3
  · rcases h6 with rfl | rfl | rfl | rfl
    · exact h.b0
    · exact h.b1
    · exact h.b2
    · exact h.b3
theorem sets12 {w : World} {g5 g6 : Nat} (h5 : Blk w g5 95 zFld) (h6 : Blk w g6 95 zFld) (hne : g5 ≠ g6) :
    Blk (((((((((((((w.setCell ⟨g5, 6, none⟩ (.int .i64 2)).setCell ⟨g5, 7, none⟩ (.int .u64 2)).setCell ⟨g5, 8, none⟩ (.string ⟨#[]⟩)).setCell ⟨g5, 9, none⟩ (.slice none 0 0)).setCell ⟨g5, 10, none⟩ (.int .i64 0)).setCell ⟨g5, 11, none⟩ (.slice none 0 0)).setCell ⟨g6, 6, none⟩ (.int .i64 2)).setCell ⟨g6, 7, none⟩ (.int .u64 0)).setCell ⟨g6, 8, none⟩ (.string ⟨#[]⟩)).setCell ⟨g6, 9, none⟩ (.slice none 0 0)).setCell ⟨g6, 10, none⟩ (.int .i64 0)).setCell ⟨g6, 11, none⟩ (.slice none 0 0))) g5 95 #[.int .i64 0, .int .u64 0, .string ⟨#[]⟩, .slice none 0 0, .int .i64 0, .slice none 0 0, .int .i64 2, .int .u64 2, .string ⟨#[]⟩, .slice none 0 0, .int .i64 0, .slice none 0 0] ∧ Blk (((((((((((((w.setCell ⟨g5, 6, none⟩ (.int .i64 2)).setCell ⟨g5, 7, none⟩ (.int .u64 2)).setCell ⟨g5, 8, none⟩ (.string ⟨#[]⟩)).setCell ⟨g5, 9, none⟩ (.slice none 0 0)).setCell ⟨g5, 10, none⟩ (.int .i64 0)).setCell ⟨g5, 11, none⟩ (.slice none 0 0)).setCell ⟨g6, 6, none⟩ (.int .i64 2)).setCell ⟨g6, 7, none⟩ (.int .u64 0)).setCell ⟨g6, 8, none⟩ (.string ⟨#[]⟩)).setCell ⟨g6, 9, none⟩ (.slice none 0 0)).setCell ⟨g6, 10, none⟩ (.int .i64 0)).setCell ⟨g6, 11, none⟩ (.slice none 0 0))) g6 95 #[.int .i64 0, .int .u64 0, .string ⟨#[]⟩, .slice none 0 0, .int .i64 0, .slice none 0 0, .int .i64 2, .int .u64 0, .string ⟨#[]⟩, .slice none 0 0, .int .i64 0, .slice none 0 0] ∧ Kept (Or2 g5 g6) w (((((((((((((w.setCell ⟨g5, 6, none⟩ (.int .i64 2)).setCell ⟨g5, 7, none⟩ (.int .u64 2)).setCell ⟨g5, 8, none⟩ (.string ⟨#[]⟩)).setCell ⟨g5, 9, none⟩ (.slice none 0 0)).setCell ⟨g5, 10, none⟩ (.int .i64 0)).setCell ⟨g5, 11, none⟩ (.slice none 0 0)).setCell ⟨g6, 6, none⟩ (.int .i64 2)).setCell ⟨g6, 7, none⟩ (.int .u64 0)).setCell ⟨g6, 8, none⟩ (.string ⟨#[]⟩)).setCell ⟨g6, 9, none⟩ (.slice none 0 0)).setCell ⟨g6, 10, none⟩ (.int .i64 0)).setCell ⟨g6, 11, none⟩ (.slice none 0 0))) := by
  refine ⟨?_, ?_, ?_⟩
  · have h := ((((((((((((h5.set_ 6 (.int .i64 2)).set_ 7 (.int .u64 2)).set_ 8 (.string ⟨#[]⟩)).set_ 9 (.slice none 0 0)).set_ 10 (.int .i64 0)).set_ 11 (.slice none 0 0)).far (p := ⟨g6, 6, none⟩) hne (.int .i64 2)).far (p := ⟨g6, 7, none⟩) hne (.int .u64 0)).far (p := ⟨g6, 8, none⟩) hne (.string ⟨#[]⟩)).far (p := ⟨g6, 9, none⟩) hne (.slice none 0 0)).far (p := ⟨g6, 10, none⟩) hne (.int .i64 0)).far (p := ⟨g6, 11, none⟩) hne (.slice none 0 0))
    simpa using h
  · have h := ((((((((((((h6.far (p := ⟨g5, 6, none⟩) (Ne.symm hne) (.int .i64 2)).far (p := ⟨g5, 7, none⟩) (Ne.symm hne) (.int .u64 2)).far (p := ⟨g5, 8, none⟩) (Ne.symm hne) (.string ⟨#[]⟩)).far (p := ⟨g5, 9, none⟩) (Ne.symm hne) (.slice none 0 0)).far (p := ⟨g5, 10, none⟩) (Ne.symm hne) (.int .i64 0)).far (p := ⟨g5, 11, none⟩) (Ne.symm hne) (.slice none 0 0)).set_ 6 (.int .i64 2)).set_ 7 (.int .u64 0)).set_ 8 (.string ⟨#[]⟩)).set_ 9 (.slice none 0 0)).set_ 10 (.int .i64 0)).set_ 11 (.slice none 0 0))
    simpa using h
  · have h := (((((((((((((Kept.refl (Or2 g5 g6) w).setCell (p := ⟨g5, 6, none⟩) (.inl (show Or2 g5 g6 g5 from .inl rfl)) (.int .i64 2)).setCell (p := ⟨g5, 7, none⟩) (.inl (show Or2 g5 g6 g5 from .inl rfl)) (.int .u64 2)).setCell (p := ⟨g5, 8, none⟩) (.inl (show Or2 g5 g6 g5 from .inl rfl)) (.string ⟨#[]⟩)).setCell (p := ⟨g5, 9, none⟩) (.inl (show Or2 g5 g6 g5 from .inl rfl)) (.slice none 0 0)).setCell (p := ⟨g5, 10, none⟩) (.inl (show Or2 g5 g6 g5 from .inl rfl)) (.int .i64 0)).setCell (p := ⟨g5, 11, none⟩) (.inl (show Or2 g5 g6 g5 from .inl rfl)) (.slice none 0 0)).setCell (p := ⟨g6, 6, none⟩) (.inl (show Or2 g5 g6 g6 from .inr rfl)) (.int .i64 2)).setCell (p := ⟨g6, 7, none⟩) (.inl (show Or2 g5 g6 g6 from .inr rfl)) (.int .u64 0)).setCell (p := ⟨g6, 8, none⟩) (.inl (show Or2 g5 g6 g6 from .inr rfl)) (.string ⟨#[]⟩)).setCell (p := ⟨g6, 9, none⟩) (.inl (show Or2 g5 g6 g6 from .inr rfl)) (.slice none 0 0)).setCell (p := ⟨g6, 10, none⟩) (.inl (show Or2 g5 g6 g6 from .inr rfl)) (.int .i64 0)).setCell (p := ⟨g6, 11, none⟩) (.inl (show Or2 g5 g6 g6 from .inr rfl)) (.slice none 0 0))
    exact h
set_option maxRecDepth 100000 in
set_option maxHeartbeats 6400000 in
theorem ofAttach_ok (w : World) : Calls Tryz.prog 9 #[.agg #[.string ⟨#[97]⟩, .int .u32 1, .bool false, .slice none 0 0, .slice none 0 0, .slice none 0 0, .slice none 0 0, .slice none 0 0, .slice none 0 0, .bool false, .int .u32 0, .int .u64 0, .slice none 0 0, .slice none 0 0, .slice none 0 0]] w (CompP w 18 14 cAttach) := by
  go_enter Tryz.func9, Tryz.ntmps9
  go_upto_region 6 with fail
  obtain ⟨W2, hW⟩ : ∃ W2, (((w.alloc (.cells #[.string ⟨#[97]⟩, .int .u32 1, .bool false, .slice none 0 0, .slice none 0 0, .slice none 0 0, .slice none 0 0, .slice none 0 0, .slice none 0 0, .bool false, .int .u32 0, .int .u64 0, .slice none 0 0, .slice none 0 0, .slice none 0 0] 52)).alloc (.cells #[.int .u64 0, .slice none 0 0] 30)).alloc (.cells #[.int .i64 0, .int .u64 0, .string ⟨#[]⟩, .slice none 0 0, .int .i64 0, .slice none 0 0, .int .i64 0, .int .u64 0, .string ⟨#[]⟩, .slice none 0 0, .int .i64 0, .slice none 0 0] 95)).alloc (.cells #[.int .i64 0, .int .u64 0, .string ⟨#[]⟩, .slice none 0 0, .int .i64 0, .slice none 0 0, .int .i64 0, .int .u64 0, .string ⟨#[]⟩, .slice none 0 0, .int .i64 0, .slice none 0 0] 95) = W2 := ⟨_, rfl⟩
  have ha := (((Blk.new w 52 #[.string ⟨#[97]⟩, .int .u32 1, .bool false, .slice none 0 0, .slice none 0 0, .slice none 0 0, .slice none 0 0, .slice none 0 0, .slice none 0 0, .bool false, .int .u32 0, .int .u64 0, .slice none 0 0, .slice none 0 0, .slice none 0 0]).alloc (.cells #[.int .u64 0, .slice none 0 0] 30)).alloc (.cells #[.int .i64 0, .int .u64 0, .string ⟨#[]⟩, .slice none 0 0, .int .i64 0, .slice none 0 0, .int .i64 0, .int .u64 0, .string ⟨#[]⟩, .slice none 0 0, .int .i64 0, .slice none 0 0] 95)).alloc (.cells #[.int .i64 0, .int .u64 0, .string ⟨#[]⟩, .slice none 0 0, .int .i64 0, .slice none 0 0, .int .i64 0, .int .u64 0, .string ⟨#[]⟩, .slice none 0 0, .int .i64 0, .slice none 0 0] 95)
  have hc := ((Blk.new (w.alloc (.cells #[.string ⟨#[97]⟩, .int .u32 1, .bool false, .slice none 0 0, .slice none 0 0, .slice none 0 0, .slice none 0 0, .slice none 0 0, .slice none 0 0, .bool false, .int .u32 0, .int .u64 0, .slice none 0 0, .slice none 0 0, .slice none 0 0] 52)) 30 zComp).alloc (.cells #[.int .i64 0, .int .u64 0, .string ⟨#[]⟩, .slice none 0 0, .int .i64 0, .slice none 0 0, .int .i64 0, .int .u64 0, .string ⟨#[]⟩, .slice none 0 0, .int .i64 0, .slice none 0 0] 95)).alloc (.cells #[.int .i64 0, .int .u64 0, .string ⟨#[]⟩, .slice none 0 0, .int .i64 0, .slice none 0 0, .int .i64 0, .int .u64 0, .string ⟨#[]⟩, .slice none 0 0, .int .i64 0, .slice none 0 0] 95)
  have h3 := (Blk.new ((w.alloc (.cells #[.string ⟨#[97]⟩, .int .u32 1, .bool false, .slice none 0 0, .slice none 0 0, .slice none 0 0, .slice none 0 0, .slice none 0 0, .slice none 0 0, .bool false, .int .u32 0, .int .u64 0, .slice none 0 0, .slice none 0 0, .slice none 0 0] 52)).alloc (.cells #[.int .u64 0, .slice none 0 0] 30)) 95 zFld).alloc (.cells #[.int .i64 0, .int .u64 0, .string ⟨#[]⟩, .slice none 0 0, .int .i64 0, .slice none 0 0, .int .i64 0, .int .u64 0, .string ⟨#[]⟩, .slice none 0 0, .int .i64 0, .slice none 0 0] 95)
  have h4 := Blk.new (((w.alloc (.cells #[.string ⟨#[97]⟩, .int .u32 1, .bool false, .slice none 0 0, .slice none 0 0, .slice none 0 0, .slice none 0 0, .slice none 0 0, .slice none 0 0, .bool false, .int .u32 0, .int .u64 0, .slice none 0 0, .slice none 0 0, .slice none 0 0] 52)).alloc (.cells #[.int .u64 0, .slice none 0 0] 30)).alloc (.cells #[.int .i64 0, .int .u64 0, .string ⟨#[]⟩, .slice none 0 0, .int .i64 0, .slice none 0 0, .int .i64 0, .int .u64 0, .string ⟨#[]⟩, .slice none 0 0, .int .i64 0, .slice none 0 0] 95)) 95 zFld
  have hk := ((((Kept.refl Nope w).alloc (.cells #[.string ⟨#[97]⟩, .int .u32 1, .bool false, .slice none 0 0, .slice none 0 0, .slice none 0 0, .slice none 0 0, .slice none 0 0, .slice none 0 0, .bool false, .int .u32 0, .int .u64 0, .slice none 0 0, .slice none 0 0, .slice none 0 0] 52)).alloc (.cells #[.int .u64 0, .slice none 0 0] 30)).alloc (.cells #[.int .i64 0, .int .u64 0, .string ⟨#[]⟩, .slice none 0 0, .int .i64 0, .slice none 0 0, .int .i64 0, .int .u64 0, .string ⟨#[]⟩, .slice none 0 0, .int .i64 0, .slice none 0 0] 95)).alloc (.cells #[.int .i64 0, .int .u64 0, .string ⟨#[]⟩, .slice none 0 0, .int .i64 0, .slice none 0 0, .int .i64 0, .int .u64 0, .string ⟨#[]⟩, .slice none 0 0, .int .i64 0, .slice none 0 0] 95)
  have hz4 : W2.heap.size = w.heap.size + 1 + 1 + 1 + 1 := by rw [← hW]; simp only [World.size_alloc]
  simp only [World.size_alloc, zComp] at ha hc h3 h4
  rw [hW] at ha hc h3 h4 hk ⊢
  obtain ⟨B, hB⟩ : ∃ B, w.heap.size = B := ⟨_, rfl⟩
  rw [hB] at ha hc h3 h4 hz4 ⊢
  have H0 := Lib.hid (And.intro ha (And.intro hc (And.intro h3 (And.intro h4 (And.intro hk (And.intro hB hz4))))))
  obtain ⟨P, hP⟩ : ∃ P, W2.heap.size = P := ⟨_, rfl⟩
  have hF := four_new W2 P hP
  have HF := Lib.hid hF
  have f0 := fun t => hF.b0.cell t
  have f1 := fun t => hF.b1.cell t
  have f2 := fun t => hF.b2.cell t
  have f3 := fun t => hF.b3.cell t
  have g0 := fun t => hF.b0.frozen t
  have g1 := fun t => hF.b1.frozen t
  have g2 := fun t => hF.b2.frozen t
  have g3 := fun t => hF.b3.frozen t
  have s0 := fun t v hv => hF.b0.set_same t v hv
  have s1 := fun t v hv => hF.b1.set_same t v hv
  have s2 := fun t v hv => hF.b2.set_same t v hv
  have s3 := fun t v hv => hF.b3.set_same t v hv
  have HQ : Hid (∀ w', Kept Nope W2 w' → w'.cell? ⟨B, 3, none⟩ = some (.slice none 0 0) ∧ w'.cell? ⟨B, 4, none⟩ = some (.slice none 0 0)) := Lib.hid fun w' h => ⟨(H0.out.1.kept h (fun h => h)).cell 3, (H0.out.1.kept h (fun h => h)).cell 4⟩
  clear ha hc h3 h4 hk hz4 hW hB hF
  go_cut [5, 6] (fun s5 s6 wx => ∃ g5 g6, s5 = .pointer (some ⟨g5, 0, none⟩) ∧ s6 = .pointer (some ⟨g6, 0, none⟩) ∧ Hid (Pair W2 wx g5 g6))
  case first =>
    go_region_held3 (fun w' => w'.cell? ⟨B, 3, none⟩ = some (.slice none 0 0) ∧ w'.cell? ⟨B, 4, none⟩ = some (.slice none 0 0)) (first | with_reducible exact HQ.out _ (Kept.refl _ W2).drew | with_reducible exact HQ.out _ ((Kept.refl _ W2).alloc _).drew | with_reducible exact HQ.out _ (((Kept.refl _ W2).alloc _).alloc _).drew | with_reducible exact HQ.out _ ((((Kept.refl _ W2).alloc _).alloc _).alloc _).drew | with_reducible exact HQ.out _ (((((Kept.refl _ W2).alloc _).alloc _).alloc _).alloc _).drew | fail) (first | (go_at_call 38; go_must (refine (maybe8_ex _ _).mono ?_; rintro e w9 ⟨rfl, rfl⟩)))
    all_goals
      go_wp2_with fail
      go_meet
      exact ⟨_, _, rfl, rfl, Lib.hid (HF.out.pair (by omega) (by omega) (by omega))⟩
  case rest =>
    obtain ⟨g5, g6, rfl, rfl, HP⟩ := hcut
    clear f0 f1 f2 f3 g0 g1 g2 g3 s0 s1 s2 s3 HQ HF
    have hne : g5 ≠ g6 := HP.out.2.2.2.1
    have hne' : g6 ≠ g5 := fun e => hne e.symm
    have K : Kept Nope wc wc := Kept.refl _ _
    have x5 := True.intro
    have y5 := True.intro
    have x6 := True.intro
    have y6 := True.intro
    go_upto_region 8 with (go_at_call 34; go_must (refine (ofNumber_q _ _ _).mono ?_; rintro e w9 ⟨rfl, hk9⟩; replace K := K.trans' hk9; clear hk9 x5 y5 x6 y6; have x5 := fun t => (HP.out.2.1.kept K (fun h => h)).cell t; have y5 := fun t => (HP.out.2.1.kept K (fun h => h)).frozen t; have x6 := fun t => (HP.out.2.2.1.kept K (fun h => h)).cell t; have y6 := fun t => (HP.out.2.2.1.kept K (fun h => h)).frozen t))
    obtain ⟨W8, hW8⟩ : ∃ W8, ((((((((((((w9.setCell ⟨g5, 6, none⟩ (.int .i64 2)).setCell ⟨g5, 7, none⟩ (.int .u64 2)).setCell ⟨g5, 8, none⟩ (.string ⟨#[]⟩)).setCell ⟨g5, 9, none⟩ (.slice none 0 0)).setCell ⟨g5, 10, none⟩ (.int .i64 0)).setCell ⟨g5, 11, none⟩ (.slice none 0 0)).setCell ⟨g6, 6, none⟩ (.int .i64 2)).setCell ⟨g6, 7, none⟩ (.int .u64 0)).setCell ⟨g6, 8, none⟩ (.string ⟨#[]⟩)).setCell ⟨g6, 9, none⟩ (.slice none 0 0)).setCell ⟨g6, 10, none⟩ (.int .i64 0)).setCell ⟨g6, 11, none⟩ (.slice none 0 0)) = W8 := ⟨_, rfl⟩
    have hse := sets12 (HP.out.2.1.kept K (fun h => h)) (HP.out.2.2.1.kept K (fun h => h)) hne
    rw [hW8] at hse ⊢
    clear x5 y5 x6 y6 hW8
    have hkW : Kept Nope W2 w9 := HP.out.1.trans' K
    have hsz := H0.out.2.2.2.2.2.2
    have hwB := H0.out.2.2.2.2.2.1
    have h5 := HP.out.2.2.2.2.1
    have h6 := HP.out.2.2.2.2.2
    have ha := (H0.out.1.kept hkW (fun h => h)).kept hse.2.2 (fun e => by rcases e with e | e <;> omega)
    have hc := (H0.out.2.1.kept hkW (fun h => h)).kept hse.2.2 (fun e => by rcases e with e | e <;> omega)
    have h3 := (H0.out.2.2.1.kept hkW (fun h => h)).kept hse.2.2 (fun e => by rcases e with e | e <;> omega)
    have h4 := (H0.out.2.2.2.1.kept hkW (fun h => h)).kept hse.2.2 (fun e => by rcases e with e | e <;> omega)
    have hkw : Kept Nope w W8 := ((H0.out.2.2.2.2.1.trans' hkW).nope.trans' hse.2.2).ofNew fun i e => by rcases e with e | e <;> omega
    have HQ : Hid (∀ w', Kept (Only (B + 1)) W8 w' → w'.cell? ⟨B, 0, none⟩ = some (.string ⟨#[97]⟩) ∧ w'.cell? ⟨B, 1, none⟩ = some (.int .u32 1) ∧ w'.cell? ⟨B, 2, none⟩ = some (.bool false) ∧ w'.cell? ⟨B, 3, none⟩ = some (.slice none 0 0) ∧ w'.cell? ⟨B, 4, none⟩ = some (.slice none 0 0) ∧ w'.cell? ⟨B, 5, none⟩ = some (.slice none 0 0) ∧ w'.cell? ⟨B, 6, none⟩ = some (.slice none 0 0) ∧ w'.cell? ⟨B, 7, none⟩ = some (.slice none 0 0) ∧ w'.cell? ⟨B, 8, none⟩ = some (.slice none 0 0) ∧ w'.cell? ⟨B, 9, none⟩ = some (.bool false) ∧ w'.cell? ⟨B, 10, none⟩ = some (.int .u32 0) ∧ w'.cell? ⟨B, 11, none⟩ = some (.int .u64 0) ∧ w'.cell? ⟨B, 12, none⟩ = some (.slice none 0 0) ∧ w'.cell? ⟨B, 13, none⟩ = some (.slice none 0 0) ∧ w'.cell? ⟨B, 14, none⟩ = some (.slice none 0 0) ∧ w'.cell? ⟨B + 1 + 1, 0, none⟩ = some (.int .i64 0) ∧ w'.cell? ⟨B + 1 + 1, 1, none⟩ = some (.int .u64 0) ∧ w'.cell? ⟨B + 1 + 1, 2, none⟩ = some (.string ⟨#[]⟩) ∧ w'.cell? ⟨B + 1 + 1, 3, none⟩ = some (.slice none 0 0) ∧ w'.cell? ⟨B + 1 + 1, 4, none⟩ = some (.int .i64 0) ∧ w'.cell? ⟨B + 1 + 1, 5, none⟩ = some (.slice none 0 0) ∧ w'.cell? ⟨B + 1 + 1, 6, none⟩ = some (.int .i64 0) ∧ w'.cell? ⟨B + 1 + 1, 7, none⟩ = some (.int .u64 0) ∧ w'.cell? ⟨B + 1 + 1, 8, none⟩ = some (.string ⟨#[]⟩) ∧ w'.cell? ⟨B + 1 + 1, 9, none⟩ = some (.slice none 0 0) ∧ w'.cell? ⟨B + 1 + 1, 10, none⟩ = some (.int .i64 0) ∧ w'.cell? ⟨B + 1 + 1, 11, none⟩ = some (.slice none 0 0) ∧ w'.cell? ⟨B + 1 + 1 + 1, 0, none⟩ = some (.int .i64 0) ∧ w'.cell? ⟨B + 1 + 1 + 1, 1, none⟩ = some (.int .u64 0) ∧ w'.cell? ⟨B + 1 + 1 + 1, 2, none⟩ = some (.string ⟨#[]⟩) ∧ w'.cell? ⟨B + 1 + 1 + 1, 3, none⟩ = some (.slice none 0 0) ∧ w'.cell? ⟨B + 1 + 1 + 1, 4, none⟩ = some (.int .i64 0) ∧ w'.cell? ⟨B + 1 + 1 + 1, 5, none⟩ = some (.slice none 0 0) ∧ w'.cell? ⟨B + 1 + 1 + 1, 6, none⟩ = some (.int .i64 0) ∧ w'.cell? ⟨B + 1 + 1 + 1, 7, none⟩ = some (.int .u64 0) ∧ w'.cell? ⟨B + 1 + 1 + 1, 8, none⟩ = some (.string ⟨#[]⟩) ∧ w'.cell? ⟨B + 1 + 1 + 1, 9, none⟩ = some (.slice none 0 0) ∧ w'.cell? ⟨B + 1 + 1 + 1, 10, none⟩ = some (.int .i64 0) ∧ w'.cell? ⟨B + 1 + 1 + 1, 11, none⟩ = some (.slice none 0 0) ∧ w'.cell? ⟨g5, 0, none⟩ = some (.int .i64 0) ∧ w'.cell? ⟨g5, 1, none⟩ = some (.int .u64 0) ∧ w'.cell? ⟨g5, 2, none⟩ = some (.string ⟨#[]⟩) ∧ w'.cell? ⟨g5, 3, none⟩ = some (.slice none 0 0) ∧ w'.cell? ⟨g5, 4, none⟩ = some (.int .i64 0) ∧ w'.cell? ⟨g5, 5, none⟩ = some (.slice none 0 0) ∧ w'.cell? ⟨g5, 6, none⟩ = some (.int .i64 2) ∧ w'.cell? ⟨g5, 7, none⟩ = some (.int .u64 2) ∧ w'.cell? ⟨g5, 8, none⟩ = some (.string ⟨#[]⟩) ∧ w'.cell? ⟨g5, 9, none⟩ = some (.slice none 0 0) ∧ w'.cell? ⟨g5, 10, none⟩ = some (.int .i64 0) ∧ w'.cell? ⟨g5, 11, none⟩ = some (.slice none 0 0) ∧ w'.cell? ⟨g6, 0, none⟩ = some (.int .i64 0) ∧ w'.cell? ⟨g6, 1, none⟩ = some (.int .u64 0) ∧ w'.cell? ⟨g6, 2, none⟩ = some (.string ⟨#[]⟩) ∧ w'.cell? ⟨g6, 3, none⟩ = some (.slice none 0 0) ∧ w'.cell? ⟨g6, 4, none⟩ = some (.int .i64 0) ∧ w'.cell? ⟨g6, 5, none⟩ = some (.slice none 0 0) ∧ w'.cell? ⟨g6, 6, none⟩ = some (.int .i64 2) ∧ w'.cell? ⟨g6, 7, none⟩ = some (.int .u64 0) ∧ w'.cell? ⟨g6, 8, none⟩ = some (.string ⟨#[]⟩) ∧ w'.cell? ⟨g6, 9, none⟩ = some (.slice none 0 0) ∧ w'.cell? ⟨g6, 10, none⟩ = some (.int .i64 0) ∧ w'.cell? ⟨g6, 11, none⟩ = some (.slice none 0 0)) := Lib.hid fun w' h => by
      have a := ha.kept h (fun e => by have e' : B = B + 1 := e; omega)
      have b := h3.kept h (fun e => by have e' : B + 1 + 1 = B + 1 := e; omega)
      have c := h4.kept h (fun e => by have e' : B + 1 + 1 + 1 = B + 1 := e; omega)
      have d := hse.1.kept h (fun e => by have e' : g5 = B + 1 := e; omega)
      have e := hse.2.1.kept h (fun e => by have e' : g6 = B + 1 := e; omega)
      exact ⟨a.cell 0, a.cell 1, a.cell 2, a.cell 3, a.cell 4, a.cell 5, a.cell 6, a.cell 7, a.cell 8, a.cell 9, a.cell 10, a.cell 11, a.cell 12, a.cell 13, a.cell 14, b.cell 0, b.cell 1, b.cell 2, b.cell 3, b.cell 4, b.cell 5, b.cell 6, b.cell 7, b.cell 8, b.cell 9, b.cell 10, b.cell 11, c.cell 0, c.cell 1, c.cell 2, c.cell 3, c.cell 4, c.cell 5, c.cell 6, c.cell 7, c.cell 8, c.cell 9, c.cell 10, c.cell 11, d.cell 0, d.cell 1, d.cell 2, d.cell 3, d.cell 4, d.cell 5, d.cell 6, d.cell 7, d.cell 8, d.cell 9, d.cell 10, d.cell 11, e.cell 0, e.cell 1, e.cell 2, e.cell 3, e.cell 4, e.cell 5, e.cell 6, e.cell 7, e.cell 8, e.cell 9, e.cell 10, e.cell 11⟩
    have HC := Lib.hid (And.intro hc hkw)
    clear ha hc h3 h4 hkw hkW hse hsz hwB h5 h6 K
    have e0 : IntKind.u64.wrap 0 = 0 := by decide
    have e1 : IntKind.u64.wrap 1 = 1 := by decide
    have K : Kept Nope W8 W8.drew := (Kept.refl _ _).drew
    have c0 := True.intro
    have c1 := True.intro
    have f0 := True.intro
    have f1 := True.intro
    go_region_held3 (fun w' => w'.cell? ⟨B, 0, none⟩ = some (.string ⟨#[97]⟩) ∧ w'.cell? ⟨B, 1, none⟩ = some (.int .u32 1) ∧ w'.cell? ⟨B, 2, none⟩ = some (.bool false) ∧ w'.cell? ⟨B, 3, none⟩ = some (.slice none 0 0) ∧ w'.cell? ⟨B, 4, none⟩ = some (.slice none 0 0) ∧ w'.cell? ⟨B, 5, none⟩ = some (.slice none 0 0) ∧ w'.cell? ⟨B, 6, none⟩ = some (.slice none 0 0) ∧ w'.cell? ⟨B, 7, none⟩ = some (.slice none 0 0) ∧ w'.cell? ⟨B, 8, none⟩ = some (.slice none 0 0) ∧ w'.cell? ⟨B, 9, none⟩ = some (.bool false) ∧ w'.cell? ⟨B, 10, none⟩ = some (.int .u32 0) ∧ w'.cell? ⟨B, 11, none⟩ = some (.int .u64 0) ∧ w'.cell? ⟨B, 12, none⟩ = some (.slice none 0 0) ∧ w'.cell? ⟨B, 13, none⟩ = some (.slice none 0 0) ∧ w'.cell? ⟨B, 14, none⟩ = some (.slice none 0 0) ∧ w'.cell? ⟨B + 1 + 1, 0, none⟩ = some (.int .i64 0) ∧ w'.cell? ⟨B + 1 + 1, 1, none⟩ = some (.int .u64 0) ∧ w'.cell? ⟨B + 1 + 1, 2, none⟩ = some (.string ⟨#[]⟩) ∧ w'.cell? ⟨B + 1 + 1, 3, none⟩ = some (.slice none 0 0) ∧ w'.cell? ⟨B + 1 + 1, 4, none⟩ = some (.int .i64 0) ∧ w'.cell? ⟨B + 1 + 1, 5, none⟩ = some (.slice none 0 0) ∧ w'.cell? ⟨B + 1 + 1, 6, none⟩ = some (.int .i64 0) ∧ w'.cell? ⟨B + 1 + 1, 7, none⟩ = some (.int .u64 0) ∧ w'.cell? ⟨B + 1 + 1, 8, none⟩ = some (.string ⟨#[]⟩) ∧ w'.cell? ⟨B + 1 + 1, 9, none⟩ = some (.slice none 0 0) ∧ w'.cell? ⟨B + 1 + 1, 10, none⟩ = some (.int .i64 0) ∧ w'.cell? ⟨B + 1 + 1, 11, none⟩ = some (.slice none 0 0) ∧ w'.cell? ⟨B + 1 + 1 + 1, 0, none⟩ = some (.int .i64 0) ∧ w'.cell? ⟨B + 1 + 1 + 1, 1, none⟩ = some (.int .u64 0) ∧ w'.cell? ⟨B + 1 + 1 + 1, 2, none⟩ = some (.string ⟨#[]⟩) ∧ w'.cell? ⟨B + 1 + 1 + 1, 3, none⟩ = some (.slice none 0 0) ∧ w'.cell? ⟨B + 1 + 1 + 1, 4, none⟩ = some (.int .i64 0) ∧ w'.cell? ⟨B + 1 + 1 + 1, 5, none⟩ = some (.slice none 0 0) ∧ w'.cell? ⟨B + 1 + 1 + 1, 6, none⟩ = some (.int .i64 0) ∧ w'.cell? ⟨B + 1 + 1 + 1, 7, none⟩ = some (.int .u64 0) ∧ w'.cell? ⟨B + 1 + 1 + 1, 8, none⟩ = some (.string ⟨#[]⟩) ∧ w'.cell? ⟨B + 1 + 1 + 1, 9, none⟩ = some (.slice none 0 0) ∧ w'.cell? ⟨B + 1 + 1 + 1, 10, none⟩ = some (.int .i64 0) ∧ w'.cell? ⟨B + 1 + 1 + 1, 11, none⟩ = some (.slice none 0 0) ∧ w'.cell? ⟨g5, 0, none⟩ = some (.int .i64 0) ∧ w'.cell? ⟨g5, 1, none⟩ = some (.int .u64 0) ∧ w'.cell? ⟨g5, 2, none⟩ = some (.string ⟨#[]⟩) ∧ w'.cell? ⟨g5, 3, none⟩ = some (.slice none 0 0) ∧ w'.cell? ⟨g5, 4, none⟩ = some (.int .i64 0) ∧ w'.cell? ⟨g5, 5, none⟩ = some (.slice none 0 0) ∧ w'.cell? ⟨g5, 6, none⟩ = some (.int .i64 2) ∧ w'.cell? ⟨g5, 7, none⟩ = some (.int .u64 2) ∧ w'.cell? ⟨g5, 8, none⟩ = some (.string ⟨#[]⟩) ∧ w'.cell? ⟨g5, 9, none⟩ = some (.slice none 0 0) ∧ w'.cell? ⟨g5, 10, none⟩ = some (.int .i64 0) ∧ w'.cell? ⟨g5, 11, none⟩ = some (.slice none 0 0) ∧ w'.cell? ⟨g6, 0, none⟩ = some (.int .i64 0) ∧ w'.cell? ⟨g6, 1, none⟩ = some (.int .u64 0) ∧ w'.cell? ⟨g6, 2, none⟩ = some (.string ⟨#[]⟩) ∧ w'.cell? ⟨g6, 3, none⟩ = some (.slice none 0 0) ∧ w'.cell? ⟨g6, 4, none⟩ = some (.int .i64 0) ∧ w'.cell? ⟨g6, 5, none⟩ = some (.slice none 0 0) ∧ w'.cell? ⟨g6, 6, none⟩ = some (.int .i64 2) ∧ w'.cell? ⟨g6, 7, none⟩ = some (.int .u64 0) ∧ w'.cell? ⟨g6, 8, none⟩ = some (.string ⟨#[]⟩) ∧ w'.cell? ⟨g6, 9, none⟩ = some (.slice none 0 0) ∧ w'.cell? ⟨g6, 10, none⟩ = some (.int .i64 0) ∧ w'.cell? ⟨g6, 11, none⟩ = some (.slice none 0 0)) (first | with_reducible exact HQ.out _ K.nope | with_reducible exact HQ.out _ (K.nope.alloc _) | with_reducible exact HQ.out _ (((K.nope.alloc _).set1 0 _).set1 1 _) | fail) (first
    | (go_at_call 34; go_must (refine (ofNumber_q _ _ _).mono ?_; rintro e w9 ⟨rfl, hk9⟩; replace K := K.trans' hk9; clear hk9 c0 c1 f0 f1; have hb1 := HC.out.1.kept K (fun h => h); have c0 := fun (o : Obj) => (hb1.alloc o).cell 0; have c1 := fun (o : Obj) => (hb1.alloc o).cell 1; have f0 := fun (o : Obj) => (hb1.alloc o).frozen 0; have f1 := fun (o : Obj) => (hb1.alloc o).frozen 1; simp only [List.getElem?_toArray, List.getElem?_cons_zero, List.getElem?_cons_succ] at c0 c1; clear hb1))
    | (go_at_call 39; go_must (refine (truth_q _).mono ?_; rintro e w9 ⟨rfl, hk9⟩; replace K := K.trans' hk9; clear hk9 c0 c1 f0 f1; have hb1 := HC.out.1.kept K (fun h => h); have c0 := fun (o : Obj) => (hb1.alloc o).cell 0; have c1 := fun (o : Obj) => (hb1.alloc o).cell 1; have f0 := fun (o : Obj) => (hb1.alloc o).frozen 0; have f1 := fun (o : Obj) => (hb1.alloc o).frozen 1; simp only [List.getElem?_toArray, List.getElem?_cons_zero, List.getElem?_cons_succ] at c0 c1; clear hb1))
    | (go_at_call 40; go_must (refine (flag_no _).mono ?_; rintro e w9 ⟨rfl, hk9⟩; replace K := K.trans' hk9; clear hk9 c0 c1 f0 f1; have hb1 := HC.out.1.kept K (fun h => h); have c0 := fun (o : Obj) => (hb1.alloc o).cell 0; have c1 := fun (o : Obj) => (hb1.alloc o).cell 1; have f0 := fun (o : Obj) => (hb1.alloc o).frozen 0; have f1 := fun (o : Obj) => (hb1.alloc o).frozen 1; simp only [List.getElem?_toArray, List.getElem?_cons_zero, List.getElem?_cons_succ] at c0 c1; clear hb1))
    | (go_at_call 30; go_must (refine (plainField_ok _ _ _).mono ?_; rintro e w9 ⟨rfl, hk9⟩; replace K := K.trans' hk9; clear hk9 c0 c1 f0 f1; have hb1 := HC.out.1.kept K (fun h => h); have c0 := fun (o : Obj) => (hb1.alloc o).cell 0; have c1 := fun (o : Obj) => (hb1.alloc o).cell 1; have f0 := fun (o : Obj) => (hb1.alloc o).frozen 0; have f1 := fun (o : Obj) => (hb1.alloc o).frozen 1; simp only [List.getElem?_toArray, List.getElem?_cons_zero, List.getElem?_cons_succ] at c0 c1; clear hb1))
    | (go_at_call 31; go_must (refine (symbols_no _).mono ?_; rintro e w9 ⟨rfl, hk9⟩; replace K := K.trans' hk9; clear hk9 c0 c1 f0 f1; have hb1 := HC.out.1.kept K (fun h => h); have c0 := fun (o : Obj) => (hb1.alloc o).cell 0; have c1 := fun (o : Obj) => (hb1.alloc o).cell 1; have f0 := fun (o : Obj) => (hb1.alloc o).frozen 0; have f1 := fun (o : Obj) => (hb1.alloc o).frozen 1; simp only [List.getElem?_toArray, List.getElem?_cons_zero, List.getElem?_cons_succ] at c0 c1; clear hb1))
    | (go_at_call 32; go_must (refine (mapField_no _).mono ?_; rintro e w9 ⟨rfl, hk9⟩; replace K := K.trans' hk9; clear hk9 c0 c1 f0 f1; have hb1 := HC.out.1.kept K (fun h => h); have c0 := fun (o : Obj) => (hb1.alloc o).cell 0; have c1 := fun (o : Obj) => (hb1.alloc o).cell 1; have f0 := fun (o : Obj) => (hb1.alloc o).frozen 0; have f1 := fun (o : Obj) => (hb1.alloc o).frozen 1; simp only [List.getElem?_toArray, List.getElem?_cons_zero, List.getElem?_cons_succ] at c0 c1; clear hb1)))
    go_wp2
    have hd := comp_doneB w w9 (B + 1) (.int .u64 18) (.slice (some ⟨w9.heap.size, 0, none⟩) 14 14) cAttach.toArray (by have := H0.out.2.2.2.2.2.1; omega) (HC.out.2.trans' K) (HC.out.1.kept K (fun h => h))
    exact bodyPost_ret (results_cell_row (P := Tryz.prog) rfl _ _ (B + 1) 30 _ (0, 0) _ rfl hd.1 Tryz.underlying30 rfl (by kernel_rfl)) rfl ⟨_, rfl, hd.2.2.2, hd.2.1, hd.2.2.1⟩
end Go.Proofs.YtbckofjoancdjaaGreatDoor
