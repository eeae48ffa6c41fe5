/- Package spec: composites of performatives: Open, Flow. Package spec: composites of performatives: Disposition, Transfer. Package spec: composites of performatives: Outcome. -/
import Derived.Test.YtbckofjoancdjaaGreatDoorK35
namespace Go.Proofs.YtbckofjoancdjaaGreatDoor
open Go Go.RowKit Go.Lib
abbrev cOpen : List Value := [.int .i64 19, .int .u64 0, .string ⟨#[97]⟩, .slice none 0 0, .int .i64 0, .slice none 0 0, .int .i64 0, .int .u64 0, .string ⟨#[]⟩, .slice none 0 0, .int .i64 0, .slice none 0 0, .int .i64 0, .int .u64 0, .string ⟨#[]⟩, .slice none 0 0, .int .i64 0, .slice none 0 0, .int .i64 0, .int .u64 0, .string ⟨#[]⟩, .slice none 0 0, .int .i64 0, .slice none 0 0, .int .i64 4, .int .u64 512, .string ⟨#[]⟩, .slice none 0 0, .int .i64 0, .slice none 0 0, .int .i64 4, .int .u64 4294967295, .string ⟨#[]⟩, .slice none 0 0, .int .i64 0, .slice none 0 0, .int .i64 3, .int .u64 1, .string ⟨#[]⟩, .slice none 0 0, .int .i64 0, .slice none 0 0, .int .i64 3, .int .u64 65535, .string ⟨#[]⟩, .slice none 0 0, .int .i64 0, .slice none 0 0, .int .i64 4, .int .u64 0, .string ⟨#[]⟩, .slice none 0 0, .int .i64 0, .slice none 0 0, .int .i64 4, .int .u64 0, .string ⟨#[]⟩, .slice none 0 0, .int .i64 0, .slice none 0 0, .int .i64 0, .int .u64 0, .string ⟨#[]⟩, .slice none 0 0, .int .i64 0, .slice none 0 0, .int .i64 0, .int .u64 0, .string ⟨#[]⟩, .slice none 0 0, .int .i64 0, .slice none 0 0, .int .i64 0, .int .u64 0, .string ⟨#[]⟩, .slice none 0 0, .int .i64 0, .slice none 0 0, .int .i64 0, .int .u64 0, .string ⟨#[]⟩, .slice none 0 0, .int .i64 0, .slice none 0 0, .int .i64 0, .int .u64 0, .string ⟨#[]⟩, .slice none 0 0, .int .i64 0, .slice none 0 0, .int .i64 0, .int .u64 0, .string ⟨#[]⟩, .slice none 0 0, .int .i64 0, .slice none 0 0, .int .i64 0, .int .u64 0, .string ⟨#[]⟩, .slice none 0 0, .int .i64 0, .slice none 0 0, .int .i64 0, .int .u64 0, .string ⟨#[]⟩, .slice none 0 0, .int .i64 0, .slice none 0 0, .int .i64 0, .int .u64 0, .string ⟨#[]⟩, .slice none 0 0, .int .i64 0, .slice none 0 0, .int .i64 0, .int .u64 0, .string ⟨#[]⟩, .slice none 0 0, .int .i64 0, .slice none 0 0]
set_option maxRecDepth 100000 in
set_option maxHeartbeats 4000000 in
theorem ofOpen_ok (w : World) : Calls Tryz.prog 7 #[.agg #[.string ⟨#[97]⟩, .string ⟨#[]⟩, .int .u32 512, .int .u16 1, .int .i64 0, .slice none 0 0, .slice none 0 0, .slice none 0 0, .slice none 0 0, .slice none 0 0]] w (CompP w 16 10 cOpen) := by
  go_enter Tryz.func7, Tryz.ntmps7
  go_wp2_with (fail)
  obtain ⟨W2, hW⟩ : ∃ W2, (w.alloc (.cells #[.string ⟨#[97]⟩, .string ⟨#[]⟩, .int .u32 512, .int .u16 1, .int .i64 0, .slice none 0 0, .slice none 0 0, .slice none 0 0, .slice none 0 0, .slice none 0 0] 42)).alloc (.cells #[.int .u64 0, .slice none 0 0] 30) = W2 := ⟨_, rfl⟩
  have hb := (Blk.new w 42 #[.string ⟨#[97]⟩, .string ⟨#[]⟩, .int .u32 512, .int .u16 1, .int .i64 0, .slice none 0 0, .slice none 0 0, .slice none 0 0, .slice none 0 0, .slice none 0 0]).alloc (.cells zComp 30)
  have hc := Blk.new (w.alloc (.cells #[.string ⟨#[97]⟩, .string ⟨#[]⟩, .int .u32 512, .int .u16 1, .int .i64 0, .slice none 0 0, .slice none 0 0, .slice none 0 0, .slice none 0 0, .slice none 0 0] 42)) 30 zComp
  have hk := ((Kept.refl Nope w).alloc (.cells #[.string ⟨#[97]⟩, .string ⟨#[]⟩, .int .u32 512, .int .u16 1, .int .i64 0, .slice none 0 0, .slice none 0 0, .slice none 0 0, .slice none 0 0, .slice none 0 0] 42)).alloc (.cells zComp 30)
  unfold zComp at hb hc hk
  rw [World.size_alloc] at hc
  rw [hW] at hb hc hk ⊢
  have HQ : Hid (∀ w', Kept (Only (w.heap.size + 1)) W2 w' → w'.cell? ⟨w.heap.size, 0, none⟩ = some (.string ⟨#[97]⟩) ∧ w'.cell? ⟨w.heap.size, 1, none⟩ = some (.string ⟨#[]⟩) ∧ w'.cell? ⟨w.heap.size, 2, none⟩ = some (.int .u32 512) ∧ w'.cell? ⟨w.heap.size, 3, none⟩ = some (.int .u16 1) ∧ w'.cell? ⟨w.heap.size, 4, none⟩ = some (.int .i64 0) ∧ w'.cell? ⟨w.heap.size, 5, none⟩ = some (.slice none 0 0) ∧ w'.cell? ⟨w.heap.size, 6, none⟩ = some (.slice none 0 0) ∧ w'.cell? ⟨w.heap.size, 7, none⟩ = some (.slice none 0 0) ∧ w'.cell? ⟨w.heap.size, 8, none⟩ = some (.slice none 0 0) ∧ w'.cell? ⟨w.heap.size, 9, none⟩ = some (.slice none 0 0)) := Lib.hid fun w' h => by
    have g := hb.kept h (fun e => by have e' : w.heap.size = w.heap.size + 1 := e; omega)
    exact ⟨g.cell 0, g.cell 1, g.cell 2, g.cell 3, g.cell 4, g.cell 5, g.cell 6, g.cell 7, g.cell 8, g.cell 9⟩
  have hwB : w.heap.size ≤ w.heap.size + 1 := by omega
  have HC := Lib.hid (And.intro hc (And.intro hk hwB))
  clear hb hc hk hW hwB
  obtain ⟨B, hB⟩ : ∃ B, w.heap.size = B := ⟨_, rfl⟩
  have HBB := Lib.hid hB
  simp only [hB] at HQ HC ⊢
  clear hB
  have e512 : IntKind.u64.wrap 512 = 512 := by decide
  have e1 : IntKind.u64.wrap 1 = 1 := by decide
  have e0 : IntKind.u64.wrap 0 = 0 := by decide
  have K : Kept Nope W2 W2.drew := (Kept.refl _ _).drew
  have c0 := True.intro
  have c1 := True.intro
  have f0 := True.intro
  have f1 := True.intro
  go_region_held3 (fun w' => w'.cell? ⟨B, 0, none⟩ = some (.string ⟨#[97]⟩) ∧ w'.cell? ⟨B, 1, none⟩ = some (.string ⟨#[]⟩) ∧ w'.cell? ⟨B, 2, none⟩ = some (.int .u32 512) ∧ w'.cell? ⟨B, 3, none⟩ = some (.int .u16 1) ∧ w'.cell? ⟨B, 4, none⟩ = some (.int .i64 0) ∧ w'.cell? ⟨B, 5, none⟩ = some (.slice none 0 0) ∧ w'.cell? ⟨B, 6, none⟩ = some (.slice none 0 0) ∧ w'.cell? ⟨B, 7, none⟩ = some (.slice none 0 0) ∧ w'.cell? ⟨B, 8, none⟩ = some (.slice none 0 0) ∧ w'.cell? ⟨B, 9, none⟩ = some (.slice none 0 0)) (first | with_reducible exact HQ.out _ K.nope | with_reducible exact HQ.out _ (K.nope.alloc _) | with_reducible exact HQ.out _ (((K.nope.alloc _).set1 0 _).set1 1 _) | fail) (first
    | (go_at_call 28; go_must (refine (textField_no _ _).mono ?_; rintro e w9 ⟨rfl, hk9⟩; replace K := K.trans' hk9; clear hk9 c0 c1 f0 f1; have hb1 := HC.out.1.kept K (fun h => h); have c0 := fun (o : Obj) => (hb1.alloc o).cell 0; have c1 := fun (o : Obj) => (hb1.alloc o).cell 1; have f0 := fun (o : Obj) => (hb1.alloc o).frozen 0; have f1 := fun (o : Obj) => (hb1.alloc o).frozen 1; simp only [List.getElem?_toArray, List.getElem?_cons_zero, List.getElem?_cons_succ] at c0 c1; clear hb1))
    | (go_at_call 29; go_must (refine (defaultField_ok _ _ _ _).mono ?_; rintro e w9 ⟨rfl, hk9⟩; replace K := K.trans' hk9; clear hk9 c0 c1 f0 f1; have hb1 := HC.out.1.kept K (fun h => h); have c0 := fun (o : Obj) => (hb1.alloc o).cell 0; have c1 := fun (o : Obj) => (hb1.alloc o).cell 1; have f0 := fun (o : Obj) => (hb1.alloc o).frozen 0; have f1 := fun (o : Obj) => (hb1.alloc o).frozen 1; simp only [List.getElem?_toArray, List.getElem?_cons_zero, List.getElem?_cons_succ] at c0 c1; clear hb1))
    | (go_at_call 30; go_must (refine (plainField_ok _ _ _).mono ?_; rintro e w9 ⟨rfl, hk9⟩; replace K := K.trans' hk9; clear hk9 c0 c1 f0 f1; have hb1 := HC.out.1.kept K (fun h => h); have c0 := fun (o : Obj) => (hb1.alloc o).cell 0; have c1 := fun (o : Obj) => (hb1.alloc o).cell 1; have f0 := fun (o : Obj) => (hb1.alloc o).frozen 0; have f1 := fun (o : Obj) => (hb1.alloc o).frozen 1; simp only [List.getElem?_toArray, List.getElem?_cons_zero, List.getElem?_cons_succ] at c0 c1; clear hb1))
    | (go_at_call 31; go_must (refine (symbols_no _).mono ?_; rintro e w9 ⟨rfl, hk9⟩; replace K := K.trans' hk9; clear hk9 c0 c1 f0 f1; have hb1 := HC.out.1.kept K (fun h => h); have c0 := fun (o : Obj) => (hb1.alloc o).cell 0; have c1 := fun (o : Obj) => (hb1.alloc o).cell 1; have f0 := fun (o : Obj) => (hb1.alloc o).frozen 0; have f1 := fun (o : Obj) => (hb1.alloc o).frozen 1; simp only [List.getElem?_toArray, List.getElem?_cons_zero, List.getElem?_cons_succ] at c0 c1; clear hb1))
    | (go_at_call 32; go_must (refine (mapField_no _).mono ?_; rintro e w9 ⟨rfl, hk9⟩; replace K := K.trans' hk9; clear hk9 c0 c1 f0 f1; have hb1 := HC.out.1.kept K (fun h => h); have c0 := fun (o : Obj) => (hb1.alloc o).cell 0; have c1 := fun (o : Obj) => (hb1.alloc o).cell 1; have f0 := fun (o : Obj) => (hb1.alloc o).frozen 0; have f1 := fun (o : Obj) => (hb1.alloc o).frozen 1; simp only [List.getElem?_toArray, List.getElem?_cons_zero, List.getElem?_cons_succ] at c0 c1; clear hb1)))
  go_wp2
  have hd := comp_doneB w w9 (B + 1) (.int .u64 16) (.slice (some ⟨w9.heap.size, 0, none⟩) 10 10) cOpen.toArray (by have := HBB.out; omega) (HC.out.2.1.trans' K) (HC.out.1.kept K (fun h => h))
  exact bodyPost_ret (results_cell_row (P := Tryz.prog) rfl _ _ (B + 1) 30 _ (0, 0) _ rfl hd.1 Tryz.underlying30 rfl (by kernel_rfl)) rfl ⟨_, rfl, hd.2.2.2, hd.2.1, hd.2.2.1⟩
abbrev cFlow : List Value := [.int .i64 0, .int .u64 0, .string ⟨#[]⟩, .slice none 0 0, .int .i64 0, .slice none 0 0, .int .i64 0, .int .u64 0, .string ⟨#[]⟩, .slice none 0 0, .int .i64 0, .slice none 0 0, .int .i64 4, .int .u64 1, .string ⟨#[]⟩, .slice none 0 0, .int .i64 0, .slice none 0 0, .int .i64 0, .int .u64 0, .string ⟨#[]⟩, .slice none 0 0, .int .i64 0, .slice none 0 0, .int .i64 4, .int .u64 0, .string ⟨#[]⟩, .slice none 0 0, .int .i64 0, .slice none 0 0, .int .i64 0, .int .u64 0, .string ⟨#[]⟩, .slice none 0 0, .int .i64 0, .slice none 0 0, .int .i64 4, .int .u64 0, .string ⟨#[]⟩, .slice none 0 0, .int .i64 0, .slice none 0 0, .int .i64 0, .int .u64 0, .string ⟨#[]⟩, .slice none 0 0, .int .i64 0, .slice none 0 0, .int .i64 0, .int .u64 0, .string ⟨#[]⟩, .slice none 0 0, .int .i64 0, .slice none 0 0, .int .i64 0, .int .u64 0, .string ⟨#[]⟩, .slice none 0 0, .int .i64 0, .slice none 0 0, .int .i64 0, .int .u64 0, .string ⟨#[]⟩, .slice none 0 0, .int .i64 0, .slice none 0 0, .int .i64 0, .int .u64 0, .string ⟨#[]⟩, .slice none 0 0, .int .i64 0, .slice none 0 0, .int .i64 0, .int .u64 0, .string ⟨#[]⟩, .slice none 0 0, .int .i64 0, .slice none 0 0, .int .i64 0, .int .u64 0, .string ⟨#[]⟩, .slice none 0 0, .int .i64 0, .slice none 0 0, .int .i64 0, .int .u64 0, .string ⟨#[]⟩, .slice none 0 0, .int .i64 0, .slice none 0 0, .int .i64 0, .int .u64 0, .string ⟨#[]⟩, .slice none 0 0, .int .i64 0, .slice none 0 0, .int .i64 1, .int .u64 0, .string ⟨#[]⟩, .slice none 0 0, .int .i64 0, .slice none 0 0, .int .i64 1, .int .u64 0, .string ⟨#[]⟩, .slice none 0 0, .int .i64 0, .slice none 0 0, .int .i64 1, .int .u64 0, .string ⟨#[]⟩, .slice none 0 0, .int .i64 0, .slice none 0 0, .int .i64 1, .int .u64 0, .string ⟨#[]⟩, .slice none 0 0, .int .i64 0, .slice none 0 0, .int .i64 0, .int .u64 0, .string ⟨#[]⟩, .slice none 0 0, .int .i64 0, .slice none 0 0, .int .i64 0, .int .u64 0, .string ⟨#[]⟩, .slice none 0 0, .int .i64 0, .slice none 0 0]
set_option maxRecDepth 100000 in
set_option maxHeartbeats 4000000 in
theorem ofFlow_ok (w : World) : Calls Tryz.prog 10 #[.agg #[.slice none 0 0, .int .u32 1, .int .u32 0, .int .u32 0, .slice none 0 0, .slice none 0 0, .slice none 0 0, .slice none 0 0, .bool false, .bool false, .slice none 0 0]] w (CompP w 19 11 cFlow) := by
  go_enter Tryz.func10, Tryz.ntmps10
  go_wp2_with (fail)
  obtain ⟨W2, hW⟩ : ∃ W2, (w.alloc (.cells #[.slice none 0 0, .int .u32 1, .int .u32 0, .int .u32 0, .slice none 0 0, .slice none 0 0, .slice none 0 0, .slice none 0 0, .bool false, .bool false, .slice none 0 0] 56)).alloc (.cells #[.int .u64 0, .slice none 0 0] 30) = W2 := ⟨_, rfl⟩
  have hb := (Blk.new w 56 #[.slice none 0 0, .int .u32 1, .int .u32 0, .int .u32 0, .slice none 0 0, .slice none 0 0, .slice none 0 0, .slice none 0 0, .bool false, .bool false, .slice none 0 0]).alloc (.cells zComp 30)
  have hc := Blk.new (w.alloc (.cells #[.slice none 0 0, .int .u32 1, .int .u32 0, .int .u32 0, .slice none 0 0, .slice none 0 0, .slice none 0 0, .slice none 0 0, .bool false, .bool false, .slice none 0 0] 56)) 30 zComp
  have hk := ((Kept.refl Nope w).alloc (.cells #[.slice none 0 0, .int .u32 1, .int .u32 0, .int .u32 0, .slice none 0 0, .slice none 0 0, .slice none 0 0, .slice none 0 0, .bool false, .bool false, .slice none 0 0] 56)).alloc (.cells zComp 30)
  unfold zComp at hb hc hk
  rw [World.size_alloc] at hc
  rw [hW] at hb hc hk ⊢
  have HQ : Hid (∀ w', Kept (Only (w.heap.size + 1)) W2 w' → w'.cell? ⟨w.heap.size, 0, none⟩ = some (.slice none 0 0) ∧ w'.cell? ⟨w.heap.size, 1, none⟩ = some (.int .u32 1) ∧ w'.cell? ⟨w.heap.size, 2, none⟩ = some (.int .u32 0) ∧ w'.cell? ⟨w.heap.size, 3, none⟩ = some (.int .u32 0) ∧ w'.cell? ⟨w.heap.size, 4, none⟩ = some (.slice none 0 0) ∧ w'.cell? ⟨w.heap.size, 5, none⟩ = some (.slice none 0 0) ∧ w'.cell? ⟨w.heap.size, 6, none⟩ = some (.slice none 0 0) ∧ w'.cell? ⟨w.heap.size, 7, none⟩ = some (.slice none 0 0) ∧ w'.cell? ⟨w.heap.size, 8, none⟩ = some (.bool false) ∧ w'.cell? ⟨w.heap.size, 9, none⟩ = some (.bool false) ∧ w'.cell? ⟨w.heap.size, 10, none⟩ = some (.slice none 0 0)) := Lib.hid fun w' h => by
    have g := hb.kept h (fun e => by have e' : w.heap.size = w.heap.size + 1 := e; omega)
    exact ⟨g.cell 0, g.cell 1, g.cell 2, g.cell 3, g.cell 4, g.cell 5, g.cell 6, g.cell 7, g.cell 8, g.cell 9, g.cell 10⟩
  have hwB : w.heap.size ≤ w.heap.size + 1 := by omega
  have HC := Lib.hid (And.intro hc (And.intro hk hwB))
  clear hb hc hk hW hwB
  obtain ⟨B, hB⟩ : ∃ B, w.heap.size = B := ⟨_, rfl⟩
  have HBB := Lib.hid hB
  simp only [hB] at HQ HC ⊢
  clear hB
  have e1 : IntKind.u64.wrap 1 = 1 := by decide
  have e0 : IntKind.u64.wrap 0 = 0 := by decide
  have K : Kept Nope W2 W2.drew := (Kept.refl _ _).drew
  have c0 := True.intro
  have c1 := True.intro
  have f0 := True.intro
  have f1 := True.intro
  go_region_held3 (fun w' => w'.cell? ⟨B, 0, none⟩ = some (.slice none 0 0) ∧ w'.cell? ⟨B, 1, none⟩ = some (.int .u32 1) ∧ w'.cell? ⟨B, 2, none⟩ = some (.int .u32 0) ∧ w'.cell? ⟨B, 3, none⟩ = some (.int .u32 0) ∧ w'.cell? ⟨B, 4, none⟩ = some (.slice none 0 0) ∧ w'.cell? ⟨B, 5, none⟩ = some (.slice none 0 0) ∧ w'.cell? ⟨B, 6, none⟩ = some (.slice none 0 0) ∧ w'.cell? ⟨B, 7, none⟩ = some (.slice none 0 0) ∧ w'.cell? ⟨B, 8, none⟩ = some (.bool false) ∧ w'.cell? ⟨B, 9, none⟩ = some (.bool false) ∧ w'.cell? ⟨B, 10, none⟩ = some (.slice none 0 0)) (first | with_reducible exact HQ.out _ K.nope | with_reducible exact HQ.out _ (K.nope.alloc _) | with_reducible exact HQ.out _ (((K.nope.alloc _).set1 0 _).set1 1 _) | fail) (first
    | (go_at_call 41; go_must (refine (maybe32_no _ _).mono ?_; rintro e w9 ⟨rfl, hk9⟩; replace K := K.trans' hk9; clear hk9 c0 c1 f0 f1; have hb1 := HC.out.1.kept K (fun h => h); have c0 := fun (o : Obj) => (hb1.alloc o).cell 0; have c1 := fun (o : Obj) => (hb1.alloc o).cell 1; have f0 := fun (o : Obj) => (hb1.alloc o).frozen 0; have f1 := fun (o : Obj) => (hb1.alloc o).frozen 1; simp only [List.getElem?_toArray, List.getElem?_cons_zero, List.getElem?_cons_succ] at c0 c1; clear hb1))
    | (go_at_call 34; go_must (refine (ofNumber_q _ _ _).mono ?_; rintro e w9 ⟨rfl, hk9⟩; replace K := K.trans' hk9; clear hk9 c0 c1 f0 f1; have hb1 := HC.out.1.kept K (fun h => h); have c0 := fun (o : Obj) => (hb1.alloc o).cell 0; have c1 := fun (o : Obj) => (hb1.alloc o).cell 1; have f0 := fun (o : Obj) => (hb1.alloc o).frozen 0; have f1 := fun (o : Obj) => (hb1.alloc o).frozen 1; simp only [List.getElem?_toArray, List.getElem?_cons_zero, List.getElem?_cons_succ] at c0 c1; clear hb1))
    | (go_at_call 40; go_must (refine (flag_no _).mono ?_; rintro e w9 ⟨rfl, hk9⟩; replace K := K.trans' hk9; clear hk9 c0 c1 f0 f1; have hb1 := HC.out.1.kept K (fun h => h); have c0 := fun (o : Obj) => (hb1.alloc o).cell 0; have c1 := fun (o : Obj) => (hb1.alloc o).cell 1; have f0 := fun (o : Obj) => (hb1.alloc o).frozen 0; have f1 := fun (o : Obj) => (hb1.alloc o).frozen 1; simp only [List.getElem?_toArray, List.getElem?_cons_zero, List.getElem?_cons_succ] at c0 c1; clear hb1))
    | (go_at_call 32; go_must (refine (mapField_no _).mono ?_; rintro e w9 ⟨rfl, hk9⟩; replace K := K.trans' hk9; clear hk9 c0 c1 f0 f1; have hb1 := HC.out.1.kept K (fun h => h); have c0 := fun (o : Obj) => (hb1.alloc o).cell 0; have c1 := fun (o : Obj) => (hb1.alloc o).cell 1; have f0 := fun (o : Obj) => (hb1.alloc o).frozen 0; have f1 := fun (o : Obj) => (hb1.alloc o).frozen 1; simp only [List.getElem?_toArray, List.getElem?_cons_zero, List.getElem?_cons_succ] at c0 c1; clear hb1)))
  go_wp2
  have hd := comp_doneB w w9 (B + 1) (.int .u64 19) (.slice (some ⟨w9.heap.size, 0, none⟩) 11 11) cFlow.toArray (by have := HBB.out; omega) (HC.out.2.1.trans' K) (HC.out.1.kept K (fun h => h))
  exact bodyPost_ret (results_cell_row (P := Tryz.prog) rfl _ _ (B + 1) 30 _ (0, 0) _ rfl hd.1 Tryz.underlying30 rfl (by kernel_rfl)) rfl ⟨_, rfl, hd.2.2.2, hd.2.1, hd.2.2.1⟩
end Go.Proofs.YtbckofjoancdjaaGreatDoor
namespace Go.Proofs.YtbckofjoancdjaaGreatDoor
open Go Go.RowKit Go.Lib
abbrev cDisposition : List Value := [.int .i64 1, .int .u64 0, .string ⟨#[]⟩, .slice none 0 0, .int .i64 0, .slice none 0 0, .int .i64 0, .int .u64 0, .string ⟨#[]⟩, .slice none 0 0, .int .i64 0, .slice none 0 0, .int .i64 4, .int .u64 1, .string ⟨#[]⟩, .slice none 0 0, .int .i64 0, .slice none 0 0, .int .i64 0, .int .u64 0, .string ⟨#[]⟩, .slice none 0 0, .int .i64 0, .slice none 0 0, .int .i64 0, .int .u64 0, .string ⟨#[]⟩, .slice none 0 0, .int .i64 0, .slice none 0 0, .int .i64 0, .int .u64 0, .string ⟨#[]⟩, .slice none 0 0, .int .i64 0, .slice none 0 0, .int .i64 1, .int .u64 0, .string ⟨#[]⟩, .slice none 0 0, .int .i64 0, .slice none 0 0, .int .i64 1, .int .u64 0, .string ⟨#[]⟩, .slice none 0 0, .int .i64 0, .slice none 0 0, .int .i64 0, .int .u64 0, .string ⟨#[]⟩, .slice none 0 0, .int .i64 0, .slice none 0 0, .int .i64 0, .int .u64 0, .string ⟨#[]⟩, .slice none 0 0, .int .i64 0, .slice none 0 0, .int .i64 1, .int .u64 0, .string ⟨#[]⟩, .slice none 0 0, .int .i64 0, .slice none 0 0, .int .i64 1, .int .u64 0, .string ⟨#[]⟩, .slice none 0 0, .int .i64 0, .slice none 0 0]
set_option maxRecDepth 100000 in
set_option maxHeartbeats 4000000 in
theorem ofDisposition_ok (w : World) : Calls Tryz.prog 12 #[.agg #[.bool false, .int .u32 1, .slice none 0 0, .bool false, .bool false, .slice none 0 0]] w (CompP w 21 6 cDisposition) := by
  go_enter Tryz.func12, Tryz.ntmps12
  go_wp2_with (fail)
  obtain ⟨W2, hW⟩ : ∃ W2, (w.alloc (.cells #[.bool false, .int .u32 1, .slice none 0 0, .bool false, .bool false, .slice none 0 0] 62)).alloc (.cells #[.int .u64 0, .slice none 0 0] 30) = W2 := ⟨_, rfl⟩
  have hb := (Blk.new w 62 #[.bool false, .int .u32 1, .slice none 0 0, .bool false, .bool false, .slice none 0 0]).alloc (.cells zComp 30)
  have hc := Blk.new (w.alloc (.cells #[.bool false, .int .u32 1, .slice none 0 0, .bool false, .bool false, .slice none 0 0] 62)) 30 zComp
  have hk := ((Kept.refl Nope w).alloc (.cells #[.bool false, .int .u32 1, .slice none 0 0, .bool false, .bool false, .slice none 0 0] 62)).alloc (.cells zComp 30)
  unfold zComp at hb hc hk
  rw [World.size_alloc] at hc
  rw [hW] at hb hc hk ⊢
  have HQ : Hid (∀ w', Kept (Only (w.heap.size + 1)) W2 w' → w'.cell? ⟨w.heap.size, 0, none⟩ = some (.bool false) ∧ w'.cell? ⟨w.heap.size, 1, none⟩ = some (.int .u32 1) ∧ w'.cell? ⟨w.heap.size, 2, none⟩ = some (.slice none 0 0) ∧ w'.cell? ⟨w.heap.size, 3, none⟩ = some (.bool false) ∧ w'.cell? ⟨w.heap.size, 4, none⟩ = some (.bool false) ∧ w'.cell? ⟨w.heap.size, 5, none⟩ = some (.slice none 0 0)) := Lib.hid fun w' h => by
    have g := hb.kept h (fun e => by have e' : w.heap.size = w.heap.size + 1 := e; omega)
    exact ⟨g.cell 0, g.cell 1, g.cell 2, g.cell 3, g.cell 4, g.cell 5⟩
  have hwB : w.heap.size ≤ w.heap.size + 1 := by omega
  have HC := Lib.hid (And.intro hc (And.intro hk hwB))
  clear hb hc hk hW hwB
  obtain ⟨B, hB⟩ : ∃ B, w.heap.size = B := ⟨_, rfl⟩
  have HBB := Lib.hid hB
  simp only [hB] at HQ HC ⊢
  clear hB
  have e1 : IntKind.u64.wrap 1 = 1 := by decide
  have e0 : IntKind.u64.wrap 0 = 0 := by decide
  have K : Kept Nope W2 W2.drew := (Kept.refl _ _).drew
  have c0 := True.intro
  have c1 := True.intro
  have f0 := True.intro
  have f1 := True.intro
  go_region_held3 (fun w' => w'.cell? ⟨B, 0, none⟩ = some (.bool false) ∧ w'.cell? ⟨B, 1, none⟩ = some (.int .u32 1) ∧ w'.cell? ⟨B, 2, none⟩ = some (.slice none 0 0) ∧ w'.cell? ⟨B, 3, none⟩ = some (.bool false) ∧ w'.cell? ⟨B, 4, none⟩ = some (.bool false) ∧ w'.cell? ⟨B, 5, none⟩ = some (.slice none 0 0)) (first | with_reducible exact HQ.out _ K.nope | with_reducible exact HQ.out _ (K.nope.alloc _) | with_reducible exact HQ.out _ (((K.nope.alloc _).set1 0 _).set1 1 _) | fail) (first
    | (go_at_call 39; go_must (refine (truth_q _).mono ?_; rintro e w9 ⟨rfl, hk9⟩; replace K := K.trans' hk9; clear hk9 c0 c1 f0 f1; have hb1 := HC.out.1.kept K (fun h => h); have c0 := fun (o : Obj) => (hb1.alloc o).cell 0; have c1 := fun (o : Obj) => (hb1.alloc o).cell 1; have f0 := fun (o : Obj) => (hb1.alloc o).frozen 0; have f1 := fun (o : Obj) => (hb1.alloc o).frozen 1; simp only [List.getElem?_toArray, List.getElem?_cons_zero, List.getElem?_cons_succ] at c0 c1; clear hb1))
    | (go_at_call 34; go_must (refine (ofNumber_q _ _ _).mono ?_; rintro e w9 ⟨rfl, hk9⟩; replace K := K.trans' hk9; clear hk9 c0 c1 f0 f1; have hb1 := HC.out.1.kept K (fun h => h); have c0 := fun (o : Obj) => (hb1.alloc o).cell 0; have c1 := fun (o : Obj) => (hb1.alloc o).cell 1; have f0 := fun (o : Obj) => (hb1.alloc o).frozen 0; have f1 := fun (o : Obj) => (hb1.alloc o).frozen 1; simp only [List.getElem?_toArray, List.getElem?_cons_zero, List.getElem?_cons_succ] at c0 c1; clear hb1))
    | (go_at_call 41; go_must (refine (maybe32_no _ _).mono ?_; rintro e w9 ⟨rfl, hk9⟩; replace K := K.trans' hk9; clear hk9 c0 c1 f0 f1; have hb1 := HC.out.1.kept K (fun h => h); have c0 := fun (o : Obj) => (hb1.alloc o).cell 0; have c1 := fun (o : Obj) => (hb1.alloc o).cell 1; have f0 := fun (o : Obj) => (hb1.alloc o).frozen 0; have f1 := fun (o : Obj) => (hb1.alloc o).frozen 1; simp only [List.getElem?_toArray, List.getElem?_cons_zero, List.getElem?_cons_succ] at c0 c1; clear hb1))
    | (go_at_call 40; go_must (refine (flag_no _).mono ?_; rintro e w9 ⟨rfl, hk9⟩; replace K := K.trans' hk9; clear hk9 c0 c1 f0 f1; have hb1 := HC.out.1.kept K (fun h => h); have c0 := fun (o : Obj) => (hb1.alloc o).cell 0; have c1 := fun (o : Obj) => (hb1.alloc o).cell 1; have f0 := fun (o : Obj) => (hb1.alloc o).frozen 0; have f1 := fun (o : Obj) => (hb1.alloc o).frozen 1; simp only [List.getElem?_toArray, List.getElem?_cons_zero, List.getElem?_cons_succ] at c0 c1; clear hb1))
    | (go_at_call 42; go_must (refine (states_no _).mono ?_; rintro e w9 ⟨rfl, hk9⟩; replace K := K.trans' hk9; clear hk9 c0 c1 f0 f1; have hb1 := HC.out.1.kept K (fun h => h); have c0 := fun (o : Obj) => (hb1.alloc o).cell 0; have c1 := fun (o : Obj) => (hb1.alloc o).cell 1; have f0 := fun (o : Obj) => (hb1.alloc o).frozen 0; have f1 := fun (o : Obj) => (hb1.alloc o).frozen 1; simp only [List.getElem?_toArray, List.getElem?_cons_zero, List.getElem?_cons_succ] at c0 c1; clear hb1)))
  go_wp2
  have hd := comp_doneB w w9 (B + 1) (.int .u64 21) (.slice (some ⟨w9.heap.size, 0, none⟩) 6 6) cDisposition.toArray (by have := HBB.out; omega) (HC.out.2.1.trans' K) (HC.out.1.kept K (fun h => h))
  exact bodyPost_ret (results_cell_row (P := Tryz.prog) rfl _ _ (B + 1) 30 _ (0, 0) _ rfl hd.1 Tryz.underlying30 rfl (by kernel_rfl)) rfl ⟨_, rfl, hd.2.2.2, hd.2.1, hd.2.2.1⟩
abbrev cTransfer : List Value := [.int .i64 4, .int .u64 1, .string ⟨#[]⟩, .slice none 0 0, .int .i64 0, .slice none 0 0, .int .i64 0, .int .u64 0, .string ⟨#[]⟩, .slice none 0 0, .int .i64 0, .slice none 0 0, .int .i64 0, .int .u64 0, .string ⟨#[]⟩, .slice none 0 0, .int .i64 0, .slice none 0 0, .int .i64 0, .int .u64 0, .string ⟨#[]⟩, .slice none 0 0, .int .i64 0, .slice none 0 0, .int .i64 0, .int .u64 0, .string ⟨#[]⟩, .slice none 0 0, .int .i64 0, .slice none 0 0, .int .i64 0, .int .u64 0, .string ⟨#[]⟩, .slice none 0 0, .int .i64 0, .slice none 0 0, .int .i64 0, .int .u64 0, .string ⟨#[]⟩, .slice none 0 0, .int .i64 0, .slice none 0 0, .int .i64 0, .int .u64 0, .string ⟨#[]⟩, .slice none 0 0, .int .i64 0, .slice none 0 0, .int .i64 1, .int .u64 0, .string ⟨#[]⟩, .slice none 0 0, .int .i64 0, .slice none 0 0, .int .i64 1, .int .u64 0, .string ⟨#[]⟩, .slice none 0 0, .int .i64 0, .slice none 0 0, .int .i64 1, .int .u64 0, .string ⟨#[]⟩, .slice none 0 0, .int .i64 0, .slice none 0 0, .int .i64 1, .int .u64 0, .string ⟨#[]⟩, .slice none 0 0, .int .i64 0, .slice none 0 0, .int .i64 0, .int .u64 0, .string ⟨#[]⟩, .slice none 0 0, .int .i64 0, .slice none 0 0, .int .i64 0, .int .u64 0, .string ⟨#[]⟩, .slice none 0 0, .int .i64 0, .slice none 0 0, .int .i64 0, .int .u64 0, .string ⟨#[]⟩, .slice none 0 0, .int .i64 0, .slice none 0 0, .int .i64 0, .int .u64 0, .string ⟨#[]⟩, .slice none 0 0, .int .i64 0, .slice none 0 0, .int .i64 1, .int .u64 0, .string ⟨#[]⟩, .slice none 0 0, .int .i64 0, .slice none 0 0, .int .i64 1, .int .u64 0, .string ⟨#[]⟩, .slice none 0 0, .int .i64 0, .slice none 0 0, .int .i64 1, .int .u64 0, .string ⟨#[]⟩, .slice none 0 0, .int .i64 0, .slice none 0 0, .int .i64 1, .int .u64 0, .string ⟨#[]⟩, .slice none 0 0, .int .i64 0, .slice none 0 0, .int .i64 1, .int .u64 0, .string ⟨#[]⟩, .slice none 0 0, .int .i64 0, .slice none 0 0, .int .i64 1, .int .u64 0, .string ⟨#[]⟩, .slice none 0 0, .int .i64 0, .slice none 0 0]
set_option maxRecDepth 100000 in
set_option maxHeartbeats 4000000 in
theorem ofTransfer_ok (w : World) : Calls Tryz.prog 11 #[.agg #[.int .u32 1, .slice none 0 0, .slice none 0 0, .slice none 0 0, .bool false, .bool false, .slice none 0 0, .slice none 0 0, .bool false, .bool false, .bool false, .slice none 0 0]] w (CompP w 20 11 cTransfer) := by
  go_enter Tryz.func11, Tryz.ntmps11
  go_wp2_with (fail)
  obtain ⟨W2, hW⟩ : ∃ W2, ((w.alloc (.cells #[.int .u32 1, .slice none 0 0, .slice none 0 0, .slice none 0 0, .bool false, .bool false, .slice none 0 0, .slice none 0 0, .bool false, .bool false, .bool false, .slice none 0 0] 59)).alloc (.cells #[.int .u64 0, .slice none 0 0] 30)).alloc (.cells #[.int .i64 0, .int .u64 0, .string ⟨#[]⟩, .slice none 0 0, .int .i64 0, .slice none 0 0, .int .i64 0, .int .u64 0, .string ⟨#[]⟩, .slice none 0 0, .int .i64 0, .slice none 0 0] 95) = W2 := ⟨_, rfl⟩
  have hb := (Blk.new w 59 #[.int .u32 1, .slice none 0 0, .slice none 0 0, .slice none 0 0, .bool false, .bool false, .slice none 0 0, .slice none 0 0, .bool false, .bool false, .bool false, .slice none 0 0]).alloc (.cells zComp 30)
  have hc := Blk.new (w.alloc (.cells #[.int .u32 1, .slice none 0 0, .slice none 0 0, .slice none 0 0, .bool false, .bool false, .slice none 0 0, .slice none 0 0, .bool false, .bool false, .bool false, .slice none 0 0] 59)) 30 zComp
  have hk := ((Kept.refl Nope w).alloc (.cells #[.int .u32 1, .slice none 0 0, .slice none 0 0, .slice none 0 0, .bool false, .bool false, .slice none 0 0, .slice none 0 0, .bool false, .bool false, .bool false, .slice none 0 0] 59)).alloc (.cells zComp 30)
  have hv := Blk.new ((w.alloc (.cells #[.int .u32 1, .slice none 0 0, .slice none 0 0, .slice none 0 0, .bool false, .bool false, .slice none 0 0, .slice none 0 0, .bool false, .bool false, .bool false, .slice none 0 0] 59)).alloc (.cells zComp 30)) 95 nofC.toArray
  replace hb := hb.alloc (.cells nofC.toArray 95)
  replace hc := hc.alloc (.cells nofC.toArray 95)
  replace hk := hk.alloc (.cells nofC.toArray 95)
  rw [World.size_alloc, World.size_alloc] at hv
  simp only [zComp, nofC] at hb hc hk hv
  rw [World.size_alloc] at hc
  rw [hW] at hb hc hk hv ⊢
  have HQ : Hid (∀ w', Kept (Only (w.heap.size + 1)) W2 w' → w'.cell? ⟨w.heap.size, 0, none⟩ = some (.int .u32 1) ∧ w'.cell? ⟨w.heap.size, 1, none⟩ = some (.slice none 0 0) ∧ w'.cell? ⟨w.heap.size, 2, none⟩ = some (.slice none 0 0) ∧ w'.cell? ⟨w.heap.size, 3, none⟩ = some (.slice none 0 0) ∧ w'.cell? ⟨w.heap.size, 4, none⟩ = some (.bool false) ∧ w'.cell? ⟨w.heap.size, 5, none⟩ = some (.bool false) ∧ w'.cell? ⟨w.heap.size, 6, none⟩ = some (.slice none 0 0) ∧ w'.cell? ⟨w.heap.size, 7, none⟩ = some (.slice none 0 0) ∧ w'.cell? ⟨w.heap.size, 8, none⟩ = some (.bool false) ∧ w'.cell? ⟨w.heap.size, 9, none⟩ = some (.bool false) ∧ w'.cell? ⟨w.heap.size, 10, none⟩ = some (.bool false) ∧ w'.cell? ⟨w.heap.size, 11, none⟩ = some (.slice none 0 0) ∧ w'.cell? ⟨w.heap.size + 1 + 1, 0, none⟩ = some (.int .i64 0) ∧ w'.cell? ⟨w.heap.size + 1 + 1, 1, none⟩ = some (.int .u64 0) ∧ w'.cell? ⟨w.heap.size + 1 + 1, 2, none⟩ = some (.string ⟨#[]⟩) ∧ w'.cell? ⟨w.heap.size + 1 + 1, 3, none⟩ = some (.slice none 0 0) ∧ w'.cell? ⟨w.heap.size + 1 + 1, 4, none⟩ = some (.int .i64 0) ∧ w'.cell? ⟨w.heap.size + 1 + 1, 5, none⟩ = some (.slice none 0 0) ∧ w'.cell? ⟨w.heap.size + 1 + 1, 6, none⟩ = some (.int .i64 0) ∧ w'.cell? ⟨w.heap.size + 1 + 1, 7, none⟩ = some (.int .u64 0) ∧ w'.cell? ⟨w.heap.size + 1 + 1, 8, none⟩ = some (.string ⟨#[]⟩) ∧ w'.cell? ⟨w.heap.size + 1 + 1, 9, none⟩ = some (.slice none 0 0) ∧ w'.cell? ⟨w.heap.size + 1 + 1, 10, none⟩ = some (.int .i64 0) ∧ w'.cell? ⟨w.heap.size + 1 + 1, 11, none⟩ = some (.slice none 0 0)) := Lib.hid fun w' h => by
    have g := hb.kept h (fun e => by have e' : w.heap.size = w.heap.size + 1 := e; omega)
    have v := hv.kept h (fun e => by have e' : w.heap.size + 1 + 1 = w.heap.size + 1 := e; omega)
    exact ⟨g.cell 0, g.cell 1, g.cell 2, g.cell 3, g.cell 4, g.cell 5, g.cell 6, g.cell 7, g.cell 8, g.cell 9, g.cell 10, g.cell 11, v.cell 0, v.cell 1, v.cell 2, v.cell 3, v.cell 4, v.cell 5, v.cell 6, v.cell 7, v.cell 8, v.cell 9, v.cell 10, v.cell 11⟩
  have hwB : w.heap.size ≤ w.heap.size + 1 := by omega
  have HC := Lib.hid (And.intro hc (And.intro hk hwB))
  clear hb hc hk hW hwB hv
  obtain ⟨B, hB⟩ : ∃ B, w.heap.size = B := ⟨_, rfl⟩
  have HBB := Lib.hid hB
  simp only [hB] at HQ HC ⊢
  clear hB
  have e1 : IntKind.u64.wrap 1 = 1 := by decide
  have e0 : IntKind.u64.wrap 0 = 0 := by decide
  have K : Kept Nope W2 W2.drew := (Kept.refl _ _).drew
  have c0 := True.intro
  have c1 := True.intro
  have f0 := True.intro
  have f1 := True.intro
  go_region_held3 (fun w' => w'.cell? ⟨B, 0, none⟩ = some (.int .u32 1) ∧ w'.cell? ⟨B, 1, none⟩ = some (.slice none 0 0) ∧ w'.cell? ⟨B, 2, none⟩ = some (.slice none 0 0) ∧ w'.cell? ⟨B, 3, none⟩ = some (.slice none 0 0) ∧ w'.cell? ⟨B, 4, none⟩ = some (.bool false) ∧ w'.cell? ⟨B, 5, none⟩ = some (.bool false) ∧ w'.cell? ⟨B, 6, none⟩ = some (.slice none 0 0) ∧ w'.cell? ⟨B, 7, none⟩ = some (.slice none 0 0) ∧ w'.cell? ⟨B, 8, none⟩ = some (.bool false) ∧ w'.cell? ⟨B, 9, none⟩ = some (.bool false) ∧ w'.cell? ⟨B, 10, none⟩ = some (.bool false) ∧ w'.cell? ⟨B, 11, none⟩ = some (.slice none 0 0) ∧ w'.cell? ⟨B + 1 + 1, 0, none⟩ = some (.int .i64 0) ∧ w'.cell? ⟨B + 1 + 1, 1, none⟩ = some (.int .u64 0) ∧ w'.cell? ⟨B + 1 + 1, 2, none⟩ = some (.string ⟨#[]⟩) ∧ w'.cell? ⟨B + 1 + 1, 3, none⟩ = some (.slice none 0 0) ∧ w'.cell? ⟨B + 1 + 1, 4, none⟩ = some (.int .i64 0) ∧ w'.cell? ⟨B + 1 + 1, 5, none⟩ = some (.slice none 0 0) ∧ w'.cell? ⟨B + 1 + 1, 6, none⟩ = some (.int .i64 0) ∧ w'.cell? ⟨B + 1 + 1, 7, none⟩ = some (.int .u64 0) ∧ w'.cell? ⟨B + 1 + 1, 8, none⟩ = some (.string ⟨#[]⟩) ∧ w'.cell? ⟨B + 1 + 1, 9, none⟩ = some (.slice none 0 0) ∧ w'.cell? ⟨B + 1 + 1, 10, none⟩ = some (.int .i64 0) ∧ w'.cell? ⟨B + 1 + 1, 11, none⟩ = some (.slice none 0 0)) (first | with_reducible exact HQ.out _ K.nope | with_reducible exact HQ.out _ (K.nope.alloc _) | with_reducible exact HQ.out _ (((K.nope.alloc _).set1 0 _).set1 1 _) | fail) (first
    | (go_at_call 34; go_must (refine (ofNumber_q _ _ _).mono ?_; rintro e w9 ⟨rfl, hk9⟩; replace K := K.trans' hk9; clear hk9 c0 c1 f0 f1; have hb1 := HC.out.1.kept K (fun h => h); have c0 := fun (o : Obj) => (hb1.alloc o).cell 0; have c1 := fun (o : Obj) => (hb1.alloc o).cell 1; have f0 := fun (o : Obj) => (hb1.alloc o).frozen 0; have f1 := fun (o : Obj) => (hb1.alloc o).frozen 1; simp only [List.getElem?_toArray, List.getElem?_cons_zero, List.getElem?_cons_succ] at c0 c1; clear hb1))
    | (go_at_call 41; go_must (refine (maybe32_no _ _).mono ?_; rintro e w9 ⟨rfl, hk9⟩; replace K := K.trans' hk9; clear hk9 c0 c1 f0 f1; have hb1 := HC.out.1.kept K (fun h => h); have c0 := fun (o : Obj) => (hb1.alloc o).cell 0; have c1 := fun (o : Obj) => (hb1.alloc o).cell 1; have f0 := fun (o : Obj) => (hb1.alloc o).frozen 0; have f1 := fun (o : Obj) => (hb1.alloc o).frozen 1; simp only [List.getElem?_toArray, List.getElem?_cons_zero, List.getElem?_cons_succ] at c0 c1; clear hb1))
    | (go_at_call 40; go_must (refine (flag_no _).mono ?_; rintro e w9 ⟨rfl, hk9⟩; replace K := K.trans' hk9; clear hk9 c0 c1 f0 f1; have hb1 := HC.out.1.kept K (fun h => h); have c0 := fun (o : Obj) => (hb1.alloc o).cell 0; have c1 := fun (o : Obj) => (hb1.alloc o).cell 1; have f0 := fun (o : Obj) => (hb1.alloc o).frozen 0; have f1 := fun (o : Obj) => (hb1.alloc o).frozen 1; simp only [List.getElem?_toArray, List.getElem?_cons_zero, List.getElem?_cons_succ] at c0 c1; clear hb1))
    | (go_at_call 38; go_must (refine (maybe8_no _ _).mono ?_; rintro e w9 ⟨rfl, hk9⟩; replace K := K.trans' hk9; clear hk9 c0 c1 f0 f1; have hb1 := HC.out.1.kept K (fun h => h); have c0 := fun (o : Obj) => (hb1.alloc o).cell 0; have c1 := fun (o : Obj) => (hb1.alloc o).cell 1; have f0 := fun (o : Obj) => (hb1.alloc o).frozen 0; have f1 := fun (o : Obj) => (hb1.alloc o).frozen 1; simp only [List.getElem?_toArray, List.getElem?_cons_zero, List.getElem?_cons_succ] at c0 c1; clear hb1))
    | (go_at_call 42; go_must (refine (states_no _).mono ?_; rintro e w9 ⟨rfl, hk9⟩; replace K := K.trans' hk9; clear hk9 c0 c1 f0 f1; have hb1 := HC.out.1.kept K (fun h => h); have c0 := fun (o : Obj) => (hb1.alloc o).cell 0; have c1 := fun (o : Obj) => (hb1.alloc o).cell 1; have f0 := fun (o : Obj) => (hb1.alloc o).frozen 0; have f1 := fun (o : Obj) => (hb1.alloc o).frozen 1; simp only [List.getElem?_toArray, List.getElem?_cons_zero, List.getElem?_cons_succ] at c0 c1; clear hb1)))
  go_wp2
  have hd := comp_doneB w w9 (B + 1) (.int .u64 20) (.slice (some ⟨w9.heap.size, 0, none⟩) 11 11) cTransfer.toArray (by have := HBB.out; omega) (HC.out.2.1.trans' K) (HC.out.1.kept K (fun h => h))
  exact bodyPost_ret (results_cell_row (P := Tryz.prog) rfl _ _ (B + 1) 30 _ (0, 0) _ rfl hd.1 Tryz.underlying30 rfl (by kernel_rfl)) rfl ⟨_, rfl, hd.2.2.2, hd.2.1, hd.2.2.1⟩
end Go.Proofs.YtbckofjoancdjaaGreatDoor
namespace Go.Proofs.YtbckofjoancdjaaGreatDoor
open Go Go.RowKit Go.Lib
abbrev cOutcome : List Value := [.int .i64 2, .int .u64 1, .string ⟨#[]⟩, .slice none 0 0, .int .i64 0, .slice none 0 0, .int .i64 0, .int .u64 0, .string ⟨#[]⟩, .slice none 0 0, .int .i64 0, .slice none 0 0, .int .i64 0, .int .u64 0, .string ⟨#[]⟩, .slice none 0 0, .int .i64 0, .slice none 0 0, .int .i64 0, .int .u64 0, .string ⟨#[]⟩, .slice none 0 0, .int .i64 0, .slice none 0 0]
set_option maxRecDepth 100000 in
set_option maxHeartbeats 4000000 in
theorem ofOutcome_ok (w : World) : Calls Tryz.prog 18 #[.int .u8 1, .slice none 0 0] w (CompP w 68 2 cOutcome) := by
  go_enter Tryz.func18, Tryz.ntmps18
  go_wp2_with (fail)
  obtain ⟨W2, hW⟩ : ∃ W2, (w.alloc (.cells #[.int .u64 0, .slice none 0 0] 30)).alloc (.cells #[.int .i64 0, .int .u64 0, .string ⟨#[]⟩, .slice none 0 0, .int .i64 0, .slice none 0 0, .int .i64 0, .int .u64 0, .string ⟨#[]⟩, .slice none 0 0, .int .i64 0, .slice none 0 0] 95) = W2 := ⟨_, rfl⟩
  have hc := (Blk.new w 30 zComp).alloc (.cells #[.int .i64 0, .int .u64 0, .string ⟨#[]⟩, .slice none 0 0, .int .i64 0, .slice none 0 0, .int .i64 0, .int .u64 0, .string ⟨#[]⟩, .slice none 0 0, .int .i64 0, .slice none 0 0] 95)
  have hk := ((Kept.refl Nope w).alloc (.cells zComp 30)).alloc (.cells #[.int .i64 0, .int .u64 0, .string ⟨#[]⟩, .slice none 0 0, .int .i64 0, .slice none 0 0, .int .i64 0, .int .u64 0, .string ⟨#[]⟩, .slice none 0 0, .int .i64 0, .slice none 0 0] 95)
  have hv := Blk.new (w.alloc (.cells zComp 30)) 95 nofC.toArray
  rw [World.size_alloc] at hv
  simp only [zComp, nofC] at hc hk hv
  rw [hW] at hc hk hv ⊢
  have HQ : Hid (∀ w', Kept (Only w.heap.size) W2 w' → w'.cell? ⟨w.heap.size + 1, 0, none⟩ = some (.int .i64 0) ∧ w'.cell? ⟨w.heap.size + 1, 1, none⟩ = some (.int .u64 0) ∧ w'.cell? ⟨w.heap.size + 1, 2, none⟩ = some (.string ⟨#[]⟩) ∧ w'.cell? ⟨w.heap.size + 1, 3, none⟩ = some (.slice none 0 0) ∧ w'.cell? ⟨w.heap.size + 1, 4, none⟩ = some (.int .i64 0) ∧ w'.cell? ⟨w.heap.size + 1, 5, none⟩ = some (.slice none 0 0) ∧ w'.cell? ⟨w.heap.size + 1, 6, none⟩ = some (.int .i64 0) ∧ w'.cell? ⟨w.heap.size + 1, 7, none⟩ = some (.int .u64 0) ∧ w'.cell? ⟨w.heap.size + 1, 8, none⟩ = some (.string ⟨#[]⟩) ∧ w'.cell? ⟨w.heap.size + 1, 9, none⟩ = some (.slice none 0 0) ∧ w'.cell? ⟨w.heap.size + 1, 10, none⟩ = some (.int .i64 0) ∧ w'.cell? ⟨w.heap.size + 1, 11, none⟩ = some (.slice none 0 0)) := Lib.hid fun w' h => by
    have v := hv.kept h (fun e => by have e' : w.heap.size + 1 = w.heap.size := e; omega)
    exact ⟨v.cell 0, v.cell 1, v.cell 2, v.cell 3, v.cell 4, v.cell 5, v.cell 6, v.cell 7, v.cell 8, v.cell 9, v.cell 10, v.cell 11⟩
  have HC := Lib.hid (And.intro hc (And.intro hk (Nat.le_refl w.heap.size)))
  clear hc hk hv hW
  obtain ⟨B, hB⟩ : ∃ B, w.heap.size = B := ⟨_, rfl⟩
  have HBB := Lib.hid hB
  simp only [hB] at HQ HC ⊢
  clear hB
  have e1 : IntKind.u64.wrap 1 = 1 := by decide
  have K : Kept Nope W2 W2.drew := (Kept.refl _ _).drew
  have c0 := True.intro
  have c1 := True.intro
  have f0 := True.intro
  have f1 := True.intro
  go_region_held3 (fun w' => w'.cell? ⟨B + 1, 0, none⟩ = some (.int .i64 0) ∧ w'.cell? ⟨B + 1, 1, none⟩ = some (.int .u64 0) ∧ w'.cell? ⟨B + 1, 2, none⟩ = some (.string ⟨#[]⟩) ∧ w'.cell? ⟨B + 1, 3, none⟩ = some (.slice none 0 0) ∧ w'.cell? ⟨B + 1, 4, none⟩ = some (.int .i64 0) ∧ w'.cell? ⟨B + 1, 5, none⟩ = some (.slice none 0 0) ∧ w'.cell? ⟨B + 1, 6, none⟩ = some (.int .i64 0) ∧ w'.cell? ⟨B + 1, 7, none⟩ = some (.int .u64 0) ∧ w'.cell? ⟨B + 1, 8, none⟩ = some (.string ⟨#[]⟩) ∧ w'.cell? ⟨B + 1, 9, none⟩ = some (.slice none 0 0) ∧ w'.cell? ⟨B + 1, 10, none⟩ = some (.int .i64 0) ∧ w'.cell? ⟨B + 1, 11, none⟩ = some (.slice none 0 0)) (first | with_reducible exact HQ.out _ K.nope | with_reducible exact HQ.out _ (K.nope.alloc _) | with_reducible exact HQ.out _ (((K.nope.alloc _).set1 0 _).set1 1 _) | fail) (first
    | (go_at_call 34; go_must (refine (ofNumber_q _ _ _).mono ?_; rintro e w9 ⟨rfl, hk9⟩; replace K := K.trans' hk9; clear hk9 c0 c1 f0 f1; have hb1 := HC.out.1.kept K (fun h => h); have c0 := fun (o : Obj) => (hb1.alloc o).cell 0; have c1 := fun (o : Obj) => (hb1.alloc o).cell 1; have f0 := fun (o : Obj) => (hb1.alloc o).frozen 0; have f1 := fun (o : Obj) => (hb1.alloc o).frozen 1; simp only [List.getElem?_toArray, List.getElem?_cons_zero, List.getElem?_cons_succ] at c0 c1; clear hb1)))
  go_wp2
  have hd := comp_doneB w w9 B (.int .u64 68) (.slice (some ⟨w9.heap.size, 0, none⟩) 2 2) cOutcome.toArray (by have := HBB.out; omega) (HC.out.2.1.trans' K) (HC.out.1.kept K (fun h => h))
  exact bodyPost_ret (results_cell_row (P := Tryz.prog) rfl _ _ B 30 _ (0, 0) _ rfl hd.1 Tryz.underlying30 rfl (by kernel_rfl)) rfl ⟨_, rfl, hd.2.2.2, hd.2.1, hd.2.2.1⟩
end Go.Proofs.YtbckofjoancdjaaGreatDoor
