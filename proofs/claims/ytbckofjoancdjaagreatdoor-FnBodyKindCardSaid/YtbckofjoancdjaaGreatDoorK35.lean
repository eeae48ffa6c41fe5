/- Package spec: composites of performatives: an end, a close. Package spec: DetachOf. Package spec: composites of performatives: Begin. -/
import Derived.Test.YtbckofjoancdjaaGreatDoorK23
namespace Go.Proofs.YtbckofjoancdjaaGreatDoor
open Go Go.RowKit Go.Lib
def CompP (w : World) (c : Int) (m : Nat) (cells : List Value) : Ending → World → Prop := fun e w' => ∃ b, e = .returned (.agg #[.int .u64 c, .slice (some ⟨b, 0, none⟩) m m]) ∧ w.heap.size ≤ b ∧ Blk w' b 95 cells.toArray ∧ Kept Nope w w'
abbrev nofC : List Value := [.int .i64 0, .int .u64 0, .string ⟨#[]⟩, .slice none 0 0, .int .i64 0, .slice none 0 0, .int .i64 0, .int .u64 0, .string ⟨#[]⟩, .slice none 0 0, .int .i64 0, .slice none 0 0]
def zComp : Array Value := #[.int .u64 0, .slice none 0 0]
theorem comp_done (w w1 : World) (x y : Value) (cells : Array Value) (hk : Kept Nope w w1) (hb : Blk w1 w.heap.size 30 zComp) :
    Blk (((w1.alloc (.cells cells 95)).setCell ⟨w.heap.size, 0, none⟩ x).setCell ⟨w.heap.size, 1, none⟩ y) w.heap.size 30 #[x, y] ∧
    Blk (((w1.alloc (.cells cells 95)).setCell ⟨w.heap.size, 0, none⟩ x).setCell ⟨w.heap.size, 1, none⟩ y) w1.heap.size 95 cells ∧
    Kept Nope w (((w1.alloc (.cells cells 95)).setCell ⟨w.heap.size, 0, none⟩ x).setCell ⟨w.heap.size, 1, none⟩ y) ∧ w.heap.size ≤ w1.heap.size := by
  have hlt := hb.lt
  refine ⟨?_, ?_, ?_, by omega⟩
  · have h := ((hb.alloc (.cells cells 95)).set_ 0 x).set_ 1 y
    unfold zComp at h
    simpa using h
  · exact ((Blk.new w1 95 cells).far (p := ⟨w.heap.size, 0, none⟩) (show w1.heap.size ≠ w.heap.size by omega) x).far (p := ⟨w.heap.size, 1, none⟩) (show w1.heap.size ≠ w.heap.size by omega) y
  · have h1 : Kept (Only w.heap.size) w (((w1.alloc (.cells cells 95)).setCell ⟨w.heap.size, 0, none⟩ x).setCell ⟨w.heap.size, 1, none⟩ y) := (((hk.nope.alloc _).set1 0 x).set1 1 y)
    exact h1.ofNew fun i e => by have e' : i = w.heap.size := e; omega
set_option maxRecDepth 100000 in
set_option maxHeartbeats 1600000 in
theorem ofEnd_ok (w : World) : Calls Tryz.prog 14 #[.slice none 0 0] w (CompP w 23 1 nofC) := by
  have hB := Blk.new w 30 zComp
  have HB := Lib.hid hB
  clear hB
  go_enter Tryz.func14, Tryz.ntmps14
  go_wp2_with (first | (go_at_call 43; go_must (refine (faults_no _).mono ?_; rintro e w1 ⟨rfl, hk1⟩; have hb1 := HB.out.kept hk1 (fun h => h); have c0 := fun (o : Obj) => (hb1.alloc o).cell 0; have c1 := fun (o : Obj) => (hb1.alloc o).cell 1; have f0 := fun (o : Obj) => (hb1.alloc o).frozen 0; have f1 := fun (o : Obj) => (hb1.alloc o).frozen 1; unfold zComp at c0 c1; simp only [List.getElem?_toArray, List.getElem?_cons_zero, List.getElem?_cons_succ] at c0 c1; have H1 := Lib.hid (And.intro hk1 hb1); clear hk1 hb1)))
  have hd := comp_done w w1 (.int .u64 23) (.slice (some ⟨w1.heap.size, 0, none⟩) 1 1) nofC.toArray (((Kept.refl Nope w).alloc _).trans' H1.out.1) H1.out.2
  exact bodyPost_ret (results_cell_row (P := Tryz.prog) rfl _ _ w.heap.size 30 _ (0, 0) _ rfl hd.1 Tryz.underlying30 rfl (by kernel_rfl)) rfl ⟨_, rfl, hd.2.2.2, hd.2.1, hd.2.2.1⟩
set_option maxRecDepth 100000 in
set_option maxHeartbeats 1600000 in
theorem ofClose_ok (w : World) : Calls Tryz.prog 15 #[.slice none 0 0] w (CompP w 24 1 nofC) := by
  have hB := Blk.new w 30 zComp
  have HB := Lib.hid hB
  clear hB
  go_enter Tryz.func15, Tryz.ntmps15
  go_wp2_with (first | (go_at_call 43; go_must (refine (faults_no _).mono ?_; rintro e w1 ⟨rfl, hk1⟩; have hb1 := HB.out.kept hk1 (fun h => h); have c0 := fun (o : Obj) => (hb1.alloc o).cell 0; have c1 := fun (o : Obj) => (hb1.alloc o).cell 1; have f0 := fun (o : Obj) => (hb1.alloc o).frozen 0; have f1 := fun (o : Obj) => (hb1.alloc o).frozen 1; unfold zComp at c0 c1; simp only [List.getElem?_toArray, List.getElem?_cons_zero, List.getElem?_cons_succ] at c0 c1; have H1 := Lib.hid (And.intro hk1 hb1); clear hk1 hb1)))
  have hd := comp_done w w1 (.int .u64 24) (.slice (some ⟨w1.heap.size, 0, none⟩) 1 1) nofC.toArray (((Kept.refl Nope w).alloc _).trans' H1.out.1) H1.out.2
  exact bodyPost_ret (results_cell_row (P := Tryz.prog) rfl _ _ w.heap.size 30 _ (0, 0) _ rfl hd.1 Tryz.underlying30 rfl (by kernel_rfl)) rfl ⟨_, rfl, hd.2.2.2, hd.2.1, hd.2.2.1⟩
end Go.Proofs.YtbckofjoancdjaaGreatDoor
namespace Go.Proofs.YtbckofjoancdjaaGreatDoor
open Go Go.RowKit Go.Lib
abbrev detC : List Value := [.int .i64 4, .int .u64 1, .string ⟨#[]⟩, .slice none 0 0, .int .i64 0, .slice none 0 0, .int .i64 0, .int .u64 0, .string ⟨#[]⟩, .slice none 0 0, .int .i64 0, .slice none 0 0, .int .i64 1, .int .u64 0, .string ⟨#[]⟩, .slice none 0 0, .int .i64 0, .slice none 0 0, .int .i64 1, .int .u64 0, .string ⟨#[]⟩, .slice none 0 0, .int .i64 0, .slice none 0 0, .int .i64 0, .int .u64 0, .string ⟨#[]⟩, .slice none 0 0, .int .i64 0, .slice none 0 0, .int .i64 0, .int .u64 0, .string ⟨#[]⟩, .slice none 0 0, .int .i64 0, .slice none 0 0]
theorem comp_doneB (w w1 : World) (B : Nat) (x y : Value) (cells : Array Value) (hwB : w.heap.size ≤ B) (hk : Kept Nope w w1) (hb : Blk w1 B 30 zComp) :
    Blk (((w1.alloc (.cells cells 95)).setCell ⟨B, 0, none⟩ x).setCell ⟨B, 1, none⟩ y) B 30 #[x, y] ∧
    Blk (((w1.alloc (.cells cells 95)).setCell ⟨B, 0, none⟩ x).setCell ⟨B, 1, none⟩ y) w1.heap.size 95 cells ∧
    Kept Nope w (((w1.alloc (.cells cells 95)).setCell ⟨B, 0, none⟩ x).setCell ⟨B, 1, none⟩ y) ∧ w.heap.size ≤ w1.heap.size := by
  have hlt := hb.lt
  refine ⟨?_, ?_, ?_, by omega⟩
  · have h := ((hb.alloc (.cells cells 95)).set_ 0 x).set_ 1 y
    unfold zComp at h
    simpa using h
  · exact ((Blk.new w1 95 cells).far (p := ⟨B, 0, none⟩) (show w1.heap.size ≠ B by omega) x).far (p := ⟨B, 1, none⟩) (show w1.heap.size ≠ B by omega) y
  · have h1 : Kept (Only B) w (((w1.alloc (.cells cells 95)).setCell ⟨B, 0, none⟩ x).setCell ⟨B, 1, none⟩ y) := (((hk.nope.alloc _).set1 0 x).set1 1 y)
    exact h1.ofNew fun i e => by have e' : i = B := e; omega
set_option maxRecDepth 100000 in
set_option maxHeartbeats 1600000 in
theorem ofDetach_ok (w : World) : Calls Tryz.prog 13 #[.agg #[.int .u32 1, .bool false, .slice none 0 0]] w (CompP w 22 3 detC) := by
  go_enter Tryz.func13, Tryz.ntmps13
  go_wp2_with (fail)
  obtain ⟨W2, hW⟩ : ∃ W2, (w.alloc (.cells #[.int .u32 1, .bool false, .slice none 0 0] 66)).alloc (.cells #[.int .u64 0, .slice none 0 0] 30) = W2 := ⟨_, rfl⟩
  have hb := (Blk.new w 66 #[.int .u32 1, .bool false, .slice none 0 0]).alloc (.cells zComp 30)
  have hc := Blk.new (w.alloc (.cells #[.int .u32 1, .bool false, .slice none 0 0] 66)) 30 zComp
  have hk := ((Kept.refl Nope w).alloc (.cells #[.int .u32 1, .bool false, .slice none 0 0] 66)).alloc (.cells zComp 30)
  unfold zComp at hb hc hk
  rw [World.size_alloc] at hc
  rw [hW] at hb hc hk ⊢
  have HQ : Hid (∀ w', Kept (Only (w.heap.size + 1)) W2 w' → w'.cell? ⟨w.heap.size, 0, none⟩ = some (.int .u32 1) ∧ w'.cell? ⟨w.heap.size, 1, none⟩ = some (.bool false) ∧ w'.cell? ⟨w.heap.size, 2, none⟩ = some (.slice none 0 0)) := Lib.hid fun w' h => by
    have g := hb.kept h (fun e => by have e' : w.heap.size = w.heap.size + 1 := e; omega)
    exact ⟨g.cell 0, g.cell 1, g.cell 2⟩
  have hwB : w.heap.size ≤ w.heap.size + 1 := by omega
  have HC := Lib.hid (And.intro hc (And.intro hk hwB))
  clear hb hc hk hW hwB
  obtain ⟨B, hB⟩ : ∃ B, w.heap.size = B := ⟨_, rfl⟩
  have HBB := Lib.hid hB
  simp only [hB] at HQ HC ⊢
  clear hB
  have e0 : IntKind.u64.wrap 1 = 1 := by decide
  go_region_held3 (fun w' => w'.cell? ⟨B, 0, none⟩ = some (.int .u32 1) ∧ w'.cell? ⟨B, 1, none⟩ = some (.bool false) ∧ w'.cell? ⟨B, 2, none⟩ = some (.slice none 0 0)) (first | with_reducible exact HQ.out _ (Kept.refl _ W2).drew | with_reducible exact HQ.out _ k1.nope | with_reducible exact HQ.out _ k2.nope | with_reducible exact HQ.out _ k3.nope | with_reducible exact HQ.out _ (k3.nope.alloc _) | with_reducible exact HQ.out _ (((k3.nope.alloc _).set1 0 _).set1 1 _) | fail) (first
    | (go_at_call 34; go_must (refine (ofNumber_ok _ _ _).mono ?_; rintro e w1 ⟨rfl, o1, rfl⟩; have k1 : Kept Nope W2 (W2.alloc o1).drew := ((Kept.refl Nope W2).alloc o1).drew))
    | (go_at_call 40; go_must (refine (flag_no _).mono ?_; rintro e w2 ⟨rfl, hk2⟩; have k2 : Kept Nope W2 w2 := k1.trans' hk2; clear hk2))
    | (go_at_call 43; go_must (refine (faults_no _).mono ?_; rintro e w3 ⟨rfl, hk3⟩; have k3 : Kept Nope W2 w3 := k2.trans' hk3; clear hk3; have hb1 := HC.out.1.kept k3 (fun h => h); have c0 := fun (o : Obj) => (hb1.alloc o).cell 0; have c1 := fun (o : Obj) => (hb1.alloc o).cell 1; have f0 := fun (o : Obj) => (hb1.alloc o).frozen 0; have f1 := fun (o : Obj) => (hb1.alloc o).frozen 1; simp only [List.getElem?_toArray, List.getElem?_cons_zero, List.getElem?_cons_succ] at c0 c1)))
  go_wp2
  have hd := comp_doneB w w3 (B + 1) (.int .u64 22) (.slice (some ⟨w3.heap.size, 0, none⟩) 3 3) detC.toArray (by have := HBB.out; omega) (HC.out.2.1.trans' k3) (HC.out.1.kept k3 (fun h => h))
  exact bodyPost_ret (results_cell_row (P := Tryz.prog) rfl _ _ (B + 1) 30 _ (0, 0) _ rfl hd.1 Tryz.underlying30 rfl (by kernel_rfl)) rfl ⟨_, rfl, hd.2.2.2, hd.2.1, hd.2.2.1⟩
end Go.Proofs.YtbckofjoancdjaaGreatDoor
namespace Go.Proofs.YtbckofjoancdjaaGreatDoor
open Go Go.RowKit Go.Lib
theorem ofNumber_q (k n : Int) (w : World) : Calls Tryz.prog 34 #[.int .i64 k, .int .u64 n] w (Quiet (.agg #[.int .i64 k, .int .u64 n, .string ⟨#[]⟩, .slice none 0 0, .int .i64 0, .slice none 0 0]) w) := by
  refine (ofNumber_ok k n w).mono ?_
  rintro e w' ⟨rfl, o, rfl⟩
  exact ⟨rfl, (Kept.refl _ _).alloc _⟩
theorem truth_q (w : World) : Calls Tryz.prog 39 #[.bool false] w (Quiet (.int .u64 0) w) := by
  refine (truth_no w).mono ?_
  rintro e w' ⟨rfl, rfl⟩
  exact ⟨rfl, Kept.refl _ _⟩
abbrev cBegin : List Value := [.int .i64 0, .int .u64 0, .string ⟨#[]⟩, .slice none 0 0, .int .i64 0, .slice none 0 0, .int .i64 0, .int .u64 0, .string ⟨#[]⟩, .slice none 0 0, .int .i64 0, .slice none 0 0, .int .i64 4, .int .u64 1, .string ⟨#[]⟩, .slice none 0 0, .int .i64 0, .slice none 0 0, .int .i64 0, .int .u64 0, .string ⟨#[]⟩, .slice none 0 0, .int .i64 0, .slice none 0 0, .int .i64 4, .int .u64 0, .string ⟨#[]⟩, .slice none 0 0, .int .i64 0, .slice none 0 0, .int .i64 0, .int .u64 0, .string ⟨#[]⟩, .slice none 0 0, .int .i64 0, .slice none 0 0, .int .i64 4, .int .u64 0, .string ⟨#[]⟩, .slice none 0 0, .int .i64 0, .slice none 0 0, .int .i64 0, .int .u64 0, .string ⟨#[]⟩, .slice none 0 0, .int .i64 0, .slice none 0 0, .int .i64 4, .int .u64 1, .string ⟨#[]⟩, .slice none 0 0, .int .i64 0, .slice none 0 0, .int .i64 4, .int .u64 4294967295, .string ⟨#[]⟩, .slice none 0 0, .int .i64 0, .slice none 0 0, .int .i64 0, .int .u64 0, .string ⟨#[]⟩, .slice none 0 0, .int .i64 0, .slice none 0 0, .int .i64 0, .int .u64 0, .string ⟨#[]⟩, .slice none 0 0, .int .i64 0, .slice none 0 0, .int .i64 0, .int .u64 0, .string ⟨#[]⟩, .slice none 0 0, .int .i64 0, .slice none 0 0, .int .i64 0, .int .u64 0, .string ⟨#[]⟩, .slice none 0 0, .int .i64 0, .slice none 0 0, .int .i64 0, .int .u64 0, .string ⟨#[]⟩, .slice none 0 0, .int .i64 0, .slice none 0 0, .int .i64 0, .int .u64 0, .string ⟨#[]⟩, .slice none 0 0, .int .i64 0, .slice none 0 0]
set_option maxRecDepth 100000 in
set_option maxHeartbeats 4000000 in
theorem ofBegin_ok (w : World) : Calls Tryz.prog 8 #[.agg #[.slice none 0 0, .int .u32 1, .int .u32 0, .int .u32 0, .int .u32 1, .slice none 0 0, .slice none 0 0, .slice none 0 0]] w (CompP w 17 8 cBegin) := by
  go_enter Tryz.func8, Tryz.ntmps8
  go_wp2_with (fail)
  obtain ⟨W2, hW⟩ : ∃ W2, (w.alloc (.cells #[.slice none 0 0, .int .u32 1, .int .u32 0, .int .u32 0, .int .u32 1, .slice none 0 0, .slice none 0 0, .slice none 0 0] 46)).alloc (.cells #[.int .u64 0, .slice none 0 0] 30) = W2 := ⟨_, rfl⟩
  have hb := (Blk.new w 46 #[.slice none 0 0, .int .u32 1, .int .u32 0, .int .u32 0, .int .u32 1, .slice none 0 0, .slice none 0 0, .slice none 0 0]).alloc (.cells zComp 30)
  have hc := Blk.new (w.alloc (.cells #[.slice none 0 0, .int .u32 1, .int .u32 0, .int .u32 0, .int .u32 1, .slice none 0 0, .slice none 0 0, .slice none 0 0] 46)) 30 zComp
  have hk := ((Kept.refl Nope w).alloc (.cells #[.slice none 0 0, .int .u32 1, .int .u32 0, .int .u32 0, .int .u32 1, .slice none 0 0, .slice none 0 0, .slice none 0 0] 46)).alloc (.cells zComp 30)
  unfold zComp at hb hc hk
  rw [World.size_alloc] at hc
  rw [hW] at hb hc hk ⊢
  have HQ : Hid (∀ w', Kept (Only (w.heap.size + 1)) W2 w' → w'.cell? ⟨w.heap.size, 0, none⟩ = some (.slice none 0 0) ∧ w'.cell? ⟨w.heap.size, 1, none⟩ = some (.int .u32 1) ∧ w'.cell? ⟨w.heap.size, 2, none⟩ = some (.int .u32 0) ∧ w'.cell? ⟨w.heap.size, 3, none⟩ = some (.int .u32 0) ∧ w'.cell? ⟨w.heap.size, 4, none⟩ = some (.int .u32 1) ∧ w'.cell? ⟨w.heap.size, 5, none⟩ = some (.slice none 0 0) ∧ w'.cell? ⟨w.heap.size, 6, none⟩ = some (.slice none 0 0) ∧ w'.cell? ⟨w.heap.size, 7, none⟩ = some (.slice none 0 0)) := Lib.hid fun w' h => by
    have g := hb.kept h (fun e => by have e' : w.heap.size = w.heap.size + 1 := e; omega)
    exact ⟨g.cell 0, g.cell 1, g.cell 2, g.cell 3, g.cell 4, g.cell 5, g.cell 6, g.cell 7⟩
  have hwB : w.heap.size ≤ w.heap.size + 1 := by omega
  have HC := Lib.hid (And.intro hc (And.intro hk hwB))
  clear hb hc hk hW hwB
  obtain ⟨B, hB⟩ : ∃ B, w.heap.size = B := ⟨_, rfl⟩
  have HBB := Lib.hid hB
  simp only [hB] at HQ HC ⊢
  clear hB
  have e1 : IntKind.u64.wrap 1 = 1 := by decide
  have e0 : IntKind.u64.wrap 0 = 0 := by decide
  have K : Kept Nope W2 W2.drew := (Kept.refl _ _).drew
  have c0 := True.intro
  have c1 := True.intro
  have f0 := True.intro
  have f1 := True.intro
  go_region_held3 (fun w' => w'.cell? ⟨B, 0, none⟩ = some (.slice none 0 0) ∧ w'.cell? ⟨B, 1, none⟩ = some (.int .u32 1) ∧ w'.cell? ⟨B, 2, none⟩ = some (.int .u32 0) ∧ w'.cell? ⟨B, 3, none⟩ = some (.int .u32 0) ∧ w'.cell? ⟨B, 4, none⟩ = some (.int .u32 1) ∧ w'.cell? ⟨B, 5, none⟩ = some (.slice none 0 0) ∧ w'.cell? ⟨B, 6, none⟩ = some (.slice none 0 0) ∧ w'.cell? ⟨B, 7, none⟩ = some (.slice none 0 0)) (first | with_reducible exact HQ.out _ K.nope | with_reducible exact HQ.out _ (K.nope.alloc _) | with_reducible exact HQ.out _ (((K.nope.alloc _).set1 0 _).set1 1 _) | fail) (first
    | (go_at_call 33; go_must (refine (maybe16_no _ _).mono ?_; rintro e w9 ⟨rfl, hk9⟩; replace K := K.trans' hk9; clear hk9 c0 c1 f0 f1; have hb1 := HC.out.1.kept K (fun h => h); have c0 := fun (o : Obj) => (hb1.alloc o).cell 0; have c1 := fun (o : Obj) => (hb1.alloc o).cell 1; have f0 := fun (o : Obj) => (hb1.alloc o).frozen 0; have f1 := fun (o : Obj) => (hb1.alloc o).frozen 1; simp only [List.getElem?_toArray, List.getElem?_cons_zero, List.getElem?_cons_succ] at c0 c1; clear hb1))
    | (go_at_call 34; go_must (refine (ofNumber_q _ _ _).mono ?_; rintro e w9 ⟨rfl, hk9⟩; replace K := K.trans' hk9; clear hk9 c0 c1 f0 f1; have hb1 := HC.out.1.kept K (fun h => h); have c0 := fun (o : Obj) => (hb1.alloc o).cell 0; have c1 := fun (o : Obj) => (hb1.alloc o).cell 1; have f0 := fun (o : Obj) => (hb1.alloc o).frozen 0; have f1 := fun (o : Obj) => (hb1.alloc o).frozen 1; simp only [List.getElem?_toArray, List.getElem?_cons_zero, List.getElem?_cons_succ] at c0 c1; clear hb1))
    | (go_at_call 29; go_must (refine (defaultField_ok _ _ _ _).mono ?_; rintro e w9 ⟨rfl, hk9⟩; replace K := K.trans' hk9; clear hk9 c0 c1 f0 f1; have hb1 := HC.out.1.kept K (fun h => h); have c0 := fun (o : Obj) => (hb1.alloc o).cell 0; have c1 := fun (o : Obj) => (hb1.alloc o).cell 1; have f0 := fun (o : Obj) => (hb1.alloc o).frozen 0; have f1 := fun (o : Obj) => (hb1.alloc o).frozen 1; simp only [List.getElem?_toArray, List.getElem?_cons_zero, List.getElem?_cons_succ] at c0 c1; clear hb1))
    | (go_at_call 31; go_must (refine (symbols_no _).mono ?_; rintro e w9 ⟨rfl, hk9⟩; replace K := K.trans' hk9; clear hk9 c0 c1 f0 f1; have hb1 := HC.out.1.kept K (fun h => h); have c0 := fun (o : Obj) => (hb1.alloc o).cell 0; have c1 := fun (o : Obj) => (hb1.alloc o).cell 1; have f0 := fun (o : Obj) => (hb1.alloc o).frozen 0; have f1 := fun (o : Obj) => (hb1.alloc o).frozen 1; simp only [List.getElem?_toArray, List.getElem?_cons_zero, List.getElem?_cons_succ] at c0 c1; clear hb1))
    | (go_at_call 32; go_must (refine (mapField_no _).mono ?_; rintro e w9 ⟨rfl, hk9⟩; replace K := K.trans' hk9; clear hk9 c0 c1 f0 f1; have hb1 := HC.out.1.kept K (fun h => h); have c0 := fun (o : Obj) => (hb1.alloc o).cell 0; have c1 := fun (o : Obj) => (hb1.alloc o).cell 1; have f0 := fun (o : Obj) => (hb1.alloc o).frozen 0; have f1 := fun (o : Obj) => (hb1.alloc o).frozen 1; simp only [List.getElem?_toArray, List.getElem?_cons_zero, List.getElem?_cons_succ] at c0 c1; clear hb1)))
  go_wp2
  have hd := comp_doneB w w9 (B + 1) (.int .u64 17) (.slice (some ⟨w9.heap.size, 0, none⟩) 8 8) cBegin.toArray (by have := HBB.out; omega) (HC.out.2.1.trans' K) (HC.out.1.kept K (fun h => h))
  exact bodyPost_ret (results_cell_row (P := Tryz.prog) rfl _ _ (B + 1) 30 _ (0, 0) _ rfl hd.1 Tryz.underlying30 rfl (by kernel_rfl)) rfl ⟨_, rfl, hd.2.2.2, hd.2.1, hd.2.2.1⟩
end Go.Proofs.YtbckofjoancdjaaGreatDoor
