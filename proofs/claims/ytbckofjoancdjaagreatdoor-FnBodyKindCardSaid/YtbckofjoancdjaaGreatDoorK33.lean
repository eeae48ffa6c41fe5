/- Package impl: copied: a slice of its own with the same bytes. package buffer: New; io.EOF is an error where it lies; a buffer that has just been made. Package impl: BodyKind. -/
import Derived.Test.YtbckofjoancdjaaGreatDoorK9
import Derived.Test.YtbckofjoancdjaaGreatDoorK14
import Derived.Defers
import Derived.Recover
import Derived.Deep.RegionHeld3
import Derived.Deep.DrawnRows
namespace Go.Proofs.YtbckofjoancdjaaGreatDoor
open Go Go.RowKit Go.Lib
set_option maxRecDepth 100000 in
set_option maxHeartbeats 800000 in
theorem copied_ok (S : Nat → Prop) (w : World) (s : Value) (bs : List UInt8) (hs : BSl S w s bs) (hl : bs.length ≤ 1099511627776) :
    Calls Tryz.prog 22 #[s] w (Gives fun x w' => BSl (fun b => w.heap.size ≤ b) w' x bs ∧ Kept Nope w w') := by
  obtain ⟨i1, hi, hz0, hz1, hz2⟩ := info_parts info_u8
  have HS := Lib.hid hs
  have HL := Lib.hid hl
  have hown0 : (w.alloc (.cells #[] 5)).ownsRow w.heap.size 5 1 (.slice (some ⟨w.heap.size, 0, none⟩) 0 0) 0 [] := World.ownsRow_made w #[] 0 (Nat.le_refl _) (by simp [maxLen]) rfl
  have HO := Lib.hid hown0
  obtain ⟨a, c, rfl, _⟩ := hs
  clear hl hown0
  go_enter Tryz.func22, Tryz.ntmps22
  go_wp2_with (at_builtin; go_must (refine wpList_append_c _ rfl (.tmp 3) (.tmp 4) 26 rfl w.heap.size 5 i1 _ 1 1 Tryz.underlying26 hi hz0 hz1 hz2 rfl (by omega) _ _ _ rfl HO.out S _ _ _ rfl (HS.out.keep ((Kept.refl Nope w).alloc _) (fun _ _ _ h => h)).toC (by intro u hu; obtain ⟨x, _, rfl⟩ := List.mem_map.1 hu; rfl) (by have := HL.out; simp only [maxLen]; omega) (by have := HL.out; omega) (by rw [World.size_alloc]; omega) ?_; intro v4 w4 hown hgrow hblk; have HN := Lib.hid (And.intro hown (And.intro hgrow hblk)); clear hown hgrow hblk))
  go_ret
  have h1 := HN.out.1
  rw [Nat.zero_add, List.nil_append] at h1
  refine ⟨_, rfl, (BSl.ofOwn h1).mono fun b _ hb => (h1.lt b hb).1, ?_⟩
  have hg : (w.alloc (.cells #[] 5)).grownBy w4 (some w.heap.size) := HN.out.2.1
  exact ((Kept.refl Nope w).alloc _).grown hg fun k hk => .inr (by injection hk with hk; omega)
end Go.Proofs.YtbckofjoancdjaaGreatDoor
namespace Go.Proofs.YtbckofjoancdjaaGreatDoor
open Go Go.RowKit Go.Lib
theorem New_ok (w : World) (a : Option Addr) (n c : Nat) : Calls Tryz.prog 21 #[.slice a n c] w fun e w' => e = .returned (.pointer (some ⟨w.heap.size, 0, none⟩)) ∧ w' = w.alloc (.cells #[.slice a n c, .int .i64 0] 165) := by
  go_enter Tryz.func21, Tryz.ntmps21
  go_wp2
  go_ret
  exact ⟨rfl, rfl⟩
def Eof (w : World) : Prop := ∃ v, IsErr v ∧ w.cell? ⟨1, 0, none⟩ = some v
theorem Eof.nope {w w' : World} (h : Eof w) (hk : Kept Nope w w') : Eof w' := by
  obtain ⟨v, hv, hc⟩ := h
  exact ⟨v, hv, hk.cell hc (fun h => h)⟩
theorem Eof.lt {w : World} (h : Eof w) : 1 < w.heap.size := by
  obtain ⟨v, hv, hc⟩ := h
  exact World.block_lt_of_cell? w _ hc
theorem Buf.fresh {w w1 : World} {y : Value} {D : List UInt8} (he : Eof w) (hk : Kept Nope w w1) (hy : BSl (Above w) w1 y D) (hl : D.length ≤ 1099511627776) : Buf (w1.alloc (.cells #[y, .int .i64 0] 165)) w1.heap.size y D 0 :=
  ⟨Blk.new _ _ _, (hy.mono (S' := fun b => b ≠ w1.heap.size) fun b hb _ => by omega).keep ((Kept.refl Nope w1).alloc _) (fun _ _ _ h => h), Nat.zero_le _, hl, he.nope (hk.alloc _), by have := he.lt; have := hk.size; omega⟩
end Go.Proofs.YtbckofjoancdjaaGreatDoor
namespace Go.Proofs.YtbckofjoancdjaaGreatDoor
open Go Go.RowKit Go.Lib
theorem bkDefer_idle (a b : Addr) (w : World) : CallsD Tryz.prog 19 #[.pointer (some a), .pointer (some b)] .returning w fun e u' w' => e = .returned (.tuple #[]) ∧ u' = .returning ∧ w' = w := by
  refine callsD_of_wpS Tryz.func19 rfl fun c₀ cs hu => ?_
  apply wpS_seq
  apply wpS_region
  simp [wpOpsS, go_sem, recoverD, hu, Tryz.ntmps19, Exit.thenS]
  refine wpS_cond (t := false) (by simp [Act.eval, Array.replicate]) ?_
  simp only [Bool.false_eq_true, if_false]
  refine wpS_of_wp (wp_skip ?_)
  cases c₀
  simp_all [bodyPostS, results, Tryz.results19]
structure Two (W : World) (P : Nat) (x y : Value) : Prop where
  b0 : Blk W P 5 #[x]
  b1 : Blk W (P + 1) 4 #[y]
theorem Two.keep {W W' : World} {P : Nat} {x y : Value} (h : Two W P x y) (hk : Kept Nope W W') : Two W' P x y := ⟨h.b0.kept hk (fun h => h), h.b1.kept hk (fun h => h)⟩
theorem Two.keepO {W W' : World} {P r : Nat} {x y : Value} (h : Two W P x y) (hk : Kept (Only r) W W') (hr : P + 2 ≤ r) : Two W' P x y :=
  ⟨h.b0.kept hk (fun e => by have e' : P = r := e; omega), h.b1.kept hk (fun e => by have e' : P + 1 = r := e; omega)⟩
theorem two_new (w : World) (P : Nat) (hP : w.heap.size = P) (W : World) (hW : (w.alloc (.cells #[.int .u8 0] 5)).alloc (.cells #[.bool false] 4) = W) :
    Kept Nope w W ∧ W.heap.size = P + 2 ∧ Two W P (.int .u8 0) (.bool false) ∧ w.heap.size = P := by
  subst hW
  have h0 := Blk.new w 5 #[.int .u8 0]
  have h1 := Blk.new (w.alloc (.cells #[.int .u8 0] 5)) 4 #[.bool false]
  rw [World.size_alloc, hP] at h1
  rw [hP] at h0
  exact ⟨((Kept.refl Nope w).alloc _).alloc _, by rw [World.size_alloc, World.size_alloc, hP], ⟨h0.alloc _, h1⟩, hP⟩
theorem results_cells2 {fn : Func} {a b : Tmp} {t1 t2 : TypeId} (h : fn.results = #[.cell a t1, .cell b t2]) (tmps : Array Value) (P : Program) (w : World) {p1 p2 : Addr} {x1 x2 : Value}
    (h1 : tmps.getD a undef = .pointer (some p1)) (h2 : tmps.getD b undef = .pointer (some p2))
    (l1 : (loadVar t1 p1).run P w = .ok x1 w) (l2 : (loadVar t2 p2).run P w = .ok x2 w) :
    (results fn tmps).run P w = .ok (.tuple #[x1, x2]) w := by
  simp only [results, h]
  simp only [Array.getD_eq_getD_getElem?] at h1 h2
  simp [Sem.run_bind, Result.andThen, h1, h2, asAddr, l1, l2]
theorem ret2c (fn : Func) (hf : fn.results = #[.cell 2 5, .cell 3 4]) (w' : World) (R : Ending → World → Prop) (tmps : Array Value) (P : Nat) (x y : Value) (h2 : tmps.getD 2 undef = .pointer (some ⟨P, 0, none⟩)) (h3 : tmps.getD 3 undef = .pointer (some ⟨P + 1, 0, none⟩))
    (hq : Two w' P x y) (hR : R (.returned (.tuple #[x, y])) w') : Leaves Tryz.prog fn tmps R [] .returning w' := by
  have c1 := hq.b0.cell 0
  have c2 := hq.b1.cell 0
  simp only [List.getElem?_toArray, List.getElem?_cons_zero] at c1 c2
  have l1 : (loadVar 5 ⟨P, 0, none⟩).run Tryz.prog w' = .ok x w' := by
    simp [loadVar, c1, go_sem]
  have l2 : (loadVar 4 ⟨P + 1, 0, none⟩).run Tryz.prog w' = .ok y w' := by
    simp [loadVar, c2, go_sem]
  exact ⟨_, results_cells2 hf tmps Tryz.prog w' h2 h3 l1 l2, hR⟩
def TwoAt (P : Nat) (b : Nat) : Prop := P ≤ b ∧ b < P + 2
theorem ta_0_y (v : Value) (W : World) : (Instr.typeAssert (.iface 79 v) 71 79 true).run Tryz.prog W = .ok (.tuple #[v, .bool true]) W := by kernel_rfl
set_option maxRecDepth 100000 in
set_option maxHeartbeats 3200000 in
theorem bk_Open (w : World) (s : Value) (D : List UInt8) (hs : BSl Any_ w s D) (hlen : D.length ≤ 1000000000) (he : Eof w)
    (hU : ∀ (W : World) (r : Nat) (y : Value), Buf W r y D 0 → Calls Tryz.prog 20 #[.pointer (some ⟨r, 0, none⟩)] W (Gives2 fun x e w' => e = .nilIface ∧ (∃ p, x = .iface 79 (.pointer p)) ∧ Kept (Only r) W w')) :
    Calls Tryz.prog 5 #[s] w (fun e w' => e = .returned (.tuple #[.int .u8 16, .bool true]) ∧ Kept Nope w w') := by
  have HW := Lib.hid (And.intro hs he)
  have HR := Lib.hid hlen
  have HU := Lib.hid hU
  clear hlen he hU
  have fy := fun v W => ta_0_y v W
  obtain ⟨sa, sc, rfl, _⟩ := hs
  go_enter_defers Tryz.func5, Tryz.ntmps5
  go_wp2_with fail
  obtain ⟨P, hP⟩ : ∃ P, w.heap.size = P := ⟨_, rfl⟩
  obtain ⟨W3, hW3⟩ : ∃ W3, (w.alloc (.cells #[.int .u8 0] 5)).alloc (.cells #[.bool false] 4) = W3 := ⟨_, rfl⟩
  have hB := two_new w P hP W3 hW3
  rw [hW3, hP]
  have HB := Lib.hid hB
  clear hB hW3 hP
  go_wp2_with (first
    | (go_at_call 20; go_must (refine (HU.out w2 w1.heap.size _ H2.out.1).mono ?_; rintro e w3 ⟨_, _, rfl, rfl, ⟨p3, rfl⟩, hk3⟩; have hq3 := (HB.out.2.2.1.keep (H1.out.2.trans' H2.out.2)).keepO hk3 (by have h1 := H1.out.2.size; have h2 := HB.out.2.1; omega); have hkw3 : Kept Nope w w3 := (HB.out.1.trans' (H1.out.2.trans' H2.out.2)).trans hk3 (fun k hk e => by have e' : k = w1.heap.size := e; have h2 := (HB.out.1.trans' H1.out.2).size; omega); have H3 := Lib.hid (And.intro hkw3 hq3); have c40 := hq3.b0.cell 0; have c41 := hq3.b1.cell 0; have f40 := hq3.b0.frozen 0; have f41 := hq3.b1.frozen 0; simp only [List.getElem?_toArray, List.getElem?_cons_zero] at c40 c41; clear hk3 hq3 hkw3))
    | (go_at_call 21; go_must (refine (New_ok _ _ _ _).mono ?_; rintro e w2 ⟨rfl, hw2⟩; have H2 := Lib.hid (And.intro (hw2.symm ▸ Buf.fresh (w := W3) (HW.out.2.nope HB.out.1) H1.out.2 H1.out.1 (by have := HR.out; omega)) (hw2.symm ▸ (Kept.refl Nope w1).alloc (.cells #[.slice ya D.length yc, .int .i64 0] 165) : Kept Nope w1 w2)); clear hw2))
    | (go_at_call 22; go_must (refine (copied_ok Any_ _ _ D (HW.out.1.keep HB.out.1 (fun _ _ _ h => h)) (by have := HR.out; omega)).mono ?_; rintro e w1 ⟨y1, rfl, hy1, hk1⟩; have hf1 := hy1; obtain ⟨ya, yc, rfl, _⟩ := hf1; have H1 := Lib.hid (And.intro hy1 hk1); clear hy1 hk1)))
  have hq5 : Two ((w3.setCell ⟨P, 0, none⟩ (.int .u8 16)).setCell ⟨P + 1, 0, none⟩ (.bool true)) P (.int .u8 16) (.bool true) :=
    ⟨(by simpa using H3.out.2.b0.set_ 0 (.int .u8 16) : Blk (w3.setCell ⟨P, 0, none⟩ (.int .u8 16)) P 5 #[.int .u8 16]).far (show P ≠ P + 1 by omega) _, by simpa using (H3.out.2.b1.far (p := ⟨P, 0, none⟩) (show P + 1 ≠ P by omega) (.int .u8 16)).set_ 0 (.bool true)⟩
  have hk5 : Kept (TwoAt P) w3 ((w3.setCell ⟨P, 0, none⟩ (.int .u8 16)).setCell ⟨P + 1, 0, none⟩ (.bool true)) :=
    ((Kept.refl _ w3).setCell (p := ⟨P, 0, none⟩) (.inl (show P ≤ P ∧ P < P + 2 by omega)) _).setCell (p := ⟨P + 1, 0, none⟩) (.inl (show P ≤ P + 1 ∧ P + 1 < P + 2 by omega)) _
  have kz : Kept Nope w ((w3.setCell ⟨P, 0, none⟩ (.int .u8 16)).setCell ⟨P + 1, 0, none⟩ (.bool true)) := H3.out.1.trans hk5 (fun k hk e => by have e' : P ≤ k ∧ k < P + 2 := e; have := HB.out.2.2.2; omega)
  go_wp2
  refine leaves_cons (f := 19) (args := #[.pointer (some ⟨P, 0, none⟩), .pointer (some ⟨P + 1, 0, none⟩)]) (by simp) (by simp [go_sem]) ?_
  refine (bkDefer_idle _ _ _).mono ?_
  rintro e u' w'' ⟨rfl, rfl, rfl⟩
  exact ret2c _ rfl _ _ _ P _ _ rfl rfl hq5 ⟨rfl, kz⟩
theorem ta_1_0 (v : Value) (W : World) : (Instr.typeAssert (.iface 80 v) 71 79 true).run Tryz.prog W = .ok (.tuple #[.pointer none, .bool false]) W := by kernel_rfl
theorem ta_1_y (v : Value) (W : World) : (Instr.typeAssert (.iface 80 v) 71 80 true).run Tryz.prog W = .ok (.tuple #[v, .bool true]) W := by kernel_rfl
set_option maxRecDepth 100000 in
set_option maxHeartbeats 3200000 in
theorem bk_Begin (w : World) (s : Value) (D : List UInt8) (hs : BSl Any_ w s D) (hlen : D.length ≤ 1000000000) (he : Eof w)
    (hU : ∀ (W : World) (r : Nat) (y : Value), Buf W r y D 0 → Calls Tryz.prog 20 #[.pointer (some ⟨r, 0, none⟩)] W (Gives2 fun x e w' => e = .nilIface ∧ (∃ p, x = .iface 80 (.pointer p)) ∧ Kept (Only r) W w')) :
    Calls Tryz.prog 5 #[s] w (fun e w' => e = .returned (.tuple #[.int .u8 17, .bool true]) ∧ Kept Nope w w') := by
  have HW := Lib.hid (And.intro hs he)
  have HR := Lib.hid hlen
  have HU := Lib.hid hU
  clear hlen he hU
  have f0 := fun v W => ta_1_0 v W
  have fy := fun v W => ta_1_y v W
  obtain ⟨sa, sc, rfl, _⟩ := hs
  go_enter_defers Tryz.func5, Tryz.ntmps5
  go_wp2_with fail
  obtain ⟨P, hP⟩ : ∃ P, w.heap.size = P := ⟨_, rfl⟩
  obtain ⟨W3, hW3⟩ : ∃ W3, (w.alloc (.cells #[.int .u8 0] 5)).alloc (.cells #[.bool false] 4) = W3 := ⟨_, rfl⟩
  have hB := two_new w P hP W3 hW3
  rw [hW3, hP]
  have HB := Lib.hid hB
  clear hB hW3 hP
  go_wp2_with (first
    | (go_at_call 20; go_must (refine (HU.out w2 w1.heap.size _ H2.out.1).mono ?_; rintro e w3 ⟨_, _, rfl, rfl, ⟨p3, rfl⟩, hk3⟩; have hq3 := (HB.out.2.2.1.keep (H1.out.2.trans' H2.out.2)).keepO hk3 (by have h1 := H1.out.2.size; have h2 := HB.out.2.1; omega); have hkw3 : Kept Nope w w3 := (HB.out.1.trans' (H1.out.2.trans' H2.out.2)).trans hk3 (fun k hk e => by have e' : k = w1.heap.size := e; have h2 := (HB.out.1.trans' H1.out.2).size; omega); have H3 := Lib.hid (And.intro hkw3 hq3); have c40 := hq3.b0.cell 0; have c41 := hq3.b1.cell 0; have f40 := hq3.b0.frozen 0; have f41 := hq3.b1.frozen 0; simp only [List.getElem?_toArray, List.getElem?_cons_zero] at c40 c41; clear hk3 hq3 hkw3))
    | (go_at_call 21; go_must (refine (New_ok _ _ _ _).mono ?_; rintro e w2 ⟨rfl, hw2⟩; have H2 := Lib.hid (And.intro (hw2.symm ▸ Buf.fresh (w := W3) (HW.out.2.nope HB.out.1) H1.out.2 H1.out.1 (by have := HR.out; omega)) (hw2.symm ▸ (Kept.refl Nope w1).alloc (.cells #[.slice ya D.length yc, .int .i64 0] 165) : Kept Nope w1 w2)); clear hw2))
    | (go_at_call 22; go_must (refine (copied_ok Any_ _ _ D (HW.out.1.keep HB.out.1 (fun _ _ _ h => h)) (by have := HR.out; omega)).mono ?_; rintro e w1 ⟨y1, rfl, hy1, hk1⟩; have hf1 := hy1; obtain ⟨ya, yc, rfl, _⟩ := hf1; have H1 := Lib.hid (And.intro hy1 hk1); clear hy1 hk1)))
  have hq5 : Two ((w3.setCell ⟨P, 0, none⟩ (.int .u8 17)).setCell ⟨P + 1, 0, none⟩ (.bool true)) P (.int .u8 17) (.bool true) :=
    ⟨(by simpa using H3.out.2.b0.set_ 0 (.int .u8 17) : Blk (w3.setCell ⟨P, 0, none⟩ (.int .u8 17)) P 5 #[.int .u8 17]).far (show P ≠ P + 1 by omega) _, by simpa using (H3.out.2.b1.far (p := ⟨P, 0, none⟩) (show P + 1 ≠ P by omega) (.int .u8 17)).set_ 0 (.bool true)⟩
  have hk5 : Kept (TwoAt P) w3 ((w3.setCell ⟨P, 0, none⟩ (.int .u8 17)).setCell ⟨P + 1, 0, none⟩ (.bool true)) :=
    ((Kept.refl _ w3).setCell (p := ⟨P, 0, none⟩) (.inl (show P ≤ P ∧ P < P + 2 by omega)) _).setCell (p := ⟨P + 1, 0, none⟩) (.inl (show P ≤ P + 1 ∧ P + 1 < P + 2 by omega)) _
  have kz : Kept Nope w ((w3.setCell ⟨P, 0, none⟩ (.int .u8 17)).setCell ⟨P + 1, 0, none⟩ (.bool true)) := H3.out.1.trans hk5 (fun k hk e => by have e' : P ≤ k ∧ k < P + 2 := e; have := HB.out.2.2.2; omega)
  go_wp2
  refine leaves_cons (f := 19) (args := #[.pointer (some ⟨P, 0, none⟩), .pointer (some ⟨P + 1, 0, none⟩)]) (by simp) (by simp [go_sem]) ?_
  refine (bkDefer_idle _ _ _).mono ?_
  rintro e u' w'' ⟨rfl, rfl, rfl⟩
  exact ret2c _ rfl _ _ _ P _ _ rfl rfl hq5 ⟨rfl, kz⟩
theorem ta_2_0 (v : Value) (W : World) : (Instr.typeAssert (.iface 81 v) 71 79 true).run Tryz.prog W = .ok (.tuple #[.pointer none, .bool false]) W := by kernel_rfl
theorem ta_2_1 (v : Value) (W : World) : (Instr.typeAssert (.iface 81 v) 71 80 true).run Tryz.prog W = .ok (.tuple #[.pointer none, .bool false]) W := by kernel_rfl
theorem ta_2_y (v : Value) (W : World) : (Instr.typeAssert (.iface 81 v) 71 81 true).run Tryz.prog W = .ok (.tuple #[v, .bool true]) W := by kernel_rfl
set_option maxRecDepth 100000 in
set_option maxHeartbeats 3200000 in
theorem bk_Attach (w : World) (s : Value) (D : List UInt8) (hs : BSl Any_ w s D) (hlen : D.length ≤ 1000000000) (he : Eof w)
    (hU : ∀ (W : World) (r : Nat) (y : Value), Buf W r y D 0 → Calls Tryz.prog 20 #[.pointer (some ⟨r, 0, none⟩)] W (Gives2 fun x e w' => e = .nilIface ∧ (∃ p, x = .iface 81 (.pointer p)) ∧ Kept (Only r) W w')) :
    Calls Tryz.prog 5 #[s] w (fun e w' => e = .returned (.tuple #[.int .u8 18, .bool true]) ∧ Kept Nope w w') := by
  have HW := Lib.hid (And.intro hs he)
  have HR := Lib.hid hlen
  have HU := Lib.hid hU
  clear hlen he hU
  have f0 := fun v W => ta_2_0 v W
  have f1 := fun v W => ta_2_1 v W
  have fy := fun v W => ta_2_y v W
  obtain ⟨sa, sc, rfl, _⟩ := hs
  go_enter_defers Tryz.func5, Tryz.ntmps5
  go_wp2_with fail
  obtain ⟨P, hP⟩ : ∃ P, w.heap.size = P := ⟨_, rfl⟩
  obtain ⟨W3, hW3⟩ : ∃ W3, (w.alloc (.cells #[.int .u8 0] 5)).alloc (.cells #[.bool false] 4) = W3 := ⟨_, rfl⟩
  have hB := two_new w P hP W3 hW3
  rw [hW3, hP]
  have HB := Lib.hid hB
  clear hB hW3 hP
  go_wp2_with (first
    | (go_at_call 20; go_must (refine (HU.out w2 w1.heap.size _ H2.out.1).mono ?_; rintro e w3 ⟨_, _, rfl, rfl, ⟨p3, rfl⟩, hk3⟩; have hq3 := (HB.out.2.2.1.keep (H1.out.2.trans' H2.out.2)).keepO hk3 (by have h1 := H1.out.2.size; have h2 := HB.out.2.1; omega); have hkw3 : Kept Nope w w3 := (HB.out.1.trans' (H1.out.2.trans' H2.out.2)).trans hk3 (fun k hk e => by have e' : k = w1.heap.size := e; have h2 := (HB.out.1.trans' H1.out.2).size; omega); have H3 := Lib.hid (And.intro hkw3 hq3); have c40 := hq3.b0.cell 0; have c41 := hq3.b1.cell 0; have f40 := hq3.b0.frozen 0; have f41 := hq3.b1.frozen 0; simp only [List.getElem?_toArray, List.getElem?_cons_zero] at c40 c41; clear hk3 hq3 hkw3))
    | (go_at_call 21; go_must (refine (New_ok _ _ _ _).mono ?_; rintro e w2 ⟨rfl, hw2⟩; have H2 := Lib.hid (And.intro (hw2.symm ▸ Buf.fresh (w := W3) (HW.out.2.nope HB.out.1) H1.out.2 H1.out.1 (by have := HR.out; omega)) (hw2.symm ▸ (Kept.refl Nope w1).alloc (.cells #[.slice ya D.length yc, .int .i64 0] 165) : Kept Nope w1 w2)); clear hw2))
    | (go_at_call 22; go_must (refine (copied_ok Any_ _ _ D (HW.out.1.keep HB.out.1 (fun _ _ _ h => h)) (by have := HR.out; omega)).mono ?_; rintro e w1 ⟨y1, rfl, hy1, hk1⟩; have hf1 := hy1; obtain ⟨ya, yc, rfl, _⟩ := hf1; have H1 := Lib.hid (And.intro hy1 hk1); clear hy1 hk1)))
  have hq5 : Two ((w3.setCell ⟨P, 0, none⟩ (.int .u8 18)).setCell ⟨P + 1, 0, none⟩ (.bool true)) P (.int .u8 18) (.bool true) :=
    ⟨(by simpa using H3.out.2.b0.set_ 0 (.int .u8 18) : Blk (w3.setCell ⟨P, 0, none⟩ (.int .u8 18)) P 5 #[.int .u8 18]).far (show P ≠ P + 1 by omega) _, by simpa using (H3.out.2.b1.far (p := ⟨P, 0, none⟩) (show P + 1 ≠ P by omega) (.int .u8 18)).set_ 0 (.bool true)⟩
  have hk5 : Kept (TwoAt P) w3 ((w3.setCell ⟨P, 0, none⟩ (.int .u8 18)).setCell ⟨P + 1, 0, none⟩ (.bool true)) :=
    ((Kept.refl _ w3).setCell (p := ⟨P, 0, none⟩) (.inl (show P ≤ P ∧ P < P + 2 by omega)) _).setCell (p := ⟨P + 1, 0, none⟩) (.inl (show P ≤ P + 1 ∧ P + 1 < P + 2 by omega)) _
  have kz : Kept Nope w ((w3.setCell ⟨P, 0, none⟩ (.int .u8 18)).setCell ⟨P + 1, 0, none⟩ (.bool true)) := H3.out.1.trans hk5 (fun k hk e => by have e' : P ≤ k ∧ k < P + 2 := e; have := HB.out.2.2.2; omega)
  go_wp2
  refine leaves_cons (f := 19) (args := #[.pointer (some ⟨P, 0, none⟩), .pointer (some ⟨P + 1, 0, none⟩)]) (by simp) (by simp [go_sem]) ?_
  refine (bkDefer_idle _ _ _).mono ?_
  rintro e u' w'' ⟨rfl, rfl, rfl⟩
  exact ret2c _ rfl _ _ _ P _ _ rfl rfl hq5 ⟨rfl, kz⟩
theorem ta_3_0 (v : Value) (W : World) : (Instr.typeAssert (.iface 82 v) 71 79 true).run Tryz.prog W = .ok (.tuple #[.pointer none, .bool false]) W := by kernel_rfl
theorem ta_3_1 (v : Value) (W : World) : (Instr.typeAssert (.iface 82 v) 71 80 true).run Tryz.prog W = .ok (.tuple #[.pointer none, .bool false]) W := by kernel_rfl
theorem ta_3_2 (v : Value) (W : World) : (Instr.typeAssert (.iface 82 v) 71 81 true).run Tryz.prog W = .ok (.tuple #[.pointer none, .bool false]) W := by kernel_rfl
theorem ta_3_y (v : Value) (W : World) : (Instr.typeAssert (.iface 82 v) 71 82 true).run Tryz.prog W = .ok (.tuple #[v, .bool true]) W := by kernel_rfl
set_option maxRecDepth 100000 in
set_option maxHeartbeats 3200000 in
theorem bk_Flow (w : World) (s : Value) (D : List UInt8) (hs : BSl Any_ w s D) (hlen : D.length ≤ 1000000000) (he : Eof w)
    (hU : ∀ (W : World) (r : Nat) (y : Value), Buf W r y D 0 → Calls Tryz.prog 20 #[.pointer (some ⟨r, 0, none⟩)] W (Gives2 fun x e w' => e = .nilIface ∧ (∃ p, x = .iface 82 (.pointer p)) ∧ Kept (Only r) W w')) :
    Calls Tryz.prog 5 #[s] w (fun e w' => e = .returned (.tuple #[.int .u8 19, .bool true]) ∧ Kept Nope w w') := by
  have HW := Lib.hid (And.intro hs he)
  have HR := Lib.hid hlen
  have HU := Lib.hid hU
  clear hlen he hU
  have f0 := fun v W => ta_3_0 v W
  have f1 := fun v W => ta_3_1 v W
  have f2 := fun v W => ta_3_2 v W
  have fy := fun v W => ta_3_y v W
  obtain ⟨sa, sc, rfl, _⟩ := hs
  go_enter_defers Tryz.func5, Tryz.ntmps5
  go_wp2_with fail
  obtain ⟨P, hP⟩ : ∃ P, w.heap.size = P := ⟨_, rfl⟩
  obtain ⟨W3, hW3⟩ : ∃ W3, (w.alloc (.cells #[.int .u8 0] 5)).alloc (.cells #[.bool false] 4) = W3 := ⟨_, rfl⟩
  have hB := two_new w P hP W3 hW3
  rw [hW3, hP]
  have HB := Lib.hid hB
  clear hB hW3 hP
  go_wp2_with (first
    | (go_at_call 20; go_must (refine (HU.out w2 w1.heap.size _ H2.out.1).mono ?_; rintro e w3 ⟨_, _, rfl, rfl, ⟨p3, rfl⟩, hk3⟩; have hq3 := (HB.out.2.2.1.keep (H1.out.2.trans' H2.out.2)).keepO hk3 (by have h1 := H1.out.2.size; have h2 := HB.out.2.1; omega); have hkw3 : Kept Nope w w3 := (HB.out.1.trans' (H1.out.2.trans' H2.out.2)).trans hk3 (fun k hk e => by have e' : k = w1.heap.size := e; have h2 := (HB.out.1.trans' H1.out.2).size; omega); have H3 := Lib.hid (And.intro hkw3 hq3); have c40 := hq3.b0.cell 0; have c41 := hq3.b1.cell 0; have f40 := hq3.b0.frozen 0; have f41 := hq3.b1.frozen 0; simp only [List.getElem?_toArray, List.getElem?_cons_zero] at c40 c41; clear hk3 hq3 hkw3))
    | (go_at_call 21; go_must (refine (New_ok _ _ _ _).mono ?_; rintro e w2 ⟨rfl, hw2⟩; have H2 := Lib.hid (And.intro (hw2.symm ▸ Buf.fresh (w := W3) (HW.out.2.nope HB.out.1) H1.out.2 H1.out.1 (by have := HR.out; omega)) (hw2.symm ▸ (Kept.refl Nope w1).alloc (.cells #[.slice ya D.length yc, .int .i64 0] 165) : Kept Nope w1 w2)); clear hw2))
    | (go_at_call 22; go_must (refine (copied_ok Any_ _ _ D (HW.out.1.keep HB.out.1 (fun _ _ _ h => h)) (by have := HR.out; omega)).mono ?_; rintro e w1 ⟨y1, rfl, hy1, hk1⟩; have hf1 := hy1; obtain ⟨ya, yc, rfl, _⟩ := hf1; have H1 := Lib.hid (And.intro hy1 hk1); clear hy1 hk1)))
  have hq5 : Two ((w3.setCell ⟨P, 0, none⟩ (.int .u8 19)).setCell ⟨P + 1, 0, none⟩ (.bool true)) P (.int .u8 19) (.bool true) :=
    ⟨(by simpa using H3.out.2.b0.set_ 0 (.int .u8 19) : Blk (w3.setCell ⟨P, 0, none⟩ (.int .u8 19)) P 5 #[.int .u8 19]).far (show P ≠ P + 1 by omega) _, by simpa using (H3.out.2.b1.far (p := ⟨P, 0, none⟩) (show P + 1 ≠ P by omega) (.int .u8 19)).set_ 0 (.bool true)⟩
  have hk5 : Kept (TwoAt P) w3 ((w3.setCell ⟨P, 0, none⟩ (.int .u8 19)).setCell ⟨P + 1, 0, none⟩ (.bool true)) :=
    ((Kept.refl _ w3).setCell (p := ⟨P, 0, none⟩) (.inl (show P ≤ P ∧ P < P + 2 by omega)) _).setCell (p := ⟨P + 1, 0, none⟩) (.inl (show P ≤ P + 1 ∧ P + 1 < P + 2 by omega)) _
  have kz : Kept Nope w ((w3.setCell ⟨P, 0, none⟩ (.int .u8 19)).setCell ⟨P + 1, 0, none⟩ (.bool true)) := H3.out.1.trans hk5 (fun k hk e => by have e' : P ≤ k ∧ k < P + 2 := e; have := HB.out.2.2.2; omega)
  go_wp2
  refine leaves_cons (f := 19) (args := #[.pointer (some ⟨P, 0, none⟩), .pointer (some ⟨P + 1, 0, none⟩)]) (by simp) (by simp [go_sem]) ?_
  refine (bkDefer_idle _ _ _).mono ?_
  rintro e u' w'' ⟨rfl, rfl, rfl⟩
  exact ret2c _ rfl _ _ _ P _ _ rfl rfl hq5 ⟨rfl, kz⟩
theorem ta_4_0 (v : Value) (W : World) : (Instr.typeAssert (.iface 83 v) 71 79 true).run Tryz.prog W = .ok (.tuple #[.pointer none, .bool false]) W := by kernel_rfl
theorem ta_4_1 (v : Value) (W : World) : (Instr.typeAssert (.iface 83 v) 71 80 true).run Tryz.prog W = .ok (.tuple #[.pointer none, .bool false]) W := by kernel_rfl
theorem ta_4_2 (v : Value) (W : World) : (Instr.typeAssert (.iface 83 v) 71 81 true).run Tryz.prog W = .ok (.tuple #[.pointer none, .bool false]) W := by kernel_rfl
theorem ta_4_3 (v : Value) (W : World) : (Instr.typeAssert (.iface 83 v) 71 82 true).run Tryz.prog W = .ok (.tuple #[.pointer none, .bool false]) W := by kernel_rfl
theorem ta_4_y (v : Value) (W : World) : (Instr.typeAssert (.iface 83 v) 71 83 true).run Tryz.prog W = .ok (.tuple #[v, .bool true]) W := by kernel_rfl
set_option maxRecDepth 100000 in
set_option maxHeartbeats 3200000 in
theorem bk_Transfer (w : World) (s : Value) (D : List UInt8) (hs : BSl Any_ w s D) (hlen : D.length ≤ 1000000000) (he : Eof w)
    (hU : ∀ (W : World) (r : Nat) (y : Value), Buf W r y D 0 → Calls Tryz.prog 20 #[.pointer (some ⟨r, 0, none⟩)] W (Gives2 fun x e w' => e = .nilIface ∧ (∃ p, x = .iface 83 (.pointer p)) ∧ Kept (Only r) W w')) :
    Calls Tryz.prog 5 #[s] w (fun e w' => e = .returned (.tuple #[.int .u8 20, .bool true]) ∧ Kept Nope w w') := by
  have HW := Lib.hid (And.intro hs he)
  have HR := Lib.hid hlen
  have HU := Lib.hid hU
  clear hlen he hU
  have f0 := fun v W => ta_4_0 v W
  have f1 := fun v W => ta_4_1 v W
  have f2 := fun v W => ta_4_2 v W
  have f3 := fun v W => ta_4_3 v W
  have fy := fun v W => ta_4_y v W
  obtain ⟨sa, sc, rfl, _⟩ := hs
  go_enter_defers Tryz.func5, Tryz.ntmps5
  go_wp2_with fail
  obtain ⟨P, hP⟩ : ∃ P, w.heap.size = P := ⟨_, rfl⟩
  obtain ⟨W3, hW3⟩ : ∃ W3, (w.alloc (.cells #[.int .u8 0] 5)).alloc (.cells #[.bool false] 4) = W3 := ⟨_, rfl⟩
  have hB := two_new w P hP W3 hW3
  rw [hW3, hP]
  have HB := Lib.hid hB
  clear hB hW3 hP
  go_wp2_with (first
    | (go_at_call 20; go_must (refine (HU.out w2 w1.heap.size _ H2.out.1).mono ?_; rintro e w3 ⟨_, _, rfl, rfl, ⟨p3, rfl⟩, hk3⟩; have hq3 := (HB.out.2.2.1.keep (H1.out.2.trans' H2.out.2)).keepO hk3 (by have h1 := H1.out.2.size; have h2 := HB.out.2.1; omega); have hkw3 : Kept Nope w w3 := (HB.out.1.trans' (H1.out.2.trans' H2.out.2)).trans hk3 (fun k hk e => by have e' : k = w1.heap.size := e; have h2 := (HB.out.1.trans' H1.out.2).size; omega); have H3 := Lib.hid (And.intro hkw3 hq3); have c40 := hq3.b0.cell 0; have c41 := hq3.b1.cell 0; have f40 := hq3.b0.frozen 0; have f41 := hq3.b1.frozen 0; simp only [List.getElem?_toArray, List.getElem?_cons_zero] at c40 c41; clear hk3 hq3 hkw3))
    | (go_at_call 21; go_must (refine (New_ok _ _ _ _).mono ?_; rintro e w2 ⟨rfl, hw2⟩; have H2 := Lib.hid (And.intro (hw2.symm ▸ Buf.fresh (w := W3) (HW.out.2.nope HB.out.1) H1.out.2 H1.out.1 (by have := HR.out; omega)) (hw2.symm ▸ (Kept.refl Nope w1).alloc (.cells #[.slice ya D.length yc, .int .i64 0] 165) : Kept Nope w1 w2)); clear hw2))
    | (go_at_call 22; go_must (refine (copied_ok Any_ _ _ D (HW.out.1.keep HB.out.1 (fun _ _ _ h => h)) (by have := HR.out; omega)).mono ?_; rintro e w1 ⟨y1, rfl, hy1, hk1⟩; have hf1 := hy1; obtain ⟨ya, yc, rfl, _⟩ := hf1; have H1 := Lib.hid (And.intro hy1 hk1); clear hy1 hk1)))
  have hq5 : Two ((w3.setCell ⟨P, 0, none⟩ (.int .u8 20)).setCell ⟨P + 1, 0, none⟩ (.bool true)) P (.int .u8 20) (.bool true) :=
    ⟨(by simpa using H3.out.2.b0.set_ 0 (.int .u8 20) : Blk (w3.setCell ⟨P, 0, none⟩ (.int .u8 20)) P 5 #[.int .u8 20]).far (show P ≠ P + 1 by omega) _, by simpa using (H3.out.2.b1.far (p := ⟨P, 0, none⟩) (show P + 1 ≠ P by omega) (.int .u8 20)).set_ 0 (.bool true)⟩
  have hk5 : Kept (TwoAt P) w3 ((w3.setCell ⟨P, 0, none⟩ (.int .u8 20)).setCell ⟨P + 1, 0, none⟩ (.bool true)) :=
    ((Kept.refl _ w3).setCell (p := ⟨P, 0, none⟩) (.inl (show P ≤ P ∧ P < P + 2 by omega)) _).setCell (p := ⟨P + 1, 0, none⟩) (.inl (show P ≤ P + 1 ∧ P + 1 < P + 2 by omega)) _
  have kz : Kept Nope w ((w3.setCell ⟨P, 0, none⟩ (.int .u8 20)).setCell ⟨P + 1, 0, none⟩ (.bool true)) := H3.out.1.trans hk5 (fun k hk e => by have e' : P ≤ k ∧ k < P + 2 := e; have := HB.out.2.2.2; omega)
  go_wp2
  refine leaves_cons (f := 19) (args := #[.pointer (some ⟨P, 0, none⟩), .pointer (some ⟨P + 1, 0, none⟩)]) (by simp) (by simp [go_sem]) ?_
  refine (bkDefer_idle _ _ _).mono ?_
  rintro e u' w'' ⟨rfl, rfl, rfl⟩
  exact ret2c _ rfl _ _ _ P _ _ rfl rfl hq5 ⟨rfl, kz⟩
theorem ta_5_0 (v : Value) (W : World) : (Instr.typeAssert (.iface 84 v) 71 79 true).run Tryz.prog W = .ok (.tuple #[.pointer none, .bool false]) W := by kernel_rfl
theorem ta_5_1 (v : Value) (W : World) : (Instr.typeAssert (.iface 84 v) 71 80 true).run Tryz.prog W = .ok (.tuple #[.pointer none, .bool false]) W := by kernel_rfl
theorem ta_5_2 (v : Value) (W : World) : (Instr.typeAssert (.iface 84 v) 71 81 true).run Tryz.prog W = .ok (.tuple #[.pointer none, .bool false]) W := by kernel_rfl
theorem ta_5_3 (v : Value) (W : World) : (Instr.typeAssert (.iface 84 v) 71 82 true).run Tryz.prog W = .ok (.tuple #[.pointer none, .bool false]) W := by kernel_rfl
theorem ta_5_4 (v : Value) (W : World) : (Instr.typeAssert (.iface 84 v) 71 83 true).run Tryz.prog W = .ok (.tuple #[.pointer none, .bool false]) W := by kernel_rfl
theorem ta_5_y (v : Value) (W : World) : (Instr.typeAssert (.iface 84 v) 71 84 true).run Tryz.prog W = .ok (.tuple #[v, .bool true]) W := by kernel_rfl
set_option maxRecDepth 100000 in
set_option maxHeartbeats 3200000 in
theorem bk_Disposition (w : World) (s : Value) (D : List UInt8) (hs : BSl Any_ w s D) (hlen : D.length ≤ 1000000000) (he : Eof w)
    (hU : ∀ (W : World) (r : Nat) (y : Value), Buf W r y D 0 → Calls Tryz.prog 20 #[.pointer (some ⟨r, 0, none⟩)] W (Gives2 fun x e w' => e = .nilIface ∧ (∃ p, x = .iface 84 (.pointer p)) ∧ Kept (Only r) W w')) :
    Calls Tryz.prog 5 #[s] w (fun e w' => e = .returned (.tuple #[.int .u8 21, .bool true]) ∧ Kept Nope w w') := by
  have HW := Lib.hid (And.intro hs he)
  have HR := Lib.hid hlen
  have HU := Lib.hid hU
  clear hlen he hU
  have f0 := fun v W => ta_5_0 v W
  have f1 := fun v W => ta_5_1 v W
  have f2 := fun v W => ta_5_2 v W
  have f3 := fun v W => ta_5_3 v W
  have f4 := fun v W => ta_5_4 v W
  have fy := fun v W => ta_5_y v W
  obtain ⟨sa, sc, rfl, _⟩ := hs
  go_enter_defers Tryz.func5, Tryz.ntmps5
  go_wp2_with fail
  obtain ⟨P, hP⟩ : ∃ P, w.heap.size = P := ⟨_, rfl⟩
  obtain ⟨W3, hW3⟩ : ∃ W3, (w.alloc (.cells #[.int .u8 0] 5)).alloc (.cells #[.bool false] 4) = W3 := ⟨_, rfl⟩
  have hB := two_new w P hP W3 hW3
  rw [hW3, hP]
  have HB := Lib.hid hB
  clear hB hW3 hP
  go_wp2_with (first
    | (go_at_call 20; go_must (refine (HU.out w2 w1.heap.size _ H2.out.1).mono ?_; rintro e w3 ⟨_, _, rfl, rfl, ⟨p3, rfl⟩, hk3⟩; have hq3 := (HB.out.2.2.1.keep (H1.out.2.trans' H2.out.2)).keepO hk3 (by have h1 := H1.out.2.size; have h2 := HB.out.2.1; omega); have hkw3 : Kept Nope w w3 := (HB.out.1.trans' (H1.out.2.trans' H2.out.2)).trans hk3 (fun k hk e => by have e' : k = w1.heap.size := e; have h2 := (HB.out.1.trans' H1.out.2).size; omega); have H3 := Lib.hid (And.intro hkw3 hq3); have c40 := hq3.b0.cell 0; have c41 := hq3.b1.cell 0; have f40 := hq3.b0.frozen 0; have f41 := hq3.b1.frozen 0; simp only [List.getElem?_toArray, List.getElem?_cons_zero] at c40 c41; clear hk3 hq3 hkw3))
    | (go_at_call 21; go_must (refine (New_ok _ _ _ _).mono ?_; rintro e w2 ⟨rfl, hw2⟩; have H2 := Lib.hid (And.intro (hw2.symm ▸ Buf.fresh (w := W3) (HW.out.2.nope HB.out.1) H1.out.2 H1.out.1 (by have := HR.out; omega)) (hw2.symm ▸ (Kept.refl Nope w1).alloc (.cells #[.slice ya D.length yc, .int .i64 0] 165) : Kept Nope w1 w2)); clear hw2))
    | (go_at_call 22; go_must (refine (copied_ok Any_ _ _ D (HW.out.1.keep HB.out.1 (fun _ _ _ h => h)) (by have := HR.out; omega)).mono ?_; rintro e w1 ⟨y1, rfl, hy1, hk1⟩; have hf1 := hy1; obtain ⟨ya, yc, rfl, _⟩ := hf1; have H1 := Lib.hid (And.intro hy1 hk1); clear hy1 hk1)))
  have hq5 : Two ((w3.setCell ⟨P, 0, none⟩ (.int .u8 21)).setCell ⟨P + 1, 0, none⟩ (.bool true)) P (.int .u8 21) (.bool true) :=
    ⟨(by simpa using H3.out.2.b0.set_ 0 (.int .u8 21) : Blk (w3.setCell ⟨P, 0, none⟩ (.int .u8 21)) P 5 #[.int .u8 21]).far (show P ≠ P + 1 by omega) _, by simpa using (H3.out.2.b1.far (p := ⟨P, 0, none⟩) (show P + 1 ≠ P by omega) (.int .u8 21)).set_ 0 (.bool true)⟩
  have hk5 : Kept (TwoAt P) w3 ((w3.setCell ⟨P, 0, none⟩ (.int .u8 21)).setCell ⟨P + 1, 0, none⟩ (.bool true)) :=
    ((Kept.refl _ w3).setCell (p := ⟨P, 0, none⟩) (.inl (show P ≤ P ∧ P < P + 2 by omega)) _).setCell (p := ⟨P + 1, 0, none⟩) (.inl (show P ≤ P + 1 ∧ P + 1 < P + 2 by omega)) _
  have kz : Kept Nope w ((w3.setCell ⟨P, 0, none⟩ (.int .u8 21)).setCell ⟨P + 1, 0, none⟩ (.bool true)) := H3.out.1.trans hk5 (fun k hk e => by have e' : P ≤ k ∧ k < P + 2 := e; have := HB.out.2.2.2; omega)
  go_wp2
  refine leaves_cons (f := 19) (args := #[.pointer (some ⟨P, 0, none⟩), .pointer (some ⟨P + 1, 0, none⟩)]) (by simp) (by simp [go_sem]) ?_
  refine (bkDefer_idle _ _ _).mono ?_
  rintro e u' w'' ⟨rfl, rfl, rfl⟩
  exact ret2c _ rfl _ _ _ P _ _ rfl rfl hq5 ⟨rfl, kz⟩
theorem ta_6_0 (v : Value) (W : World) : (Instr.typeAssert (.iface 85 v) 71 79 true).run Tryz.prog W = .ok (.tuple #[.pointer none, .bool false]) W := by kernel_rfl
theorem ta_6_1 (v : Value) (W : World) : (Instr.typeAssert (.iface 85 v) 71 80 true).run Tryz.prog W = .ok (.tuple #[.pointer none, .bool false]) W := by kernel_rfl
theorem ta_6_2 (v : Value) (W : World) : (Instr.typeAssert (.iface 85 v) 71 81 true).run Tryz.prog W = .ok (.tuple #[.pointer none, .bool false]) W := by kernel_rfl
theorem ta_6_3 (v : Value) (W : World) : (Instr.typeAssert (.iface 85 v) 71 82 true).run Tryz.prog W = .ok (.tuple #[.pointer none, .bool false]) W := by kernel_rfl
theorem ta_6_4 (v : Value) (W : World) : (Instr.typeAssert (.iface 85 v) 71 83 true).run Tryz.prog W = .ok (.tuple #[.pointer none, .bool false]) W := by kernel_rfl
theorem ta_6_5 (v : Value) (W : World) : (Instr.typeAssert (.iface 85 v) 71 84 true).run Tryz.prog W = .ok (.tuple #[.pointer none, .bool false]) W := by kernel_rfl
theorem ta_6_y (v : Value) (W : World) : (Instr.typeAssert (.iface 85 v) 71 85 true).run Tryz.prog W = .ok (.tuple #[v, .bool true]) W := by kernel_rfl
set_option maxRecDepth 100000 in
set_option maxHeartbeats 3200000 in
theorem bk_Detach (w : World) (s : Value) (D : List UInt8) (hs : BSl Any_ w s D) (hlen : D.length ≤ 1000000000) (he : Eof w)
    (hU : ∀ (W : World) (r : Nat) (y : Value), Buf W r y D 0 → Calls Tryz.prog 20 #[.pointer (some ⟨r, 0, none⟩)] W (Gives2 fun x e w' => e = .nilIface ∧ (∃ p, x = .iface 85 (.pointer p)) ∧ Kept (Only r) W w')) :
    Calls Tryz.prog 5 #[s] w (fun e w' => e = .returned (.tuple #[.int .u8 22, .bool true]) ∧ Kept Nope w w') := by
  have HW := Lib.hid (And.intro hs he)
  have HR := Lib.hid hlen
  have HU := Lib.hid hU
  clear hlen he hU
  have f0 := fun v W => ta_6_0 v W
  have f1 := fun v W => ta_6_1 v W
  have f2 := fun v W => ta_6_2 v W
  have f3 := fun v W => ta_6_3 v W
  have f4 := fun v W => ta_6_4 v W
  have f5 := fun v W => ta_6_5 v W
  have fy := fun v W => ta_6_y v W
  obtain ⟨sa, sc, rfl, _⟩ := hs
  go_enter_defers Tryz.func5, Tryz.ntmps5
  go_wp2_with fail
  obtain ⟨P, hP⟩ : ∃ P, w.heap.size = P := ⟨_, rfl⟩
  obtain ⟨W3, hW3⟩ : ∃ W3, (w.alloc (.cells #[.int .u8 0] 5)).alloc (.cells #[.bool false] 4) = W3 := ⟨_, rfl⟩
  have hB := two_new w P hP W3 hW3
  rw [hW3, hP]
  have HB := Lib.hid hB
  clear hB hW3 hP
  go_wp2_with (first
    | (go_at_call 20; go_must (refine (HU.out w2 w1.heap.size _ H2.out.1).mono ?_; rintro e w3 ⟨_, _, rfl, rfl, ⟨p3, rfl⟩, hk3⟩; have hq3 := (HB.out.2.2.1.keep (H1.out.2.trans' H2.out.2)).keepO hk3 (by have h1 := H1.out.2.size; have h2 := HB.out.2.1; omega); have hkw3 : Kept Nope w w3 := (HB.out.1.trans' (H1.out.2.trans' H2.out.2)).trans hk3 (fun k hk e => by have e' : k = w1.heap.size := e; have h2 := (HB.out.1.trans' H1.out.2).size; omega); have H3 := Lib.hid (And.intro hkw3 hq3); have c40 := hq3.b0.cell 0; have c41 := hq3.b1.cell 0; have f40 := hq3.b0.frozen 0; have f41 := hq3.b1.frozen 0; simp only [List.getElem?_toArray, List.getElem?_cons_zero] at c40 c41; clear hk3 hq3 hkw3))
    | (go_at_call 21; go_must (refine (New_ok _ _ _ _).mono ?_; rintro e w2 ⟨rfl, hw2⟩; have H2 := Lib.hid (And.intro (hw2.symm ▸ Buf.fresh (w := W3) (HW.out.2.nope HB.out.1) H1.out.2 H1.out.1 (by have := HR.out; omega)) (hw2.symm ▸ (Kept.refl Nope w1).alloc (.cells #[.slice ya D.length yc, .int .i64 0] 165) : Kept Nope w1 w2)); clear hw2))
    | (go_at_call 22; go_must (refine (copied_ok Any_ _ _ D (HW.out.1.keep HB.out.1 (fun _ _ _ h => h)) (by have := HR.out; omega)).mono ?_; rintro e w1 ⟨y1, rfl, hy1, hk1⟩; have hf1 := hy1; obtain ⟨ya, yc, rfl, _⟩ := hf1; have H1 := Lib.hid (And.intro hy1 hk1); clear hy1 hk1)))
  have hq5 : Two ((w3.setCell ⟨P, 0, none⟩ (.int .u8 22)).setCell ⟨P + 1, 0, none⟩ (.bool true)) P (.int .u8 22) (.bool true) :=
    ⟨(by simpa using H3.out.2.b0.set_ 0 (.int .u8 22) : Blk (w3.setCell ⟨P, 0, none⟩ (.int .u8 22)) P 5 #[.int .u8 22]).far (show P ≠ P + 1 by omega) _, by simpa using (H3.out.2.b1.far (p := ⟨P, 0, none⟩) (show P + 1 ≠ P by omega) (.int .u8 22)).set_ 0 (.bool true)⟩
  have hk5 : Kept (TwoAt P) w3 ((w3.setCell ⟨P, 0, none⟩ (.int .u8 22)).setCell ⟨P + 1, 0, none⟩ (.bool true)) :=
    ((Kept.refl _ w3).setCell (p := ⟨P, 0, none⟩) (.inl (show P ≤ P ∧ P < P + 2 by omega)) _).setCell (p := ⟨P + 1, 0, none⟩) (.inl (show P ≤ P + 1 ∧ P + 1 < P + 2 by omega)) _
  have kz : Kept Nope w ((w3.setCell ⟨P, 0, none⟩ (.int .u8 22)).setCell ⟨P + 1, 0, none⟩ (.bool true)) := H3.out.1.trans hk5 (fun k hk e => by have e' : P ≤ k ∧ k < P + 2 := e; have := HB.out.2.2.2; omega)
  go_wp2
  refine leaves_cons (f := 19) (args := #[.pointer (some ⟨P, 0, none⟩), .pointer (some ⟨P + 1, 0, none⟩)]) (by simp) (by simp [go_sem]) ?_
  refine (bkDefer_idle _ _ _).mono ?_
  rintro e u' w'' ⟨rfl, rfl, rfl⟩
  exact ret2c _ rfl _ _ _ P _ _ rfl rfl hq5 ⟨rfl, kz⟩
theorem ta_7_0 (v : Value) (W : World) : (Instr.typeAssert (.iface 86 v) 71 79 true).run Tryz.prog W = .ok (.tuple #[.pointer none, .bool false]) W := by kernel_rfl
theorem ta_7_1 (v : Value) (W : World) : (Instr.typeAssert (.iface 86 v) 71 80 true).run Tryz.prog W = .ok (.tuple #[.pointer none, .bool false]) W := by kernel_rfl
theorem ta_7_2 (v : Value) (W : World) : (Instr.typeAssert (.iface 86 v) 71 81 true).run Tryz.prog W = .ok (.tuple #[.pointer none, .bool false]) W := by kernel_rfl
theorem ta_7_3 (v : Value) (W : World) : (Instr.typeAssert (.iface 86 v) 71 82 true).run Tryz.prog W = .ok (.tuple #[.pointer none, .bool false]) W := by kernel_rfl
theorem ta_7_4 (v : Value) (W : World) : (Instr.typeAssert (.iface 86 v) 71 83 true).run Tryz.prog W = .ok (.tuple #[.pointer none, .bool false]) W := by kernel_rfl
theorem ta_7_5 (v : Value) (W : World) : (Instr.typeAssert (.iface 86 v) 71 84 true).run Tryz.prog W = .ok (.tuple #[.pointer none, .bool false]) W := by kernel_rfl
theorem ta_7_6 (v : Value) (W : World) : (Instr.typeAssert (.iface 86 v) 71 85 true).run Tryz.prog W = .ok (.tuple #[.pointer none, .bool false]) W := by kernel_rfl
theorem ta_7_y (v : Value) (W : World) : (Instr.typeAssert (.iface 86 v) 71 86 true).run Tryz.prog W = .ok (.tuple #[v, .bool true]) W := by kernel_rfl
set_option maxRecDepth 100000 in
set_option maxHeartbeats 3200000 in
theorem bk_End (w : World) (s : Value) (D : List UInt8) (hs : BSl Any_ w s D) (hlen : D.length ≤ 1000000000) (he : Eof w)
    (hU : ∀ (W : World) (r : Nat) (y : Value), Buf W r y D 0 → Calls Tryz.prog 20 #[.pointer (some ⟨r, 0, none⟩)] W (Gives2 fun x e w' => e = .nilIface ∧ (∃ p, x = .iface 86 (.pointer p)) ∧ Kept (Only r) W w')) :
    Calls Tryz.prog 5 #[s] w (fun e w' => e = .returned (.tuple #[.int .u8 23, .bool true]) ∧ Kept Nope w w') := by
  have HW := Lib.hid (And.intro hs he)
  have HR := Lib.hid hlen
  have HU := Lib.hid hU
  clear hlen he hU
  have f0 := fun v W => ta_7_0 v W
  have f1 := fun v W => ta_7_1 v W
  have f2 := fun v W => ta_7_2 v W
  have f3 := fun v W => ta_7_3 v W
  have f4 := fun v W => ta_7_4 v W
  have f5 := fun v W => ta_7_5 v W
  have f6 := fun v W => ta_7_6 v W
  have fy := fun v W => ta_7_y v W
  obtain ⟨sa, sc, rfl, _⟩ := hs
  go_enter_defers Tryz.func5, Tryz.ntmps5
  go_wp2_with fail
  obtain ⟨P, hP⟩ : ∃ P, w.heap.size = P := ⟨_, rfl⟩
  obtain ⟨W3, hW3⟩ : ∃ W3, (w.alloc (.cells #[.int .u8 0] 5)).alloc (.cells #[.bool false] 4) = W3 := ⟨_, rfl⟩
  have hB := two_new w P hP W3 hW3
  rw [hW3, hP]
  have HB := Lib.hid hB
  clear hB hW3 hP
  go_wp2_with (first
    | (go_at_call 20; go_must (refine (HU.out w2 w1.heap.size _ H2.out.1).mono ?_; rintro e w3 ⟨_, _, rfl, rfl, ⟨p3, rfl⟩, hk3⟩; have hq3 := (HB.out.2.2.1.keep (H1.out.2.trans' H2.out.2)).keepO hk3 (by have h1 := H1.out.2.size; have h2 := HB.out.2.1; omega); have hkw3 : Kept Nope w w3 := (HB.out.1.trans' (H1.out.2.trans' H2.out.2)).trans hk3 (fun k hk e => by have e' : k = w1.heap.size := e; have h2 := (HB.out.1.trans' H1.out.2).size; omega); have H3 := Lib.hid (And.intro hkw3 hq3); have c40 := hq3.b0.cell 0; have c41 := hq3.b1.cell 0; have f40 := hq3.b0.frozen 0; have f41 := hq3.b1.frozen 0; simp only [List.getElem?_toArray, List.getElem?_cons_zero] at c40 c41; clear hk3 hq3 hkw3))
    | (go_at_call 21; go_must (refine (New_ok _ _ _ _).mono ?_; rintro e w2 ⟨rfl, hw2⟩; have H2 := Lib.hid (And.intro (hw2.symm ▸ Buf.fresh (w := W3) (HW.out.2.nope HB.out.1) H1.out.2 H1.out.1 (by have := HR.out; omega)) (hw2.symm ▸ (Kept.refl Nope w1).alloc (.cells #[.slice ya D.length yc, .int .i64 0] 165) : Kept Nope w1 w2)); clear hw2))
    | (go_at_call 22; go_must (refine (copied_ok Any_ _ _ D (HW.out.1.keep HB.out.1 (fun _ _ _ h => h)) (by have := HR.out; omega)).mono ?_; rintro e w1 ⟨y1, rfl, hy1, hk1⟩; have hf1 := hy1; obtain ⟨ya, yc, rfl, _⟩ := hf1; have H1 := Lib.hid (And.intro hy1 hk1); clear hy1 hk1)))
  have hq5 : Two ((w3.setCell ⟨P, 0, none⟩ (.int .u8 23)).setCell ⟨P + 1, 0, none⟩ (.bool true)) P (.int .u8 23) (.bool true) :=
    ⟨(by simpa using H3.out.2.b0.set_ 0 (.int .u8 23) : Blk (w3.setCell ⟨P, 0, none⟩ (.int .u8 23)) P 5 #[.int .u8 23]).far (show P ≠ P + 1 by omega) _, by simpa using (H3.out.2.b1.far (p := ⟨P, 0, none⟩) (show P + 1 ≠ P by omega) (.int .u8 23)).set_ 0 (.bool true)⟩
  have hk5 : Kept (TwoAt P) w3 ((w3.setCell ⟨P, 0, none⟩ (.int .u8 23)).setCell ⟨P + 1, 0, none⟩ (.bool true)) :=
    ((Kept.refl _ w3).setCell (p := ⟨P, 0, none⟩) (.inl (show P ≤ P ∧ P < P + 2 by omega)) _).setCell (p := ⟨P + 1, 0, none⟩) (.inl (show P ≤ P + 1 ∧ P + 1 < P + 2 by omega)) _
  have kz : Kept Nope w ((w3.setCell ⟨P, 0, none⟩ (.int .u8 23)).setCell ⟨P + 1, 0, none⟩ (.bool true)) := H3.out.1.trans hk5 (fun k hk e => by have e' : P ≤ k ∧ k < P + 2 := e; have := HB.out.2.2.2; omega)
  go_wp2
  refine leaves_cons (f := 19) (args := #[.pointer (some ⟨P, 0, none⟩), .pointer (some ⟨P + 1, 0, none⟩)]) (by simp) (by simp [go_sem]) ?_
  refine (bkDefer_idle _ _ _).mono ?_
  rintro e u' w'' ⟨rfl, rfl, rfl⟩
  exact ret2c _ rfl _ _ _ P _ _ rfl rfl hq5 ⟨rfl, kz⟩
theorem ta_8_0 (v : Value) (W : World) : (Instr.typeAssert (.iface 87 v) 71 79 true).run Tryz.prog W = .ok (.tuple #[.pointer none, .bool false]) W := by kernel_rfl
theorem ta_8_1 (v : Value) (W : World) : (Instr.typeAssert (.iface 87 v) 71 80 true).run Tryz.prog W = .ok (.tuple #[.pointer none, .bool false]) W := by kernel_rfl
theorem ta_8_2 (v : Value) (W : World) : (Instr.typeAssert (.iface 87 v) 71 81 true).run Tryz.prog W = .ok (.tuple #[.pointer none, .bool false]) W := by kernel_rfl
theorem ta_8_3 (v : Value) (W : World) : (Instr.typeAssert (.iface 87 v) 71 82 true).run Tryz.prog W = .ok (.tuple #[.pointer none, .bool false]) W := by kernel_rfl
theorem ta_8_4 (v : Value) (W : World) : (Instr.typeAssert (.iface 87 v) 71 83 true).run Tryz.prog W = .ok (.tuple #[.pointer none, .bool false]) W := by kernel_rfl
theorem ta_8_5 (v : Value) (W : World) : (Instr.typeAssert (.iface 87 v) 71 84 true).run Tryz.prog W = .ok (.tuple #[.pointer none, .bool false]) W := by kernel_rfl
theorem ta_8_6 (v : Value) (W : World) : (Instr.typeAssert (.iface 87 v) 71 85 true).run Tryz.prog W = .ok (.tuple #[.pointer none, .bool false]) W := by kernel_rfl
theorem ta_8_7 (v : Value) (W : World) : (Instr.typeAssert (.iface 87 v) 71 86 true).run Tryz.prog W = .ok (.tuple #[.pointer none, .bool false]) W := by kernel_rfl
theorem ta_8_y (v : Value) (W : World) : (Instr.typeAssert (.iface 87 v) 71 87 true).run Tryz.prog W = .ok (.tuple #[v, .bool true]) W := by kernel_rfl
set_option maxRecDepth 100000 in
set_option maxHeartbeats 3200000 in
theorem bk_Close (w : World) (s : Value) (D : List UInt8) (hs : BSl Any_ w s D) (hlen : D.length ≤ 1000000000) (he : Eof w)
    (hU : ∀ (W : World) (r : Nat) (y : Value), Buf W r y D 0 → Calls Tryz.prog 20 #[.pointer (some ⟨r, 0, none⟩)] W (Gives2 fun x e w' => e = .nilIface ∧ (∃ p, x = .iface 87 (.pointer p)) ∧ Kept (Only r) W w')) :
    Calls Tryz.prog 5 #[s] w (fun e w' => e = .returned (.tuple #[.int .u8 24, .bool true]) ∧ Kept Nope w w') := by
  have HW := Lib.hid (And.intro hs he)
  have HR := Lib.hid hlen
  have HU := Lib.hid hU
  clear hlen he hU
  have f0 := fun v W => ta_8_0 v W
  have f1 := fun v W => ta_8_1 v W
  have f2 := fun v W => ta_8_2 v W
  have f3 := fun v W => ta_8_3 v W
  have f4 := fun v W => ta_8_4 v W
  have f5 := fun v W => ta_8_5 v W
  have f6 := fun v W => ta_8_6 v W
  have f7 := fun v W => ta_8_7 v W
  have fy := fun v W => ta_8_y v W
  obtain ⟨sa, sc, rfl, _⟩ := hs
  go_enter_defers Tryz.func5, Tryz.ntmps5
  go_wp2_with fail
  obtain ⟨P, hP⟩ : ∃ P, w.heap.size = P := ⟨_, rfl⟩
  obtain ⟨W3, hW3⟩ : ∃ W3, (w.alloc (.cells #[.int .u8 0] 5)).alloc (.cells #[.bool false] 4) = W3 := ⟨_, rfl⟩
  have hB := two_new w P hP W3 hW3
  rw [hW3, hP]
  have HB := Lib.hid hB
  clear hB hW3 hP
  go_wp2_with (first
    | (go_at_call 20; go_must (refine (HU.out w2 w1.heap.size _ H2.out.1).mono ?_; rintro e w3 ⟨_, _, rfl, rfl, ⟨p3, rfl⟩, hk3⟩; have hq3 := (HB.out.2.2.1.keep (H1.out.2.trans' H2.out.2)).keepO hk3 (by have h1 := H1.out.2.size; have h2 := HB.out.2.1; omega); have hkw3 : Kept Nope w w3 := (HB.out.1.trans' (H1.out.2.trans' H2.out.2)).trans hk3 (fun k hk e => by have e' : k = w1.heap.size := e; have h2 := (HB.out.1.trans' H1.out.2).size; omega); have H3 := Lib.hid (And.intro hkw3 hq3); have c40 := hq3.b0.cell 0; have c41 := hq3.b1.cell 0; have f40 := hq3.b0.frozen 0; have f41 := hq3.b1.frozen 0; simp only [List.getElem?_toArray, List.getElem?_cons_zero] at c40 c41; clear hk3 hq3 hkw3))
    | (go_at_call 21; go_must (refine (New_ok _ _ _ _).mono ?_; rintro e w2 ⟨rfl, hw2⟩; have H2 := Lib.hid (And.intro (hw2.symm ▸ Buf.fresh (w := W3) (HW.out.2.nope HB.out.1) H1.out.2 H1.out.1 (by have := HR.out; omega)) (hw2.symm ▸ (Kept.refl Nope w1).alloc (.cells #[.slice ya D.length yc, .int .i64 0] 165) : Kept Nope w1 w2)); clear hw2))
    | (go_at_call 22; go_must (refine (copied_ok Any_ _ _ D (HW.out.1.keep HB.out.1 (fun _ _ _ h => h)) (by have := HR.out; omega)).mono ?_; rintro e w1 ⟨y1, rfl, hy1, hk1⟩; have hf1 := hy1; obtain ⟨ya, yc, rfl, _⟩ := hf1; have H1 := Lib.hid (And.intro hy1 hk1); clear hy1 hk1)))
  have hq5 : Two ((w3.setCell ⟨P, 0, none⟩ (.int .u8 24)).setCell ⟨P + 1, 0, none⟩ (.bool true)) P (.int .u8 24) (.bool true) :=
    ⟨(by simpa using H3.out.2.b0.set_ 0 (.int .u8 24) : Blk (w3.setCell ⟨P, 0, none⟩ (.int .u8 24)) P 5 #[.int .u8 24]).far (show P ≠ P + 1 by omega) _, by simpa using (H3.out.2.b1.far (p := ⟨P, 0, none⟩) (show P + 1 ≠ P by omega) (.int .u8 24)).set_ 0 (.bool true)⟩
  have hk5 : Kept (TwoAt P) w3 ((w3.setCell ⟨P, 0, none⟩ (.int .u8 24)).setCell ⟨P + 1, 0, none⟩ (.bool true)) :=
    ((Kept.refl _ w3).setCell (p := ⟨P, 0, none⟩) (.inl (show P ≤ P ∧ P < P + 2 by omega)) _).setCell (p := ⟨P + 1, 0, none⟩) (.inl (show P ≤ P + 1 ∧ P + 1 < P + 2 by omega)) _
  have kz : Kept Nope w ((w3.setCell ⟨P, 0, none⟩ (.int .u8 24)).setCell ⟨P + 1, 0, none⟩ (.bool true)) := H3.out.1.trans hk5 (fun k hk e => by have e' : P ≤ k ∧ k < P + 2 := e; have := HB.out.2.2.2; omega)
  go_wp2
  refine leaves_cons (f := 19) (args := #[.pointer (some ⟨P, 0, none⟩), .pointer (some ⟨P + 1, 0, none⟩)]) (by simp) (by simp [go_sem]) ?_
  refine (bkDefer_idle _ _ _).mono ?_
  rintro e u' w'' ⟨rfl, rfl, rfl⟩
  exact ret2c _ rfl _ _ _ P _ _ rfl rfl hq5 ⟨rfl, kz⟩
theorem ta_9_0 (v : Value) (W : World) : (Instr.typeAssert (.iface 88 v) 71 79 true).run Tryz.prog W = .ok (.tuple #[.pointer none, .bool false]) W := by kernel_rfl
theorem ta_9_1 (v : Value) (W : World) : (Instr.typeAssert (.iface 88 v) 71 80 true).run Tryz.prog W = .ok (.tuple #[.pointer none, .bool false]) W := by kernel_rfl
theorem ta_9_2 (v : Value) (W : World) : (Instr.typeAssert (.iface 88 v) 71 81 true).run Tryz.prog W = .ok (.tuple #[.pointer none, .bool false]) W := by kernel_rfl
theorem ta_9_3 (v : Value) (W : World) : (Instr.typeAssert (.iface 88 v) 71 82 true).run Tryz.prog W = .ok (.tuple #[.pointer none, .bool false]) W := by kernel_rfl
theorem ta_9_4 (v : Value) (W : World) : (Instr.typeAssert (.iface 88 v) 71 83 true).run Tryz.prog W = .ok (.tuple #[.pointer none, .bool false]) W := by kernel_rfl
theorem ta_9_5 (v : Value) (W : World) : (Instr.typeAssert (.iface 88 v) 71 84 true).run Tryz.prog W = .ok (.tuple #[.pointer none, .bool false]) W := by kernel_rfl
theorem ta_9_6 (v : Value) (W : World) : (Instr.typeAssert (.iface 88 v) 71 85 true).run Tryz.prog W = .ok (.tuple #[.pointer none, .bool false]) W := by kernel_rfl
theorem ta_9_7 (v : Value) (W : World) : (Instr.typeAssert (.iface 88 v) 71 86 true).run Tryz.prog W = .ok (.tuple #[.pointer none, .bool false]) W := by kernel_rfl
theorem ta_9_8 (v : Value) (W : World) : (Instr.typeAssert (.iface 88 v) 71 87 true).run Tryz.prog W = .ok (.tuple #[.pointer none, .bool false]) W := by kernel_rfl
theorem ta_9_y (v : Value) (W : World) : (Instr.typeAssert (.iface 88 v) 71 88 true).run Tryz.prog W = .ok (.tuple #[v, .bool true]) W := by kernel_rfl
set_option maxRecDepth 100000 in
set_option maxHeartbeats 3200000 in
theorem bk_SASLMechanisms (w : World) (s : Value) (D : List UInt8) (hs : BSl Any_ w s D) (hlen : D.length ≤ 1000000000) (he : Eof w)
    (hU : ∀ (W : World) (r : Nat) (y : Value), Buf W r y D 0 → Calls Tryz.prog 20 #[.pointer (some ⟨r, 0, none⟩)] W (Gives2 fun x e w' => e = .nilIface ∧ (∃ p, x = .iface 88 (.pointer p)) ∧ Kept (Only r) W w')) :
    Calls Tryz.prog 5 #[s] w (fun e w' => e = .returned (.tuple #[.int .u8 64, .bool true]) ∧ Kept Nope w w') := by
  have HW := Lib.hid (And.intro hs he)
  have HR := Lib.hid hlen
  have HU := Lib.hid hU
  clear hlen he hU
  have f0 := fun v W => ta_9_0 v W
  have f1 := fun v W => ta_9_1 v W
  have f2 := fun v W => ta_9_2 v W
  have f3 := fun v W => ta_9_3 v W
  have f4 := fun v W => ta_9_4 v W
  have f5 := fun v W => ta_9_5 v W
  have f6 := fun v W => ta_9_6 v W
  have f7 := fun v W => ta_9_7 v W
  have f8 := fun v W => ta_9_8 v W
  have fy := fun v W => ta_9_y v W
  obtain ⟨sa, sc, rfl, _⟩ := hs
  go_enter_defers Tryz.func5, Tryz.ntmps5
  go_wp2_with fail
  obtain ⟨P, hP⟩ : ∃ P, w.heap.size = P := ⟨_, rfl⟩
  obtain ⟨W3, hW3⟩ : ∃ W3, (w.alloc (.cells #[.int .u8 0] 5)).alloc (.cells #[.bool false] 4) = W3 := ⟨_, rfl⟩
  have hB := two_new w P hP W3 hW3
  rw [hW3, hP]
  have HB := Lib.hid hB
  clear hB hW3 hP
  go_wp2_with (first
    | (go_at_call 20; go_must (refine (HU.out w2 w1.heap.size _ H2.out.1).mono ?_; rintro e w3 ⟨_, _, rfl, rfl, ⟨p3, rfl⟩, hk3⟩; have hq3 := (HB.out.2.2.1.keep (H1.out.2.trans' H2.out.2)).keepO hk3 (by have h1 := H1.out.2.size; have h2 := HB.out.2.1; omega); have hkw3 : Kept Nope w w3 := (HB.out.1.trans' (H1.out.2.trans' H2.out.2)).trans hk3 (fun k hk e => by have e' : k = w1.heap.size := e; have h2 := (HB.out.1.trans' H1.out.2).size; omega); have H3 := Lib.hid (And.intro hkw3 hq3); have c40 := hq3.b0.cell 0; have c41 := hq3.b1.cell 0; have f40 := hq3.b0.frozen 0; have f41 := hq3.b1.frozen 0; simp only [List.getElem?_toArray, List.getElem?_cons_zero] at c40 c41; clear hk3 hq3 hkw3))
    | (go_at_call 21; go_must (refine (New_ok _ _ _ _).mono ?_; rintro e w2 ⟨rfl, hw2⟩; have H2 := Lib.hid (And.intro (hw2.symm ▸ Buf.fresh (w := W3) (HW.out.2.nope HB.out.1) H1.out.2 H1.out.1 (by have := HR.out; omega)) (hw2.symm ▸ (Kept.refl Nope w1).alloc (.cells #[.slice ya D.length yc, .int .i64 0] 165) : Kept Nope w1 w2)); clear hw2))
    | (go_at_call 22; go_must (refine (copied_ok Any_ _ _ D (HW.out.1.keep HB.out.1 (fun _ _ _ h => h)) (by have := HR.out; omega)).mono ?_; rintro e w1 ⟨y1, rfl, hy1, hk1⟩; have hf1 := hy1; obtain ⟨ya, yc, rfl, _⟩ := hf1; have H1 := Lib.hid (And.intro hy1 hk1); clear hy1 hk1)))
  have hq5 : Two ((w3.setCell ⟨P, 0, none⟩ (.int .u8 64)).setCell ⟨P + 1, 0, none⟩ (.bool true)) P (.int .u8 64) (.bool true) :=
    ⟨(by simpa using H3.out.2.b0.set_ 0 (.int .u8 64) : Blk (w3.setCell ⟨P, 0, none⟩ (.int .u8 64)) P 5 #[.int .u8 64]).far (show P ≠ P + 1 by omega) _, by simpa using (H3.out.2.b1.far (p := ⟨P, 0, none⟩) (show P + 1 ≠ P by omega) (.int .u8 64)).set_ 0 (.bool true)⟩
  have hk5 : Kept (TwoAt P) w3 ((w3.setCell ⟨P, 0, none⟩ (.int .u8 64)).setCell ⟨P + 1, 0, none⟩ (.bool true)) :=
    ((Kept.refl _ w3).setCell (p := ⟨P, 0, none⟩) (.inl (show P ≤ P ∧ P < P + 2 by omega)) _).setCell (p := ⟨P + 1, 0, none⟩) (.inl (show P ≤ P + 1 ∧ P + 1 < P + 2 by omega)) _
  have kz : Kept Nope w ((w3.setCell ⟨P, 0, none⟩ (.int .u8 64)).setCell ⟨P + 1, 0, none⟩ (.bool true)) := H3.out.1.trans hk5 (fun k hk e => by have e' : P ≤ k ∧ k < P + 2 := e; have := HB.out.2.2.2; omega)
  go_wp2
  refine leaves_cons (f := 19) (args := #[.pointer (some ⟨P, 0, none⟩), .pointer (some ⟨P + 1, 0, none⟩)]) (by simp) (by simp [go_sem]) ?_
  refine (bkDefer_idle _ _ _).mono ?_
  rintro e u' w'' ⟨rfl, rfl, rfl⟩
  exact ret2c _ rfl _ _ _ P _ _ rfl rfl hq5 ⟨rfl, kz⟩
theorem ta_10_0 (v : Value) (W : World) : (Instr.typeAssert (.iface 89 v) 71 79 true).run Tryz.prog W = .ok (.tuple #[.pointer none, .bool false]) W := by kernel_rfl
theorem ta_10_1 (v : Value) (W : World) : (Instr.typeAssert (.iface 89 v) 71 80 true).run Tryz.prog W = .ok (.tuple #[.pointer none, .bool false]) W := by kernel_rfl
theorem ta_10_2 (v : Value) (W : World) : (Instr.typeAssert (.iface 89 v) 71 81 true).run Tryz.prog W = .ok (.tuple #[.pointer none, .bool false]) W := by kernel_rfl
theorem ta_10_3 (v : Value) (W : World) : (Instr.typeAssert (.iface 89 v) 71 82 true).run Tryz.prog W = .ok (.tuple #[.pointer none, .bool false]) W := by kernel_rfl
theorem ta_10_4 (v : Value) (W : World) : (Instr.typeAssert (.iface 89 v) 71 83 true).run Tryz.prog W = .ok (.tuple #[.pointer none, .bool false]) W := by kernel_rfl
theorem ta_10_5 (v : Value) (W : World) : (Instr.typeAssert (.iface 89 v) 71 84 true).run Tryz.prog W = .ok (.tuple #[.pointer none, .bool false]) W := by kernel_rfl
theorem ta_10_6 (v : Value) (W : World) : (Instr.typeAssert (.iface 89 v) 71 85 true).run Tryz.prog W = .ok (.tuple #[.pointer none, .bool false]) W := by kernel_rfl
theorem ta_10_7 (v : Value) (W : World) : (Instr.typeAssert (.iface 89 v) 71 86 true).run Tryz.prog W = .ok (.tuple #[.pointer none, .bool false]) W := by kernel_rfl
theorem ta_10_8 (v : Value) (W : World) : (Instr.typeAssert (.iface 89 v) 71 87 true).run Tryz.prog W = .ok (.tuple #[.pointer none, .bool false]) W := by kernel_rfl
theorem ta_10_9 (v : Value) (W : World) : (Instr.typeAssert (.iface 89 v) 71 88 true).run Tryz.prog W = .ok (.tuple #[.pointer none, .bool false]) W := by kernel_rfl
theorem ta_10_y (v : Value) (W : World) : (Instr.typeAssert (.iface 89 v) 71 89 true).run Tryz.prog W = .ok (.tuple #[v, .bool true]) W := by kernel_rfl
set_option maxRecDepth 100000 in
set_option maxHeartbeats 3200000 in
theorem bk_SASLChallenge (w : World) (s : Value) (D : List UInt8) (hs : BSl Any_ w s D) (hlen : D.length ≤ 1000000000) (he : Eof w)
    (hU : ∀ (W : World) (r : Nat) (y : Value), Buf W r y D 0 → Calls Tryz.prog 20 #[.pointer (some ⟨r, 0, none⟩)] W (Gives2 fun x e w' => e = .nilIface ∧ (∃ p, x = .iface 89 (.pointer p)) ∧ Kept (Only r) W w')) :
    Calls Tryz.prog 5 #[s] w (fun e w' => e = .returned (.tuple #[.int .u8 66, .bool true]) ∧ Kept Nope w w') := by
  have HW := Lib.hid (And.intro hs he)
  have HR := Lib.hid hlen
  have HU := Lib.hid hU
  clear hlen he hU
  have f0 := fun v W => ta_10_0 v W
  have f1 := fun v W => ta_10_1 v W
  have f2 := fun v W => ta_10_2 v W
  have f3 := fun v W => ta_10_3 v W
  have f4 := fun v W => ta_10_4 v W
  have f5 := fun v W => ta_10_5 v W
  have f6 := fun v W => ta_10_6 v W
  have f7 := fun v W => ta_10_7 v W
  have f8 := fun v W => ta_10_8 v W
  have f9 := fun v W => ta_10_9 v W
  have fy := fun v W => ta_10_y v W
  obtain ⟨sa, sc, rfl, _⟩ := hs
  go_enter_defers Tryz.func5, Tryz.ntmps5
  go_wp2_with fail
  obtain ⟨P, hP⟩ : ∃ P, w.heap.size = P := ⟨_, rfl⟩
  obtain ⟨W3, hW3⟩ : ∃ W3, (w.alloc (.cells #[.int .u8 0] 5)).alloc (.cells #[.bool false] 4) = W3 := ⟨_, rfl⟩
  have hB := two_new w P hP W3 hW3
  rw [hW3, hP]
  have HB := Lib.hid hB
  clear hB hW3 hP
  go_wp2_with (first
    | (go_at_call 20; go_must (refine (HU.out w2 w1.heap.size _ H2.out.1).mono ?_; rintro e w3 ⟨_, _, rfl, rfl, ⟨p3, rfl⟩, hk3⟩; have hq3 := (HB.out.2.2.1.keep (H1.out.2.trans' H2.out.2)).keepO hk3 (by have h1 := H1.out.2.size; have h2 := HB.out.2.1; omega); have hkw3 : Kept Nope w w3 := (HB.out.1.trans' (H1.out.2.trans' H2.out.2)).trans hk3 (fun k hk e => by have e' : k = w1.heap.size := e; have h2 := (HB.out.1.trans' H1.out.2).size; omega); have H3 := Lib.hid (And.intro hkw3 hq3); have c40 := hq3.b0.cell 0; have c41 := hq3.b1.cell 0; have f40 := hq3.b0.frozen 0; have f41 := hq3.b1.frozen 0; simp only [List.getElem?_toArray, List.getElem?_cons_zero] at c40 c41; clear hk3 hq3 hkw3))
    | (go_at_call 21; go_must (refine (New_ok _ _ _ _).mono ?_; rintro e w2 ⟨rfl, hw2⟩; have H2 := Lib.hid (And.intro (hw2.symm ▸ Buf.fresh (w := W3) (HW.out.2.nope HB.out.1) H1.out.2 H1.out.1 (by have := HR.out; omega)) (hw2.symm ▸ (Kept.refl Nope w1).alloc (.cells #[.slice ya D.length yc, .int .i64 0] 165) : Kept Nope w1 w2)); clear hw2))
    | (go_at_call 22; go_must (refine (copied_ok Any_ _ _ D (HW.out.1.keep HB.out.1 (fun _ _ _ h => h)) (by have := HR.out; omega)).mono ?_; rintro e w1 ⟨y1, rfl, hy1, hk1⟩; have hf1 := hy1; obtain ⟨ya, yc, rfl, _⟩ := hf1; have H1 := Lib.hid (And.intro hy1 hk1); clear hy1 hk1)))
  have hq5 : Two ((w3.setCell ⟨P, 0, none⟩ (.int .u8 66)).setCell ⟨P + 1, 0, none⟩ (.bool true)) P (.int .u8 66) (.bool true) :=
    ⟨(by simpa using H3.out.2.b0.set_ 0 (.int .u8 66) : Blk (w3.setCell ⟨P, 0, none⟩ (.int .u8 66)) P 5 #[.int .u8 66]).far (show P ≠ P + 1 by omega) _, by simpa using (H3.out.2.b1.far (p := ⟨P, 0, none⟩) (show P + 1 ≠ P by omega) (.int .u8 66)).set_ 0 (.bool true)⟩
  have hk5 : Kept (TwoAt P) w3 ((w3.setCell ⟨P, 0, none⟩ (.int .u8 66)).setCell ⟨P + 1, 0, none⟩ (.bool true)) :=
    ((Kept.refl _ w3).setCell (p := ⟨P, 0, none⟩) (.inl (show P ≤ P ∧ P < P + 2 by omega)) _).setCell (p := ⟨P + 1, 0, none⟩) (.inl (show P ≤ P + 1 ∧ P + 1 < P + 2 by omega)) _
  have kz : Kept Nope w ((w3.setCell ⟨P, 0, none⟩ (.int .u8 66)).setCell ⟨P + 1, 0, none⟩ (.bool true)) := H3.out.1.trans hk5 (fun k hk e => by have e' : P ≤ k ∧ k < P + 2 := e; have := HB.out.2.2.2; omega)
  go_wp2
  refine leaves_cons (f := 19) (args := #[.pointer (some ⟨P, 0, none⟩), .pointer (some ⟨P + 1, 0, none⟩)]) (by simp) (by simp [go_sem]) ?_
  refine (bkDefer_idle _ _ _).mono ?_
  rintro e u' w'' ⟨rfl, rfl, rfl⟩
  exact ret2c _ rfl _ _ _ P _ _ rfl rfl hq5 ⟨rfl, kz⟩
theorem ta_11_0 (v : Value) (W : World) : (Instr.typeAssert (.iface 90 v) 71 79 true).run Tryz.prog W = .ok (.tuple #[.pointer none, .bool false]) W := by kernel_rfl
theorem ta_11_1 (v : Value) (W : World) : (Instr.typeAssert (.iface 90 v) 71 80 true).run Tryz.prog W = .ok (.tuple #[.pointer none, .bool false]) W := by kernel_rfl
theorem ta_11_2 (v : Value) (W : World) : (Instr.typeAssert (.iface 90 v) 71 81 true).run Tryz.prog W = .ok (.tuple #[.pointer none, .bool false]) W := by kernel_rfl
theorem ta_11_3 (v : Value) (W : World) : (Instr.typeAssert (.iface 90 v) 71 82 true).run Tryz.prog W = .ok (.tuple #[.pointer none, .bool false]) W := by kernel_rfl
theorem ta_11_4 (v : Value) (W : World) : (Instr.typeAssert (.iface 90 v) 71 83 true).run Tryz.prog W = .ok (.tuple #[.pointer none, .bool false]) W := by kernel_rfl
theorem ta_11_5 (v : Value) (W : World) : (Instr.typeAssert (.iface 90 v) 71 84 true).run Tryz.prog W = .ok (.tuple #[.pointer none, .bool false]) W := by kernel_rfl
theorem ta_11_6 (v : Value) (W : World) : (Instr.typeAssert (.iface 90 v) 71 85 true).run Tryz.prog W = .ok (.tuple #[.pointer none, .bool false]) W := by kernel_rfl
theorem ta_11_7 (v : Value) (W : World) : (Instr.typeAssert (.iface 90 v) 71 86 true).run Tryz.prog W = .ok (.tuple #[.pointer none, .bool false]) W := by kernel_rfl
theorem ta_11_8 (v : Value) (W : World) : (Instr.typeAssert (.iface 90 v) 71 87 true).run Tryz.prog W = .ok (.tuple #[.pointer none, .bool false]) W := by kernel_rfl
theorem ta_11_9 (v : Value) (W : World) : (Instr.typeAssert (.iface 90 v) 71 88 true).run Tryz.prog W = .ok (.tuple #[.pointer none, .bool false]) W := by kernel_rfl
theorem ta_11_10 (v : Value) (W : World) : (Instr.typeAssert (.iface 90 v) 71 89 true).run Tryz.prog W = .ok (.tuple #[.pointer none, .bool false]) W := by kernel_rfl
theorem ta_11_y (v : Value) (W : World) : (Instr.typeAssert (.iface 90 v) 71 90 true).run Tryz.prog W = .ok (.tuple #[v, .bool true]) W := by kernel_rfl
set_option maxRecDepth 100000 in
set_option maxHeartbeats 3200000 in
theorem bk_SASLOutcome (w : World) (s : Value) (D : List UInt8) (hs : BSl Any_ w s D) (hlen : D.length ≤ 1000000000) (he : Eof w)
    (hU : ∀ (W : World) (r : Nat) (y : Value), Buf W r y D 0 → Calls Tryz.prog 20 #[.pointer (some ⟨r, 0, none⟩)] W (Gives2 fun x e w' => e = .nilIface ∧ (∃ p, x = .iface 90 (.pointer p)) ∧ Kept (Only r) W w')) :
    Calls Tryz.prog 5 #[s] w (fun e w' => e = .returned (.tuple #[.int .u8 68, .bool true]) ∧ Kept Nope w w') := by
  have HW := Lib.hid (And.intro hs he)
  have HR := Lib.hid hlen
  have HU := Lib.hid hU
  clear hlen he hU
  have f0 := fun v W => ta_11_0 v W
  have f1 := fun v W => ta_11_1 v W
  have f2 := fun v W => ta_11_2 v W
  have f3 := fun v W => ta_11_3 v W
  have f4 := fun v W => ta_11_4 v W
  have f5 := fun v W => ta_11_5 v W
  have f6 := fun v W => ta_11_6 v W
  have f7 := fun v W => ta_11_7 v W
  have f8 := fun v W => ta_11_8 v W
  have f9 := fun v W => ta_11_9 v W
  have f10 := fun v W => ta_11_10 v W
  have fy := fun v W => ta_11_y v W
  obtain ⟨sa, sc, rfl, _⟩ := hs
  go_enter_defers Tryz.func5, Tryz.ntmps5
  go_wp2_with fail
  obtain ⟨P, hP⟩ : ∃ P, w.heap.size = P := ⟨_, rfl⟩
  obtain ⟨W3, hW3⟩ : ∃ W3, (w.alloc (.cells #[.int .u8 0] 5)).alloc (.cells #[.bool false] 4) = W3 := ⟨_, rfl⟩
  have hB := two_new w P hP W3 hW3
  rw [hW3, hP]
  have HB := Lib.hid hB
  clear hB hW3 hP
  go_wp2_with (first
    | (go_at_call 20; go_must (refine (HU.out w2 w1.heap.size _ H2.out.1).mono ?_; rintro e w3 ⟨_, _, rfl, rfl, ⟨p3, rfl⟩, hk3⟩; have hq3 := (HB.out.2.2.1.keep (H1.out.2.trans' H2.out.2)).keepO hk3 (by have h1 := H1.out.2.size; have h2 := HB.out.2.1; omega); have hkw3 : Kept Nope w w3 := (HB.out.1.trans' (H1.out.2.trans' H2.out.2)).trans hk3 (fun k hk e => by have e' : k = w1.heap.size := e; have h2 := (HB.out.1.trans' H1.out.2).size; omega); have H3 := Lib.hid (And.intro hkw3 hq3); have c40 := hq3.b0.cell 0; have c41 := hq3.b1.cell 0; have f40 := hq3.b0.frozen 0; have f41 := hq3.b1.frozen 0; simp only [List.getElem?_toArray, List.getElem?_cons_zero] at c40 c41; clear hk3 hq3 hkw3))
    | (go_at_call 21; go_must (refine (New_ok _ _ _ _).mono ?_; rintro e w2 ⟨rfl, hw2⟩; have H2 := Lib.hid (And.intro (hw2.symm ▸ Buf.fresh (w := W3) (HW.out.2.nope HB.out.1) H1.out.2 H1.out.1 (by have := HR.out; omega)) (hw2.symm ▸ (Kept.refl Nope w1).alloc (.cells #[.slice ya D.length yc, .int .i64 0] 165) : Kept Nope w1 w2)); clear hw2))
    | (go_at_call 22; go_must (refine (copied_ok Any_ _ _ D (HW.out.1.keep HB.out.1 (fun _ _ _ h => h)) (by have := HR.out; omega)).mono ?_; rintro e w1 ⟨y1, rfl, hy1, hk1⟩; have hf1 := hy1; obtain ⟨ya, yc, rfl, _⟩ := hf1; have H1 := Lib.hid (And.intro hy1 hk1); clear hy1 hk1)))
  have hq5 : Two ((w3.setCell ⟨P, 0, none⟩ (.int .u8 68)).setCell ⟨P + 1, 0, none⟩ (.bool true)) P (.int .u8 68) (.bool true) :=
    ⟨(by simpa using H3.out.2.b0.set_ 0 (.int .u8 68) : Blk (w3.setCell ⟨P, 0, none⟩ (.int .u8 68)) P 5 #[.int .u8 68]).far (show P ≠ P + 1 by omega) _, by simpa using (H3.out.2.b1.far (p := ⟨P, 0, none⟩) (show P + 1 ≠ P by omega) (.int .u8 68)).set_ 0 (.bool true)⟩
  have hk5 : Kept (TwoAt P) w3 ((w3.setCell ⟨P, 0, none⟩ (.int .u8 68)).setCell ⟨P + 1, 0, none⟩ (.bool true)) :=
    ((Kept.refl _ w3).setCell (p := ⟨P, 0, none⟩) (.inl (show P ≤ P ∧ P < P + 2 by omega)) _).setCell (p := ⟨P + 1, 0, none⟩) (.inl (show P ≤ P + 1 ∧ P + 1 < P + 2 by omega)) _
  have kz : Kept Nope w ((w3.setCell ⟨P, 0, none⟩ (.int .u8 68)).setCell ⟨P + 1, 0, none⟩ (.bool true)) := H3.out.1.trans hk5 (fun k hk e => by have e' : P ≤ k ∧ k < P + 2 := e; have := HB.out.2.2.2; omega)
  go_wp2
  refine leaves_cons (f := 19) (args := #[.pointer (some ⟨P, 0, none⟩), .pointer (some ⟨P + 1, 0, none⟩)]) (by simp) (by simp [go_sem]) ?_
  refine (bkDefer_idle _ _ _).mono ?_
  rintro e u' w'' ⟨rfl, rfl, rfl⟩
  exact ret2c _ rfl _ _ _ P _ _ rfl rfl hq5 ⟨rfl, kz⟩
end Go.Proofs.YtbckofjoancdjaaGreatDoor
