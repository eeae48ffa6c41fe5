/- Package spec: fields of composite values: the small makers. Package spec: Whole: a composite value as a described list. Package spec: inside: a field as it is written. A row of values: an element is replaced, cell by cell (out of XWk). -/
import Derived.LoopTactic
import Derived.IntWalk
import Derived.Outline
import Derived.RegionTactic
import Derived.Deep.RegionHeld3
import Derived.Test.YtbckofjoancdjaaGreatDoorK22
import Derived.Test.YtbckofjoancdjaaGreatDoorK14
namespace Go.Proofs.YtbckofjoancdjaaGreatDoor
open Go Go.RowKit Go.Lib
abbrev sfd (k n : Int) (t : ByteArray) (k' n' : Int) : Value := .agg #[.int .i64 k, .int .u64 n, .string t, .slice none 0 0, .int .i64 0, .slice none 0 0, .int .i64 k', .int .u64 n', .string ⟨#[]⟩, .slice none 0 0, .int .i64 0, .slice none 0 0]
abbrev nof : Value := sfd 0 0 ⟨#[]⟩ 0 0
def Quiet (x : Value) (w : World) : Ending → World → Prop := fun e w' => e = .returned x ∧ Kept Nope w w'
def zVal6 : Array Value := #[.int .i64 0, .int .u64 0, .string ⟨#[]⟩, .slice none 0 0, .int .i64 0, .slice none 0 0]
theorem ofNumber_ok (k n : Int) (w : World) : Calls Tryz.prog 34 #[.int .i64 k, .int .u64 n] w (fun e w' => e = .returned (.agg #[.int .i64 k, .int .u64 n, .string ⟨#[]⟩, .slice none 0 0, .int .i64 0, .slice none 0 0]) ∧ ∃ o, w' = w.alloc o) := by
  go_enter Tryz.func34, Tryz.ntmps34
  go_wp2
  refine bodyPost_ret (results_cell_row (P := Tryz.prog) rfl _ _ w.heap.size 92 _ (0, 0) _ rfl (Blk.new w _ _) Tryz.underlying92 rfl (by kernel_rfl)) rfl ?_
  exact ⟨rfl, _, rfl⟩
theorem textField_no (k : Int) (w : World) : Calls Tryz.prog 28 #[.int .i64 k, .string ⟨#[]⟩] w (Quiet nof w) := by
  go_enter Tryz.func28, Tryz.ntmps28
  go_wp2
  refine bodyPost_ret (results_cell_row (P := Tryz.prog) rfl _ _ w.heap.size 95 _ (0, 0) _ rfl (Blk.new w _ _) Tryz.underlying95 rfl (by kernel_rfl)) rfl ?_
  exact ⟨rfl, (Kept.refl _ _).alloc _⟩
theorem mapField_no (w : World) : Calls Tryz.prog 32 #[.slice none 0 0] w (Quiet nof w) := by
  go_enter Tryz.func32, Tryz.ntmps32
  go_wp2
  refine bodyPost_ret (results_cell_row (P := Tryz.prog) rfl _ _ w.heap.size 95 _ (0, 0) _ rfl (Blk.new w _ _) Tryz.underlying95 rfl (by kernel_rfl)) rfl ?_
  exact ⟨rfl, (Kept.refl _ _).alloc _⟩
theorem symbols_no (w : World) : Calls Tryz.prog 31 #[.slice none 0 0] w (Quiet nof w) := by
  go_enter Tryz.func31, Tryz.ntmps31
  go_wp2
  refine bodyPost_ret (results_cell_row (P := Tryz.prog) rfl _ _ w.heap.size 95 _ (0, 0) _ rfl (Blk.new w _ _) Tryz.underlying95 rfl (by kernel_rfl)) rfl ?_
  exact ⟨rfl, (Kept.refl _ _).alloc _⟩
theorem maybe16_no (k : Int) (w : World) : Calls Tryz.prog 33 #[.int .i64 k, .slice none 0 0] w (Quiet nof w) := by
  go_enter Tryz.func33, Tryz.ntmps33
  go_wp2
  refine bodyPost_ret (results_cell_row (P := Tryz.prog) rfl _ _ w.heap.size 95 _ (0, 0) _ rfl (Blk.new w _ _) Tryz.underlying95 rfl (by kernel_rfl)) rfl ?_
  exact ⟨rfl, (Kept.refl _ _).alloc _⟩
theorem maybe32_no (k : Int) (w : World) : Calls Tryz.prog 41 #[.int .i64 k, .slice none 0 0] w (Quiet nof w) := by
  go_enter Tryz.func41, Tryz.ntmps41
  go_wp2
  refine bodyPost_ret (results_cell_row (P := Tryz.prog) rfl _ _ w.heap.size 95 _ (0, 0) _ rfl (Blk.new w _ _) Tryz.underlying95 rfl (by kernel_rfl)) rfl ?_
  exact ⟨rfl, (Kept.refl _ _).alloc _⟩
theorem maybe8_no (k : Int) (w : World) : Calls Tryz.prog 38 #[.int .i64 k, .slice none 0 0] w (Quiet nof w) := by
  go_enter Tryz.func38, Tryz.ntmps38
  go_wp2
  refine bodyPost_ret (results_cell_row (P := Tryz.prog) rfl _ _ w.heap.size 95 _ (0, 0) _ rfl (Blk.new w _ _) Tryz.underlying95 rfl (by kernel_rfl)) rfl ?_
  exact ⟨rfl, (Kept.refl _ _).alloc _⟩
theorem faults_no (w : World) : Calls Tryz.prog 43 #[.slice none 0 0] w (Quiet nof w) := by
  go_enter Tryz.func43, Tryz.ntmps43
  go_wp2
  refine bodyPost_ret (results_cell_row (P := Tryz.prog) rfl _ _ w.heap.size 95 _ (0, 0) _ rfl (Blk.new w _ _) Tryz.underlying95 rfl (by kernel_rfl)) rfl ?_
  exact ⟨rfl, (Kept.refl _ _).alloc _⟩
theorem states_no (w : World) : Calls Tryz.prog 42 #[.slice none 0 0] w (Quiet nof w) := by
  go_enter Tryz.func42, Tryz.ntmps42
  go_wp2
  refine bodyPost_ret (results_cell_row (P := Tryz.prog) rfl _ _ w.heap.size 95 _ (0, 0) _ rfl (Blk.new w _ _) Tryz.underlying95 rfl (by kernel_rfl)) rfl ?_
  exact ⟨rfl, (Kept.refl _ _).alloc _⟩
theorem plainField_ex (k n : Int) (w : World) : Calls Tryz.prog 30 #[.int .i64 k, .int .u64 n] w (fun e w' => e = .returned (sfd k n ⟨#[]⟩ k 0) ∧ ∃ o1 o2 o3, w' = ((w.alloc o1).alloc o2).alloc o3) := by
  go_enter Tryz.func30, Tryz.ntmps30
  go_wp2_with (go_at_call 34; go_must (refine (ofNumber_ok _ _ _).mono ?_; rintro e w1 ⟨rfl, o, rfl⟩))
  refine bodyPost_ret (results_cell_row (P := Tryz.prog) rfl _ _ w.heap.size 95 _ (0, 0) _ rfl (((Blk.new w _ _).alloc _).alloc _) Tryz.underlying95 rfl (by kernel_rfl)) rfl ?_
  exact ⟨rfl, _, _, _, rfl⟩
theorem plainField_ok (k n : Int) (w : World) : Calls Tryz.prog 30 #[.int .i64 k, .int .u64 n] w (Quiet (sfd k n ⟨#[]⟩ k 0) w) := by
  refine (plainField_ex k n w).mono ?_
  rintro e w' ⟨rfl, o1, o2, o3, rfl⟩
  exact ⟨rfl, (((Kept.refl _ _).alloc _).alloc _).alloc _⟩
theorem defaultField_ok (k n m : Int) (w : World) : Calls Tryz.prog 29 #[.int .i64 k, .int .u64 n, .int .u64 m] w (Quiet (sfd k n ⟨#[]⟩ k m) w) := by
  go_enter Tryz.func29, Tryz.ntmps29
  go_wp2_with (go_at_call 34; go_must (refine (ofNumber_ok _ _ _).mono ?_; rintro e w1 ⟨rfl, o, rfl⟩))
  refine bodyPost_ret (results_cell_row (P := Tryz.prog) rfl _ _ w.heap.size 95 _ (0, 0) _ rfl (((Blk.new w _ _).alloc _).alloc _) Tryz.underlying95 rfl (by kernel_rfl)) rfl ?_
  exact ⟨rfl, (((Kept.refl _ _).alloc _).alloc _).alloc _⟩
theorem truth_no (w : World) : Calls Tryz.prog 39 #[.bool false] w fun e w' => e = .returned (.int .u64 0) ∧ w' = w := by
  go_enter Tryz.func39, Tryz.ntmps39
  go_wp2
  go_ret
  exact ⟨rfl, rfl⟩
theorem flag_no (w : World) : Calls Tryz.prog 40 #[.bool false] w (Quiet (sfd 1 0 ⟨#[]⟩ 1 0) w) := by
  go_enter Tryz.func40, Tryz.ntmps40
  go_wp2_with (first | (go_at_call 39; go_must (refine (truth_no _).mono ?_; rintro e w1 ⟨rfl, rfl⟩)) | (go_at_call 30; go_must (refine (plainField_ex _ _ _).mono ?_; rintro e w2 ⟨rfl, o1, o2, o3, rfl⟩)))
  refine bodyPost_ret (results_cell_row (P := Tryz.prog) rfl _ _ w.heap.size 95 _ (0, 0) _ rfl ((((Blk.new w _ _).alloc _).alloc _).alloc _) Tryz.underlying95 rfl (by kernel_rfl)) rfl ?_
  exact ⟨rfl, ((((Kept.refl _ _).alloc _).alloc _).alloc _).alloc _⟩
end Go.Proofs.YtbckofjoancdjaaGreatDoor
namespace Go.Proofs.YtbckofjoancdjaaGreatDoor
open Go Go.RowKit Go.Lib
theorem CSl.one_six' {W : World} (a : Lay) {g : Nat} (hg : W.heap.size = g) : CSl Any_ (W.alloc (.cells a.cells.toArray 92)) 6 (.slice (some ⟨g, 0, none⟩) 1 1) 1 a.cells := by
  subst hg
  refine ⟨rfl, _, 1, rfl, Nat.le_refl _, by decide, .inr ⟨W.heap.size, 0, rfl, trivial, fun j u hu => ?_⟩⟩
  rw [(Blk.new W 92 a.cells.toArray).cell, Nat.zero_add]
  simpa using hu
theorem ownsRow_form4 {w : World} {base : Nat} {e : TypeId} {size n : Nat} {x : Value} {xs : List Value} (h : w.ownsRow base e size x n xs) : ∃ a c, x = .slice a n c := by
  rcases h.2 with ⟨rfl, e⟩ | ⟨g, cap, cur, rfl, _⟩
  · exact ⟨none, 0, by rw [e]⟩
  · exact ⟨_, _, rfl⟩
def FRow (w : World) (b : Nat) (fs : List (Lay × Lay)) : Prop := b < w.heap.size ∧ ∀ k p, fs[k]? = some p →
  (∀ t u, p.1.cells[t]? = some u → w.cell? ⟨b, k * 12 + t, none⟩ = some u) ∧ (∀ t u, p.2.cells[t]? = some u → w.cell? ⟨b, k * 12 + 6 + t, none⟩ = some u) ∧ p.1.Ok (fun b => b < w.heap.size) w ∧ p.2.Ok (fun b => b < w.heap.size) w
theorem FRow.cells {w w' : World} {b : Nat} {fs : List (Lay × Lay)} (h : FRow w b fs) (hk : Kept Nope w w') {k : Nat} {v d : V} {ks ds kd dd : Value} (hp : fs[k]? = some (Lay.mk v ks ds, Lay.mk d kd dd)) :
    w'.cell? ⟨b, k * 12, none⟩ = some (.int .i64 v.kind) ∧ w'.cell? ⟨b, k * 12 + 1, none⟩ = some (.int .u64 v.num) ∧ w'.cell? ⟨b, k * 12 + 2, none⟩ = some (.string v.text) ∧ w'.cell? ⟨b, k * 12 + 3, none⟩ = some ks ∧ w'.cell? ⟨b, k * 12 + 4, none⟩ = some (.int .i64 v.of_) ∧ w'.cell? ⟨b, k * 12 + 5, none⟩ = some ds ∧
    w'.cell? ⟨b, k * 12 + 6, none⟩ = some (.int .i64 d.kind) ∧ w'.cell? ⟨b, k * 12 + 7, none⟩ = some (.int .u64 d.num) ∧ w'.cell? ⟨b, k * 12 + 8, none⟩ = some (.string d.text) ∧ w'.cell? ⟨b, k * 12 + 9, none⟩ = some kd ∧ w'.cell? ⟨b, k * 12 + 10, none⟩ = some (.int .i64 d.of_) ∧ w'.cell? ⟨b, k * 12 + 11, none⟩ = some dd := by
  obtain ⟨h1, h2, _, _⟩ := h.2 k _ hp
  have g := fun {p : Addr} {u : Value} (hc : w.cell? p = some u) => hk.cell hc (fun h => h)
  exact ⟨g (h1 0 _ rfl), g (h1 1 _ rfl), g (h1 2 _ rfl), g (h1 3 _ rfl), g (h1 4 _ rfl), g (h1 5 _ rfl), g (h2 0 _ rfl), g (h2 1 _ rfl), g (h2 2 _ rfl), g (h2 3 _ rfl), g (h2 4 _ rfl), g (h2 5 _ rfl)⟩
def wholeV (c : Int) (l : List V) : V := .mk 21 0 ⟨#[]⟩ l 0 [.mk 5 c ⟨#[]⟩ [] 0 []]
set_option maxRecDepth 100000 in
set_option maxHeartbeats 3200000 in
theorem Whole_ok (w : World) (c : Int) (b cc : Nat) (fs : List (Lay × Lay)) (hf : FRow w b fs) (hn : fs.length ≤ 100) (hcc : fs.length ≤ cc ∧ cc ≤ 100) :
    Calls Tryz.prog 23 #[.agg #[.int .u64 c, .slice (some ⟨b, 0, none⟩) fs.length cc]] w (fun e w' => ∃ po g, e = .returned (.agg #[.int .i64 21, .int .u64 0, .string ⟨#[]⟩, po, .int .i64 0, .slice (some ⟨g, 0, none⟩) 1 1]) ∧ Kept Nope w w' ∧ Row6 w (fun b => b = g) w' po (fs.map Prod.fst) ∧ w.heap.size ≤ g ∧ Blk w' g 92 #[.int .i64 5, .int .u64 c, .string ⟨#[]⟩, .slice none 0 0, .int .i64 0, .slice none 0 0] ∧ po.ownBlock ≠ some g) := by
  obtain ⟨i1, hi, hz0, hz1, hz2⟩ := info_parts info_Val
  have HF := Lib.hid hf
  obtain ⟨m, hm⟩ : ∃ m, fs.length = m := ⟨_, rfl⟩
  have HM := Lib.hid hm
  rw [hm] at hn hcc ⊢
  clear hf hm
  go_enter Tryz.func23, Tryz.ntmps23
  go_wp2_with (go_at_call 34; go_must (refine (ofNumber_ok _ _ _).mono ?_; rintro e w1 ⟨rfl, o, rfl⟩))
  obtain ⟨P, hP⟩ : ∃ P, w.heap.size = P := ⟨_, rfl⟩
  obtain ⟨W0, hW0⟩ : ∃ W0, (((((w.alloc (.cells #[.int .u64 c, .slice (some ⟨b, 0, none⟩) m cc] 30)).alloc (.cells #[.int .i64 0, .int .u64 0, .string ⟨#[]⟩, .slice none 0 0, .int .i64 0, .slice none 0 0] 92)).alloc o).alloc (.cells #[.int .i64 5, .int .u64 c, .string ⟨#[]⟩, .slice none 0 0, .int .i64 0, .slice none 0 0] 92)).alloc (.cells #[.int .i64 21, .int .u64 0, .string ⟨#[]⟩, .slice none 0 0, .int .i64 0, .slice (some ⟨w.heap.size + 1 + 1 + 1, 0, none⟩) 1 1] 92)) = W0 := ⟨_, rfl⟩
  rw [hW0, hP]
  have hk0 : Kept Nope w W0 := hW0 ▸ (((((Kept.refl Nope w).alloc _).alloc _).alloc _).alloc _).alloc _
  have hb1 : Blk W0 (P + 1) 92 zVal6 := by rw [← hW0, ← hP]; have h := Blk.new (w.alloc (.cells #[.int .u64 c, .slice (some ⟨b, 0, none⟩) m cc] 30)) 92 zVal6; rw [World.size_alloc] at h; exact ((h.alloc _).alloc _).alloc _
  have hb3 : Blk W0 (P + 1 + 1 + 1) 92 #[.int .i64 5, .int .u64 c, .string ⟨#[]⟩, .slice none 0 0, .int .i64 0, .slice none 0 0] := by rw [← hW0, ← hP]; have h := Blk.new (((w.alloc (.cells #[.int .u64 c, .slice (some ⟨b, 0, none⟩) m cc] 30)).alloc (.cells #[.int .i64 0, .int .u64 0, .string ⟨#[]⟩, .slice none 0 0, .int .i64 0, .slice none 0 0] 92)).alloc o) 92 #[.int .i64 5, .int .u64 c, .string ⟨#[]⟩, .slice none 0 0, .int .i64 0, .slice none 0 0]; simp only [World.size_alloc] at h; exact h.alloc _
  have hb4 : Blk W0 (P + 1 + 1 + 1 + 1) 92 #[.int .i64 21, .int .u64 0, .string ⟨#[]⟩, .slice none 0 0, .int .i64 0, .slice (some ⟨P + 1 + 1 + 1, 0, none⟩) 1 1] := by rw [← hW0, ← hP]; have h := Blk.new ((((w.alloc (.cells #[.int .u64 c, .slice (some ⟨b, 0, none⟩) m cc] 30)).alloc (.cells #[.int .i64 0, .int .u64 0, .string ⟨#[]⟩, .slice none 0 0, .int .i64 0, .slice none 0 0] 92)).alloc o).alloc (.cells #[.int .i64 5, .int .u64 c, .string ⟨#[]⟩, .slice none 0 0, .int .i64 0, .slice none 0 0] 92)) 92 #[.int .i64 21, .int .u64 0, .string ⟨#[]⟩, .slice none 0 0, .int .i64 0, .slice (some ⟨w.heap.size + 1 + 1 + 1, 0, none⟩) 1 1]; simp only [World.size_alloc] at h; exact h
  have H0 := Lib.hid (And.intro hk0 (And.intro hb1 (And.intro hb3 (And.intro hb4 hP))))
  clear hk0 hb1 hb3 hb4 hW0 hP
  go_loopw [14] (fun q w' => ∃ (k : Nat) (po : Value), k ≤ m ∧ q = .int .i64 k ∧ Hid (Kept Nope w w' ∧ Blk w' (P + 1) 92 zVal6 ∧ Blk w' (P + 1 + 1 + 1) 92 #[.int .i64 5, .int .u64 c, .string ⟨#[]⟩, .slice none 0 0, .int .i64 0, .slice none 0 0] ∧ Blk w' (P + 1 + 1 + 1 + 1) 92 #[.int .i64 21, .int .u64 0, .string ⟨#[]⟩, po, .int .i64 0, .slice (some ⟨P + 1 + 1 + 1, 0, none⟩) 1 1] ∧ Row6 w (fun b => P ≤ b ∧ b < P + 5) w' po ((fs.take k).map Prod.fst) ∧ (∀ b, po.ownBlock = some b → P + 5 ≤ b))) (fun q _ => m - (RowKit.intOf q).toNat)
  case atStart => exact ⟨0, .slice none 0 0, by omega, rfl, Lib.hid ⟨H0.out.1, H0.out.2.1, H0.out.2.2.1, H0.out.2.2.2.1, Row6.nil _ _ _, fun b hb => by cases hb⟩⟩
  case round =>
    obtain ⟨k, po, hk, rfl, HR⟩ := hrel
    obtain ⟨pa, pc, hpo⟩ := HR.out.2.2.2.2.1.form
    have hlen : ((fs.take k).map Prod.fst).length = k := (by rw [List.length_map, List.length_take, HM.out]; omega)
    rw [hlen] at hpo
    subst hpo
    have HLN := Lib.hid hlen
    clear hlen
    by_cases hkm : k < m
    · have hkm' : (k : Int) < (m : Int) := by omega
      have hk0 : (0 : Int) ≤ (k : Int) := by omega
      have e1 : IntKind.i64.wrap ((k : Int) + 1) = (k : Int) + 1 := IntWalk.i64_in _ (by omega)
      obtain ⟨⟨⟨v, ks, ds⟩, ⟨d, kd, dd⟩⟩, hv⟩ : ∃ p, fs[k]? = some p := ⟨fs[k]'(by rw [HM.out]; exact hkm), List.getElem?_eq_getElem _⟩
      obtain ⟨z0, z1, z2, z3, z4, z5, z6, z7, z8, z9, za, zb⟩ := HF.out.cells HR.out.1 hv
      have ha := (HF.out.2 k _ hv).2.2.1
      obtain ⟨ksa, ksc, rfl⟩ : ∃ a c, ks = .slice a v.kids.length c := (by obtain ⟨a, c, e, _⟩ := ha.2.1.form; exact ⟨a, c, e⟩)
      obtain ⟨dsa, dsc, rfl⟩ : ∃ a c, ds = .slice a v.desc.length c := (by obtain ⟨a, c, e, _⟩ := ha.2.2.form; exact ⟨a, c, e⟩)
      have hdd := (HF.out.2 k _ hv).2.2.2
      obtain ⟨kda, kdc, rfl⟩ : ∃ a c, kd = .slice a d.kids.length c := (by obtain ⟨a, c, e, _⟩ := hdd.2.1.form; exact ⟨a, c, e⟩)
      obtain ⟨dda, ddc, rfl⟩ : ∃ a c, dd = .slice a d.desc.length c := (by obtain ⟨a, c, e, _⟩ := hdd.2.2.form; exact ⟨a, c, e⟩)
      have HV := Lib.hid (And.intro hv ha)
      have c3 := fun (o : Obj) => (HR.out.2.2.2.1.alloc o).cell 3
      simp only [List.getElem?_toArray, List.getElem?_cons_zero, List.getElem?_cons_succ] at c3
      have HA := Lib.hid (show (Lay.mk v (.slice ksa v.kids.length ksc) (.slice dsa v.desc.length dsc)).Ok (fun b => b < w.heap.size) w from ha)
      have HROW := Lib.hid (HR.out.2.2.2.2.1.nope (((Kept.refl Nope wr).alloc (.cells #[.int .i64 v.kind, .int .u64 v.num, .string v.text, .slice ksa v.kids.length ksc, .int .i64 v.of_, .slice dsa v.desc.length dsc, .int .i64 d.kind, .int .u64 d.num, .string d.text, .slice kda d.kids.length kdc, .int .i64 d.of_, .slice dda d.desc.length ddc] 95)).alloc (.cells (Lay.mk v (.slice ksa v.kids.length ksc) (.slice dsa v.desc.length dsc)).cells.toArray 92)))
      clear hv ha hdd
      go_wp2_with (at_builtin; go_must (refine wpList_append_c _ rfl (.tmp 19) (.tmp 22) 40 rfl w.heap.size 92 i1 _ 6 88 Tryz.underlying40 hi hz0 hz1 hz2 rfl (by decide) _ _ _ rfl (HLN.out ▸ HROW.out.own) Any_ _ 1 (Lay.mk v (.slice ksa v.kids.length ksc) (.slice dsa v.desc.length dsc)).cells rfl (CSl.one_six' (W := wr.alloc _) _ (by simp)) HA.out.one (by unfold maxLen; omega) (by omega) (by have h1 := HR.out.1.size; simp; omega) ?_; intro v4 w4 hown hgrow hblk; obtain ⟨p4, c4, rfl⟩ := ownsRow_form4 hown; have hg : Kept (fun b => (Value.slice pa k pc).ownBlock = some b) _ w4 := ⟨hgrow.os, hgrow.tape, hgrow.output, hgrow.size, fun k hk hn => hgrow.block k hk (fun e => hn e.symm)⟩; have hb4 := ((HR.out.2.2.2.1.alloc (.cells #[.int .i64 v.kind, .int .u64 v.num, .string v.text, .slice ksa v.kids.length ksc, .int .i64 v.of_, .slice dsa v.desc.length dsc, .int .i64 d.kind, .int .u64 d.num, .string d.text, .slice kda d.kids.length kdc, .int .i64 d.of_, .slice dda d.desc.length ddc] 95)).alloc (.cells (Lay.mk v (.slice ksa v.kids.length ksc) (.slice dsa v.desc.length dsc)).cells.toArray 92)).kept hg (fun e => by have := HR.out.2.2.2.2.2 _ e; omega); have HN := Lib.hid (And.intro hown (And.intro hgrow (And.intro hblk (And.intro hg hb4)))); have c43 := hb4.cell 3; have f43 := hb4.frozen 3; simp only [List.getElem?_toArray, List.getElem?_cons_zero, List.getElem?_cons_succ] at c43; clear hown hgrow hblk hg hb4))
      go_roundw
      case rel =>
        have hka := ((Kept.refl Nope wr).alloc (.cells #[.int .i64 v.kind, .int .u64 v.num, .string v.text, .slice ksa v.kids.length ksc, .int .i64 v.of_, .slice dsa v.desc.length dsc, .int .i64 d.kind, .int .u64 d.num, .string d.text, .slice kda d.kids.length kdc, .int .i64 d.of_, .slice dda d.desc.length ddc] 95)).alloc (.cells (Lay.mk v (.slice ksa v.kids.length ksc) (.slice dsa v.desc.length dsc)).cells.toArray 92)
        have hP := H0.out.2.2.2.2
        have hs : Kept (Only (P + 1 + 1 + 1 + 1)) w4 (w4.setCell ⟨P + 1 + 1 + 1 + 1, 3, none⟩ (.slice p4 (k + 1) c4)) := (Kept.refl _ _).set1 3 _
        have hg := HN.out.2.2.2.1
        have ho : ∀ b, (Value.slice pa k pc).ownBlock = some b → P + 5 ≤ b := HR.out.2.2.2.2.2
        have hlt4 := HR.out.2.2.2.1.lt
        have ho4 : ∀ b, (Value.slice p4 (k + 1) c4).ownBlock = some b → P + 5 ≤ b := fun b hb => by
          rcases HN.out.2.2.1 with e | e
          · rw [e] at hb; exact ho b hb
          · rw [e] at hb; have := Option.some.inj hb; simp at this; omega
        have hok : (Lay.mk v (.slice ksa v.kids.length ksc) (.slice dsa v.desc.length dsc)).Ok (fun b => (Value.slice pa k pc).ownBlock ≠ some b ∧ ¬ (P ≤ b ∧ b < P + 5)) _ := (HA.out.keep (HR.out.1.trans' hka) (fun _ _ _ h => h)).mono fun b _ hb => ⟨fun e => by have := ho b e; omega, fun e => by omega⟩
        have hp := HROW.out.push hok (by rw [HLN.out]; exact HN.out.1) HN.out.2.1 HN.out.2.2.1
        have e2 : (fs.take k).map Prod.fst ++ [Lay.mk v (.slice ksa v.kids.length ksc) (.slice dsa v.desc.length dsc)] = (fs.take (k + 1)).map Prod.fst := by rw [List.take_add_one, HV.out.1, List.map_append]; rfl
        rw [e2] at hp
        refine ⟨k + 1, .slice p4 (k + 1) c4, by omega, by go_num, Lib.hid ⟨?_, ?_, ?_, ?_, ?_, ho4⟩⟩
        · exact ((HR.out.1.trans' hka).trans hg (fun b hb e => by have := ho b e; omega)).trans hs (fun b hb e => by have e' : b = P + 1 + 1 + 1 + 1 := e; omega)
        · exact ((HR.out.2.1.kept hka (fun h => h)).kept hg (fun e => by have := ho _ e; omega)).kept hs (fun e => by have e' : P + 1 = P + 1 + 1 + 1 + 1 := e; omega)
        · exact ((HR.out.2.2.1.kept hka (fun h => h)).kept hg (fun e => by have := ho _ e; omega)).kept hs (fun e => by have e' : P + 1 + 1 + 1 = P + 1 + 1 + 1 + 1 := e; omega)
        · simpa using HN.out.2.2.2.2.set_ 3 (.slice p4 (k + 1) c4)
        · exact hp.keep hs (fun b e => by have e' : b = P + 1 + 1 + 1 + 1 := e; omega) (fun b hb e => by have e' : b = P + 1 + 1 + 1 + 1 := e; have := ho4 b hb; omega)
      case measure => simp [RowKit.intOf]; omega
    · obtain rfl : k = m := by omega
      have hb := HR.out.2.2.2.1
      have c40 := hb.cell 0
      have c41 := hb.cell 1
      have c42 := hb.cell 2
      have c43 := hb.cell 3
      have c44 := hb.cell 4
      have c45 := hb.cell 5
      simp only [List.getElem?_toArray, List.getElem?_cons_zero, List.getElem?_cons_succ] at c40 c41 c42 c43 c44 c45
      clear hb
      have hu2 : (Tryz.prog.info? 92).map (fun i => i.size) = some 6 := by kernel_rfl
      have HU := Lib.hid hu2
      clear hu2
      go_wp2_with (refine wpList_store_kept rfl 92 (.tmp 2) (.tmp 26) rfl (P + 1) #[.int .i64 21, .int .u64 0, .string ⟨#[]⟩, .slice pa k pc, .int .i64 0, .slice (some ⟨P + 1 + 1 + 1, 0, none⟩) 1 1] rfl rfl 92 zVal6 HR.out.2.1 (by rw [HU.out]; rfl) rfl (by simp [Value.oneCell']) ?_; intro W3 hW3 hK3; have H3 := Lib.hid (And.intro hW3 hK3); clear hW3 hK3)
      have ho : ∀ b, (Value.slice pa k pc).ownBlock = some b → P + 5 ≤ b := HR.out.2.2.2.2.2
      have hP := H0.out.2.2.2.2
      have e2 : fs.take k = fs := List.take_of_length_le (by rw [HM.out]; omega)
      have hrow := HR.out.2.2.2.2.1
      rw [e2] at hrow
      have hrow3 := hrow.keep H3.out.2 (fun b e => by have e' : b = P + 1 := e; omega) (fun b hb e => by have e' : b = P + 1 := e; have := ho b hb; omega)
      refine bodyPost_ret (results_cell_row (P := Tryz.prog) rfl _ _ (P + 1) 92 _ (0, 0) _ rfl H3.out.1 Tryz.underlying92 rfl (by kernel_rfl)) rfl ⟨_, P + 1 + 1 + 1, rfl, ?_, ⟨hrow3.own, fun a ha => (hrow3.ok a ha).mono fun b _ hb => ⟨hb.1, fun e => hb.2 ⟨by omega, by omega⟩⟩⟩, by omega, ?_, fun e => by have := ho _ e; omega⟩
      · exact HR.out.1.trans H3.out.2 (fun b hb e => by have e' : b = P + 1 := e; omega)
      · exact HR.out.2.2.1.kept H3.out.2 (fun e => by have e' : P + 1 + 1 + 1 = P + 1 := e; omega)
end Go.Proofs.YtbckofjoancdjaaGreatDoor
namespace Go.Proofs.YtbckofjoancdjaaGreatDoor
open Go Go.RowKit Go.Lib
set_option maxRecDepth 100000 in
set_option maxHeartbeats 1600000 in
theorem pick_same (f : Nat) (n : Nat) (w : World) (h : ShortAt w f) : Calls Tryz.prog 25 #[.pointer (some ⟨f, 0, none⟩), .int .i64 n] w (fun e w' => e = .returned (.int .i64 0) ∧ w = w') := by
  obtain ⟨st, hb, s0, s1⟩ := h
  have c0 := hb.cell 0
  have c1 := hb.cell 1
  have f0 := hb.frozen 0
  simp only [List.getElem?_toArray, List.getElem?_cons_zero, List.getElem?_cons_succ] at c0 c1
  clear hb
  go_enter Tryz.func25, Tryz.ntmps25
  go_wp2
  go_ret
  exact ⟨rfl, rfl⟩
set_option maxRecDepth 100000 in
set_option maxHeartbeats 3200000 in
theorem inside_no (w : World) (f : Nat) (v : V) (p1 p2 : Option Addr) (c1 c2 : Nat) (hk : v.kind ≠ 23) :
    Calls Tryz.prog 26 #[.pointer (some ⟨f, 0, none⟩), .agg #[.int .i64 v.kind, .int .u64 v.num, .string v.text, .slice p1 v.kids.length c1, .int .i64 v.of_, .slice p2 v.desc.length c2]] w (fun e w' => e = .returned (.agg #[.int .i64 v.kind, .int .u64 v.num, .string v.text, .slice p1 v.kids.length c1, .int .i64 v.of_, .slice p2 v.desc.length c2]) ∧ Kept Nope w w') := by
  have hk' : (v.kind == 23) = false := by simpa using hk
  go_enter Tryz.func26, Tryz.ntmps26
  go_wp2
  refine bodyPost_ret (results_cell_row (P := Tryz.prog) rfl _ _ (w.heap.size + 1) 92 #[.int .i64 v.kind, .int .u64 v.num, .string v.text, .slice p1 v.kids.length c1, .int .i64 v.of_, .slice p2 v.desc.length c2] (0, 0) _ rfl ?_ Tryz.underlying92 rfl (by kernel_rfl)) rfl ⟨rfl, ((Kept.refl _ _).alloc _).alloc _⟩
  have h := Blk.new (w.alloc (.cells #[.int .i64 v.kind, .int .u64 v.num, .string v.text, .slice p1 v.kids.length c1, .int .i64 v.of_, .slice p2 v.desc.length c2] 92)) 92 #[.int .i64 v.kind, .int .u64 v.num, .string v.text, .slice p1 v.kids.length c1, .int .i64 v.of_, .slice p2 v.desc.length c2]
  rw [World.size_alloc] at h
  exact h
theorem inside_no0 (w : World) (f : Nat) (v : V) (p1 p2 : Option Addr) (c1 c2 : Nat) (hk : v.kind = 0) :
    Calls Tryz.prog 26 #[.pointer (some ⟨f, 0, none⟩), .agg #[.int .i64 0, .int .u64 v.num, .string v.text, .slice p1 v.kids.length c1, .int .i64 v.of_, .slice p2 v.desc.length c2]] w (fun e w' => e = .returned (.agg #[.int .i64 0, .int .u64 v.num, .string v.text, .slice p1 v.kids.length c1, .int .i64 v.of_, .slice p2 v.desc.length c2]) ∧ Kept Nope w w') := by
  have h := inside_no w f v p1 p2 c1 c2 (by rw [hk]; decide)
  rw [hk] at h
  exact h
set_option maxRecDepth 100000 in
set_option maxHeartbeats 3200000 in
theorem inside_sym (w : World) (f b off c : Nat) (n : Int) (t t' : ByteArray) (o : Int) (h : ShortAt w f)
    (z0 : w.cell? ⟨b, off, none⟩ = some (.int .i64 20)) (z1 : w.cell? ⟨b, off + 1, none⟩ = some (.int .u64 n)) (z2 : w.cell? ⟨b, off + 2, none⟩ = some (.string t)) (z3 : w.cell? ⟨b, off + 3, none⟩ = some (.slice none 0 0)) (z4 : w.cell? ⟨b, off + 4, none⟩ = some (.int .i64 o)) (z5 : w.cell? ⟨b, off + 5, none⟩ = some (.slice none 0 0)) :
    Calls Tryz.prog 26 #[.pointer (some ⟨f, 0, none⟩), .agg #[.int .i64 23, .int .u64 0, .string t', .slice (some ⟨b, off, none⟩) 1 c, .int .i64 0, .slice none 0 0]] w (fun e w' => e = .returned (.agg #[.int .i64 20, .int .u64 n, .string t, .slice none 0 0, .int .i64 o, .slice none 0 0]) ∧ Kept Nope w w') := by
  have HS := Lib.hid h
  have k := fun (o1 o2 : Obj) {p : Addr} {u : Value} (hc : w.cell? p = some u) => (((Kept.refl Nope w).alloc o1).alloc o2).cell hc (fun h => h)
  have y0 := fun o1 o2 => k o1 o2 z0
  have y1 := fun o1 o2 => k o1 o2 z1
  have y2 := fun o1 o2 => k o1 o2 z2
  have y3 := fun o1 o2 => k o1 o2 z3
  have y4 := fun o1 o2 => k o1 o2 z4
  have y5 := fun o1 o2 => k o1 o2 z5
  clear h k z0 z1 z2 z3 z4 z5
  go_enter Tryz.func26, Tryz.ntmps26
  go_wp2_with (go_at_call 25; go_must (refine (pick_same f 2 _ (HS.out.kept (((Kept.refl _ _).alloc _).alloc _))).mono ?_; rintro e w1 ⟨rfl, rfl⟩))
  refine bodyPost_ret (results_cell_row (P := Tryz.prog) rfl _ _ (w.heap.size + 1) 92 #[.int .i64 20, .int .u64 n, .string t, .slice none 0 0, .int .i64 o, .slice none 0 0] (0, 0) _ rfl ?_ Tryz.underlying92 rfl (by kernel_rfl)) rfl ⟨rfl, ((Kept.refl _ _).alloc _).alloc _⟩
  have h := Blk.new (w.alloc (.cells #[.int .i64 23, .int .u64 0, .string t', .slice (some ⟨b, off, none⟩) 1 c, .int .i64 0, .slice none 0 0] 92)) 92 #[.int .i64 20, .int .u64 n, .string t, .slice none 0 0, .int .i64 o, .slice none 0 0]
  rw [World.size_alloc] at h
  exact h
end Go.Proofs.YtbckofjoancdjaaGreatDoor
namespace Go.Proofs.YtbckofjoancdjaaGreatDoor
open Go Go.RowKit Go.Lib
theorem flatMap_six_len (l : List Lay) : (l.flatMap Lay.cells).length = l.length * 6 := by
  induction l with
  | nil => rfl
  | cons a l ih => rw [List.flatMap_cons, List.length_append, ih]; simp [Lay.cells]; omega
theorem own_set6 {w : World} {base : Nat} {e : TypeId} {g cap n : Nat} {la : List Lay} {i : Nat} {a : Lay} {c0 c1 c2 c3 c4 c5 : Value} (hn : n = la.length) (h : w.ownsRow base e 6 (.slice (some ⟨g, 0, none⟩) n cap) la.length (la.flatMap Lay.cells)) (hi : i < la.length) (ha : a.cells = [c0, c1, c2, c3, c4, c5]) :
    ((((((w.setCell ⟨g, i * 6, none⟩ c0).setCell ⟨g, i * 6 + 1, none⟩ c1).setCell ⟨g, i * 6 + 2, none⟩ c2).setCell ⟨g, i * 6 + 3, none⟩ c3).setCell ⟨g, i * 6 + 4, none⟩ c4).setCell ⟨g, i * 6 + 5, none⟩ c5).ownsRow base e 6 (.slice (some ⟨g, 0, none⟩) n cap) (la.set i a).length ((la.set i a).flatMap Lay.cells) := by
  subst hn
  obtain ⟨_, h⟩ := h
  rcases h with ⟨h0, _⟩ | ⟨g', cap', cur, h0, hb, hg, hnc, hm, hsz, hcur⟩
  · cases h0
  · injection h0 with h1 _ h2
    injection h1 with h1
    injection h1 with h1
    subst h1 h2
    have hB : Blk w g e cur := hg
    have hB' := (((((hB.set_ (i * 6) c0).set_ (i * 6 + 1) c1).set_ (i * 6 + 2) c2).set_ (i * 6 + 3) c3).set_ (i * 6 + 4) c4).set_ (i * 6 + 5) c5
    refine ⟨by rw [flatMap_six_len], .inr ⟨g, cap, _, by rw [List.length_set], hb, hB', by rw [List.length_set]; exact hnc, hm, by simpa using hsz, ?_⟩⟩
    rw [List.length_set]
    apply List.ext_getElem?
    intro j
    have hlen : (la.flatMap Lay.cells).length = la.length * 6 := flatMap_six_len la
    rcases Nat.lt_or_ge j (la.length * 6) with hj | hj
    · obtain ⟨q, m, rfl, hm6⟩ : ∃ q m, j = q * 6 + m ∧ m < 6 := ⟨j / 6, j % 6, by omega, by omega⟩
      have hq : q < la.length := by omega
      have h1 : (la.flatMap Lay.cells)[q * 6 + m]? = cur[q * 6 + m]? := by
        rw [← hcur, List.getElem?_take, if_pos (by omega), Array.getElem?_toList]
      rw [List.getElem?_take, if_pos hj, Array.getElem?_toList]
      by_cases hqi : q = i
      · subst hqi
        have h2 : (la.set q a)[q]? = some a := by rw [List.getElem?_set, if_pos rfl, if_pos hq]
        rw [flatMap_six h2 m hm6, ha]
        have hs : la.length * 6 ≤ cur.size := by rw [hsz]; exact Nat.mul_le_mul_right 6 hnc
        rcases (show m = 0 ∨ m = 1 ∨ m = 2 ∨ m = 3 ∨ m = 4 ∨ m = 5 by omega) with rfl | rfl | rfl | rfl | rfl | rfl <;> simp [Array.getElem?_setIfInBounds] <;> omega
      · have h2 : (la.set i a)[q]? = some la[q] := by rw [List.getElem?_set, if_neg (fun e => hqi e.symm), List.getElem?_eq_getElem hq]
        rw [flatMap_six h2 m hm6, ← flatMap_six (List.getElem?_eq_getElem hq) m hm6, h1]
        simp only [Array.getElem?_setIfInBounds, Array.size_setIfInBounds]
        rw [if_neg (by omega), if_neg (by omega), if_neg (by omega), if_neg (by omega), if_neg (by omega), if_neg (by omega)]
    · rw [List.getElem?_take, if_neg (by omega), List.getElem?_eq_none]
      rw [flatMap_six_len, List.length_set]; exact hj
theorem six_sets (w : World) (g m : Nat) (c0 c1 c2 c3 c4 c5 : Value) : Kept (Only g) w ((((((w.setCell ⟨g, m, none⟩ c0).setCell ⟨g, m + 1, none⟩ c1).setCell ⟨g, m + 2, none⟩ c2).setCell ⟨g, m + 3, none⟩ c3).setCell ⟨g, m + 4, none⟩ c4).setCell ⟨g, m + 5, none⟩ c5) :=
  ((((((Kept.refl (Only g) w).set1 m c0).set1 (m + 1) c1).set1 (m + 2) c2).set1 (m + 3) c3).set1 (m + 4) c4).set1 (m + 5) c5
end Go.Proofs.YtbckofjoancdjaaGreatDoor
