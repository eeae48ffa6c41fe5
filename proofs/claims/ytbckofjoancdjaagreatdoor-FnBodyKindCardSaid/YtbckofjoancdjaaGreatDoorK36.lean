/- Package spec: MechanismsOf, ChallengeOf, OutcomeOf at the law's own arguments. -/
import Derived.Deep.LoopGhost
import Derived.Test.YtbckofjoancdjaaGreatDoorK35
import Derived.Test.YtbckofjoancdjaaGreatDoorK24
import Derived.Test.YtbckofjoancdjaaGreatDoorK9
namespace Go.Proofs.YtbckofjoancdjaaGreatDoor
open Go Go.RowKit Go.Lib
abbrev symA : Lay := ⟨.mk 20 0 ⟨#[97]⟩ [] 0 [], .slice none 0 0, .slice none 0 0⟩
theorem symA_ok (S : Nat → Prop) (w : World) : symA.Ok S w := ⟨⟨by decide, by decide, by decide, by decide⟩, .nil _ _ (by decide), .nil _ _ (by decide)⟩
abbrev zFld : Array Value := #[.int .i64 0, .int .u64 0, .string ⟨#[]⟩, .slice none 0 0, .int .i64 0, .slice none 0 0, .int .i64 0, .int .u64 0, .string ⟨#[]⟩, .slice none 0 0, .int .i64 0, .slice none 0 0]
def SymP (w : World) : Ending → World → Prop := fun e w' => ∃ gs cs, e = .returned (.agg #[.int .i64 23, .int .u64 0, .string ⟨#[]⟩, .slice (some ⟨gs, 0, none⟩) 1 cs, .int .i64 0, .slice none 0 0, .int .i64 0, .int .u64 0, .string ⟨#[]⟩, .slice none 0 0, .int .i64 0, .slice none 0 0]) ∧ Kept Nope w w' ∧ w'.ownsRow w.heap.size 92 6 (.slice (some ⟨gs, 0, none⟩) 1 cs) 1 symA.cells
set_option maxRecDepth 100000 in
set_option maxHeartbeats 3200000 in
theorem symbols_one (w : World) (g0 cp : Nat) (hz : w.cell? ⟨g0, 0, none⟩ = some (.string ⟨#[97]⟩)) (hcp : 1 ≤ cp ∧ cp ≤ maxLen) : Calls Tryz.prog 31 #[.slice (some ⟨g0, 0, none⟩) 1 cp] w (SymP w) := by
  obtain ⟨i1, hi, hz0, hz1, hz2⟩ := info_parts info_Val
  have HZ := Lib.hid hz
  have HCP := Lib.hid hcp
  clear hz hcp
  go_enter Tryz.func31, Tryz.ntmps31
  go_wp2_with fail
  obtain ⟨P, hP⟩ : ∃ P, w.heap.size = P := ⟨_, rfl⟩
  obtain ⟨W0, hW0⟩ : ∃ W0, ((w.alloc (.cells zFld 95)).alloc (.cells #[.int .i64 23, .int .u64 0, .string ⟨#[]⟩, .slice none 0 0, .int .i64 0, .slice none 0 0] 92)) = W0 := ⟨_, rfl⟩
  rw [hW0, hP]
  have hk0 : Kept Nope w W0 := hW0 ▸ ((Kept.refl Nope w).alloc _).alloc _
  have hb0 : Blk W0 P 95 zFld := by rw [← hW0, ← hP]; exact (Blk.new w 95 zFld).alloc _
  have hb1 : Blk W0 (P + 1) 92 #[.int .i64 23, .int .u64 0, .string ⟨#[]⟩, .slice none 0 0, .int .i64 0, .slice none 0 0] := by rw [← hW0, ← hP]; have h := Blk.new (w.alloc (.cells zFld 95)) 92 #[.int .i64 23, .int .u64 0, .string ⟨#[]⟩, .slice none 0 0, .int .i64 0, .slice none 0 0]; rw [World.size_alloc] at h; exact h
  have H0 := Lib.hid (And.intro hk0 (And.intro hb0 (And.intro hb1 hP)))
  clear hk0 hb0 hb1 hW0 hP
  go_loopg [13] 1 (fun j q w' => ∃ (k : Nat) (po : Value), k + j = 1 ∧ q = .int .i64 k ∧ Hid (Kept Nope w w' ∧ Blk w' P 95 zFld ∧ Blk w' (P + 1) 92 #[.int .i64 23, .int .u64 0, .string ⟨#[]⟩, po, .int .i64 0, .slice none 0 0] ∧ ((k = 0 ∧ po = .slice none 0 0) ∨ (k = 1 ∧ w'.ownsRow w.heap.size 92 6 po 1 symA.cells)) ∧ (∀ b, po.ownBlock = some b → P + 2 ≤ b)))
  case atStart => exact ⟨0, .slice none 0 0, rfl, rfl, Lib.hid ⟨H0.out.1, H0.out.2.1, H0.out.2.2.1, .inl ⟨rfl, rfl⟩, fun b hb => by cases hb⟩⟩
  case round =>
    obtain ⟨k, po, hk, rfl, HR⟩ := hrel
    by_cases hkm : k = 0
    · subst hkm
      obtain rfl : po = .slice none 0 0 := by
        rcases HR.out.2.2.2.1 with ⟨_, h⟩ | ⟨h, _⟩
        · exact h
        · cases h
      have hzr := HR.out.1.cell HZ.out (fun h => h)
      have c3 := fun (o : Obj) => (HR.out.2.2.1.alloc o).cell 3
      have c3w := HR.out.2.2.1.cell 3
      simp only [List.getElem?_toArray, List.getElem?_cons_zero, List.getElem?_cons_succ] at c3 c3w
      have HA := Lib.hid (symA_ok Any_ w).one
      go_wp2_with (at_builtin; go_must (refine wpList_append_c _ rfl (.tmp 18) (.tmp 21) 40 rfl w.heap.size 92 i1 _ 6 88 Tryz.underlying40 hi hz0 hz1 hz2 rfl (by decide) _ _ _ rfl (World.ownsRow_nil _ _ _ _) Any_ _ 1 symA.cells rfl (CSl.one_six' (W := wr) _ (by simp)) HA.out (by unfold maxLen; omega) (by omega) (by have h1 := HR.out.1.size; simp; omega) ?_; intro v4 w4 hown hgrow hblk; obtain ⟨p4, c4, rfl⟩ := ownsRow_form4 hown; have hg : Kept (fun b => (Value.slice none 0 0).ownBlock = some b) _ w4 := ⟨hgrow.os, hgrow.tape, hgrow.output, hgrow.size, fun k hk hn => hgrow.block k hk (fun e => hn e.symm)⟩; have hb4 := (HR.out.2.2.1.alloc (.cells symA.cells.toArray 92)).kept hg (fun e => by cases e); have HN := Lib.hid (And.intro hown (And.intro hgrow (And.intro hblk (And.intro hg hb4)))); have c43 := hb4.cell 3; have f43 := hb4.frozen 3; simp only [List.getElem?_toArray, List.getElem?_cons_zero, List.getElem?_cons_succ] at c43; clear hown hgrow hblk hg hb4))
      go_roundg 0
      case measure => omega
      case rel =>
        have hka := (Kept.refl Nope wr).alloc (.cells symA.cells.toArray 92)
        have hP := H0.out.2.2.2
        have hs : Kept (Only (P + 1)) w4 (w4.setCell ⟨P + 1, 3, none⟩ (.slice p4 1 c4)) := (Kept.refl _ _).set1 3 _
        have hg := HN.out.2.2.2.1
        have hlt4 := HR.out.2.2.1.lt
        have ho4 : ∀ b, (Value.slice p4 1 c4).ownBlock = some b → P + 2 ≤ b := fun b hb => by
          rcases HN.out.2.2.1 with e | e
          · rw [e] at hb; cases hb
          · rw [e] at hb; have := Option.some.inj hb; simp at this; omega
        refine ⟨1, .slice p4 1 c4, rfl, rfl, Lib.hid ⟨?_, ?_, ?_, .inr ⟨rfl, ?_⟩, ho4⟩⟩
        · exact ((HR.out.1.trans' hka).trans hg (fun b hb e => by cases e)).trans hs (fun b hb e => by have e' : b = P + 1 := e; omega)
        · exact ((HR.out.2.1.kept hka (fun h => h)).kept hg (fun e => by cases e)).kept hs (fun e => by have e' : P = P + 1 := e; omega)
        · simpa using HN.out.2.2.2.2.set_ 3 (.slice p4 1 c4)
        · exact ownsRow_keep (by simpa using HN.out.1) hs (fun b hb e => by have e' : b = P + 1 := e; have := ho4 b hb; omega)
    · obtain rfl : k = 1 := by omega
      have hown : wr.ownsRow w.heap.size 92 6 po 1 symA.cells := by
        rcases HR.out.2.2.2.1 with ⟨h, _⟩ | ⟨_, h⟩
        · cases h
        · exact h
      have hrow : Row6 w (fun _ => False) wr po [symA] := ⟨by simpa using hown, fun a ha => by rw [List.mem_singleton.1 ha]; exact symA_ok _ _⟩
      obtain ⟨pa, pc, rfl⟩ := hrow.form
      obtain ⟨gs, cur, rfl, _, _, _, _⟩ := hrow.at_ rfl (k := 0) (e := symA) rfl
      have HROW := Lib.hid hown
      clear hrow hown
      have hb := HR.out.2.2.1
      have c40 := hb.cell 0
      have c41 := hb.cell 1
      have c42 := hb.cell 2
      have c43 := hb.cell 3
      have c44 := hb.cell 4
      have c45 := hb.cell 5
      simp only [List.getElem?_toArray, List.getElem?_cons_zero, List.getElem?_cons_succ] at c40 c41 c42 c43 c44 c45
      clear hb
      have hp0 : ∀ j u, zFld[j]? = some u → wr.cell? ⟨P, j, none⟩ = some u := fun j u hu => (HR.out.2.1.cell j).trans hu
      have q0 := hp0 0 _ rfl
      have hu2 : (Tryz.prog.info? 95).map (fun i => i.size) = some 12 := by kernel_rfl
      have HU := Lib.hid hu2
      clear hu2 hp0 q0
      go_wp2_with (refine wpList_store_kept rfl 95 (.tmp 2) (.tmp 26) rfl P #[.int .i64 23, .int .u64 0, .string ⟨#[]⟩, .slice (some ⟨gs, 0, none⟩) 1 pc, .int .i64 0, .slice none 0 0, .int .i64 0, .int .u64 0, .string ⟨#[]⟩, .slice none 0 0, .int .i64 0, .slice none 0 0] rfl rfl 95 zFld HR.out.2.1 (by rw [HU.out]; rfl) rfl (by simp [Value.oneCell']) ?_; intro W3 hW3 hK3; have H3 := Lib.hid (And.intro hW3 hK3); clear hW3 hK3)
      refine bodyPost_ret (results_cell_row (P := Tryz.prog) rfl _ _ P 95 _ (0, 0) _ rfl H3.out.1 Tryz.underlying95 rfl (by kernel_rfl)) rfl ⟨gs, pc, rfl, ?_, ?_⟩
      · have hP := H0.out.2.2.2
        exact HR.out.1.trans H3.out.2 (fun b hb e => by have e' : b = P := e; omega)
      · exact ownsRow_keep HROW.out H3.out.2 (fun b hb e => by have e' : b = P := e; have := HR.out.2.2.2.2 b hb; omega)
abbrev chalC : List Value := [.int .i64 18, .int .u64 0, .string ⟨#[97]⟩, .slice none 0 0, .int .i64 0, .slice none 0 0, .int .i64 0, .int .u64 0, .string ⟨#[]⟩, .slice none 0 0, .int .i64 0, .slice none 0 0]
def MechP (w : World) : Ending → World → Prop := fun e w' => ∃ b gs cs, e = .returned (.agg #[.int .u64 64, .slice (some ⟨b, 0, none⟩) 1 1]) ∧ w.heap.size ≤ b ∧ Blk w' b 95 #[.int .i64 23, .int .u64 0, .string ⟨#[]⟩, .slice (some ⟨gs, 0, none⟩) 1 cs, .int .i64 0, .slice none 0 0, .int .i64 0, .int .u64 0, .string ⟨#[]⟩, .slice none 0 0, .int .i64 0, .slice none 0 0] ∧ Kept Nope w w' ∧ w'.ownsRow w.heap.size 92 6 (.slice (some ⟨gs, 0, none⟩) 1 cs) 1 symA.cells
set_option maxRecDepth 100000 in
set_option maxHeartbeats 1600000 in
theorem ofMechanisms_ok (w : World) (g0 cp : Nat) (hz : w.cell? ⟨g0, 0, none⟩ = some (.string ⟨#[97]⟩)) (hcp : 1 ≤ cp ∧ cp ≤ maxLen) : Calls Tryz.prog 16 #[.slice (some ⟨g0, 0, none⟩) 1 cp] w (MechP w) := by
  have hB := Blk.new w 30 zComp
  have HB := Lib.hid hB
  have HZ := Lib.hid hz
  have HCP := Lib.hid hcp
  clear hB hz hcp
  go_enter Tryz.func16, Tryz.ntmps16
  go_wp2_with (go_at_call 31; go_must (refine (symbols_one _ g0 cp (((Kept.refl Nope w).alloc _).cell HZ.out (fun h => h)) HCP.out).mono ?_; rintro e w1 ⟨gs, cs, rfl, hk1, how⟩; have hb1 := HB.out.kept hk1 (fun h => h); have c0 := fun (o : Obj) => (hb1.alloc o).cell 0; have c1 := fun (o : Obj) => (hb1.alloc o).cell 1; have f0 := fun (o : Obj) => (hb1.alloc o).frozen 0; have f1 := fun (o : Obj) => (hb1.alloc o).frozen 1; unfold zComp at c0 c1; simp only [List.getElem?_toArray, List.getElem?_cons_zero, List.getElem?_cons_succ] at c0 c1; have H1 := Lib.hid (And.intro hk1 (And.intro hb1 how)); clear hk1 hb1 how))
  have hd := comp_done w w1 (.int .u64 64) (.slice (some ⟨w1.heap.size, 0, none⟩) 1 1) #[.int .i64 23, .int .u64 0, .string ⟨#[]⟩, .slice (some ⟨gs, 0, none⟩) 1 cs, .int .i64 0, .slice none 0 0, .int .i64 0, .int .u64 0, .string ⟨#[]⟩, .slice none 0 0, .int .i64 0, .slice none 0 0] (((Kept.refl Nope w).alloc _).trans' H1.out.1) H1.out.2.1
  refine bodyPost_ret (results_cell_row (P := Tryz.prog) rfl _ _ w.heap.size 30 _ (0, 0) _ rfl hd.1 Tryz.underlying30 rfl (by kernel_rfl)) rfl ⟨_, gs, cs, rfl, hd.2.2.2, hd.2.1, hd.2.2.1, ?_⟩
  have h1 := ownsRow_base H1.out.2.2 (b' := w.heap.size) (by rw [World.size_alloc]; omega)
  have h2 : Kept (Only w.heap.size) w1 (((w1.alloc (.cells #[.int .i64 23, .int .u64 0, .string ⟨#[]⟩, .slice (some ⟨gs, 0, none⟩) 1 cs, .int .i64 0, .slice none 0 0, .int .i64 0, .int .u64 0, .string ⟨#[]⟩, .slice none 0 0, .int .i64 0, .slice none 0 0] 95)).setCell ⟨w.heap.size, 0, none⟩ (.int .u64 64)).setCell ⟨w.heap.size, 1, none⟩ (.slice (some ⟨w1.heap.size, 0, none⟩) 1 1)) := (((Kept.refl _ w1).alloc _).set1 0 _).set1 1 _
  refine ownsRow_keep h1 h2 fun b hb e => ?_
  have h3 := (H1.out.2.2.lt b hb).1
  rw [World.size_alloc] at h3
  have e' : b = w.heap.size := e
  omega
set_option maxRecDepth 100000 in
set_option maxHeartbeats 1600000 in
theorem ofChallenge_ok (w : World) (s : Value) (hs : BSl Any_ w s [97]) : Calls Tryz.prog 17 #[s] w (CompP w 66 1 chalC) := by
  have hB := Blk.new w 30 zComp
  have HB := Lib.hid hB
  have kc := run_bytes_str 26 9 5 Tryz.underlying26 Tryz.underlying5 Tryz.underlying9 (hs.keep ((Kept.refl Nope w).alloc (.cells #[.int .u64 0, .slice none 0 0] 30)) (fun _ _ _ h => h))
  obtain ⟨sa, sc, rfl, _⟩ := hs
  simp only [List.length_cons, List.length_nil, Nat.zero_add] at kc
  have c0 := fun (o : Obj) => (HB.out.alloc o).cell 0
  have c1 := fun (o : Obj) => (HB.out.alloc o).cell 1
  have f0 := fun (o : Obj) => (HB.out.alloc o).frozen 0
  have f1 := fun (o : Obj) => (HB.out.alloc o).frozen 1
  unfold zComp at c0 c1 f0 f1
  simp only [List.getElem?_toArray, List.getElem?_cons_zero, List.getElem?_cons_succ] at c0 c1
  clear hB
  go_enter Tryz.func17, Tryz.ntmps17
  go_wp2
  have h1 := Blk.new (w.alloc (.cells #[.int .u64 66, .slice (some ⟨w.heap.size + 1, 0, none⟩) 1 1] 30)) 95 chalC.toArray
  rw [World.size_alloc] at h1
  exact bodyPost_ret (results_cell_row (P := Tryz.prog) rfl _ _ w.heap.size 30 _ (0, 0) _ rfl ((Blk.new w 30 #[.int .u64 66, .slice (some ⟨w.heap.size + 1, 0, none⟩) 1 1]).alloc _) Tryz.underlying30 rfl (by kernel_rfl)) rfl ⟨_, rfl, by omega, h1, ((Kept.refl _ _).alloc _).alloc _⟩
end Go.Proofs.YtbckofjoancdjaaGreatDoor
