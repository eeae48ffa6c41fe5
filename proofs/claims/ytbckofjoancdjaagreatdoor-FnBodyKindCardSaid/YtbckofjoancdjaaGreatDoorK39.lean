/- laws: bodies: the twelve composites are written. laws: FnBodyKind. -/
import Derived.Test.YtbckofjoancdjaaGreatDoorK34
import Derived.Test.YtbckofjoancdjaaGreatDoorK37
import Derived.Test.YtbckofjoancdjaaGreatDoorK38
import Derived.Test.YtbckofjoancdjaaGreatDoorK36
import Derived.Lib.SlBytesConst
namespace Go.Proofs.YtbckofjoancdjaaGreatDoor
open Go Go.RowKit Go.Lib
theorem ba_txt : (⟨#[97]⟩ : ByteArray) ≠ ⟨#[]⟩ := by decide
theorem all_cons {α : Type} {p : α → Prop} {a : α} {l : List α} (h : p a) (hl : ∀ s ∈ l, p s) : ∀ s ∈ a :: l, p s := fun s hs => by rcases List.mem_cons.1 hs with rfl | hs; exact h; exact hl s hs
theorem all_nil {α : Type} {p : α → Prop} : ∀ s ∈ ([] : List α), p s := fun s hs => by cases hs
def EldAll (l : List SF) (ps : List Bool) : Prop := ∀ (k : Nat) (s : SF) (p : Bool), l[k]? = some s → ps[k]? = some p → (p = true ↔ s.eld)
theorem EldAll.nil : EldAll [] [] := fun k s p h => by simp at h
theorem EldAll.cons {s : SF} {p : Bool} {l : List SF} {ps : List Bool} (h : p = true ↔ s.eld) (hl : EldAll l ps) : EldAll (s :: l) (p :: ps) := fun k s' p' h1 h2 => by
  cases k with
  | zero => simp at h1 h2; subst h1 h2; exact h
  | succ k => simp at h1 h2; exact hl k s' p' h1 h2
set_option maxRecDepth 100000 in
theorem wr_Open {w : World} {b : Nat} (hb : Blk w b 95 cOpen.toArray) : Writes w b 10 16 kOpen :=
  writes_of (l := [⟨19, 0, ⟨#[97]⟩, 0, 0⟩, ⟨0, 0, ⟨#[]⟩, 0, 0⟩, ⟨4, 512, ⟨#[]⟩, 4, 4294967295⟩, ⟨3, 1, ⟨#[]⟩, 3, 65535⟩, ⟨4, 0, ⟨#[]⟩, 4, 0⟩, ⟨0, 0, ⟨#[]⟩, 0, 0⟩, ⟨0, 0, ⟨#[]⟩, 0, 0⟩, ⟨0, 0, ⟨#[]⟩, 0, 0⟩, ⟨0, 0, ⟨#[]⟩, 0, 0⟩, ⟨0, 0, ⟨#[]⟩, 0, 0⟩]) (ps := [false, false, false, false, true, false, false, false, false, false]) hb rfl (all_cons (by simp [SF.good]) (all_cons (by simp [SF.good]) (all_cons (by simp [SF.good]) (all_cons (by simp [SF.good]) (all_cons (by simp [SF.good]) (all_cons (by simp [SF.good]) (all_cons (by simp [SF.good]) (all_cons (by simp [SF.good]) (all_cons (by simp [SF.good]) (all_cons (by simp [SF.good]) (all_nil))))))))))) rfl (by decide) (by decide) (by decide) rfl (EldAll.cons (by simp [SF.eld]) (EldAll.cons (by simp [SF.eld]) (EldAll.cons (by simp [SF.eld]) (EldAll.cons (by simp [SF.eld]) (EldAll.cons (by simp [SF.eld]) (EldAll.cons (by simp [SF.eld]) (EldAll.cons (by simp [SF.eld]) (EldAll.cons (by simp [SF.eld]) (EldAll.cons (by simp [SF.eld]) (EldAll.cons (by simp [SF.eld]) (EldAll.nil))))))))))) rfl
set_option maxRecDepth 100000 in
theorem wr_Begin {w : World} {b : Nat} (hb : Blk w b 95 cBegin.toArray) : Writes w b 8 17 kBegin :=
  writes_of (l := [⟨0, 0, ⟨#[]⟩, 0, 0⟩, ⟨4, 1, ⟨#[]⟩, 0, 0⟩, ⟨4, 0, ⟨#[]⟩, 0, 0⟩, ⟨4, 0, ⟨#[]⟩, 0, 0⟩, ⟨4, 1, ⟨#[]⟩, 4, 4294967295⟩, ⟨0, 0, ⟨#[]⟩, 0, 0⟩, ⟨0, 0, ⟨#[]⟩, 0, 0⟩, ⟨0, 0, ⟨#[]⟩, 0, 0⟩]) (ps := [false, false, false, false, false, false, false, false]) hb rfl (all_cons (by simp [SF.good]) (all_cons (by simp [SF.good]) (all_cons (by simp [SF.good]) (all_cons (by simp [SF.good]) (all_cons (by simp [SF.good]) (all_cons (by simp [SF.good]) (all_cons (by simp [SF.good]) (all_cons (by simp [SF.good]) (all_nil))))))))) rfl (by decide) (by decide) (by decide) rfl (EldAll.cons (by simp [SF.eld]) (EldAll.cons (by simp [SF.eld]) (EldAll.cons (by simp [SF.eld]) (EldAll.cons (by simp [SF.eld]) (EldAll.cons (by simp [SF.eld]) (EldAll.cons (by simp [SF.eld]) (EldAll.cons (by simp [SF.eld]) (EldAll.cons (by simp [SF.eld]) (EldAll.nil))))))))) rfl
set_option maxRecDepth 100000 in
theorem wr_Attach {w : World} {b : Nat} (hb : Blk w b 95 cAttach.toArray) : Writes w b 14 18 kAttach :=
  writes_of (l := [⟨19, 0, ⟨#[97]⟩, 0, 0⟩, ⟨4, 1, ⟨#[]⟩, 0, 0⟩, ⟨1, 0, ⟨#[]⟩, 0, 0⟩, ⟨0, 0, ⟨#[]⟩, 2, 2⟩, ⟨0, 0, ⟨#[]⟩, 2, 0⟩, ⟨0, 0, ⟨#[]⟩, 0, 0⟩, ⟨0, 0, ⟨#[]⟩, 0, 0⟩, ⟨0, 0, ⟨#[]⟩, 0, 0⟩, ⟨1, 0, ⟨#[]⟩, 1, 0⟩, ⟨4, 0, ⟨#[]⟩, 4, 0⟩, ⟨5, 0, ⟨#[]⟩, 5, 0⟩, ⟨0, 0, ⟨#[]⟩, 0, 0⟩, ⟨0, 0, ⟨#[]⟩, 0, 0⟩, ⟨0, 0, ⟨#[]⟩, 0, 0⟩]) (ps := [false, false, false, false, false, false, false, false, true, true, true, false, false, false]) hb rfl (all_cons (by simp [SF.good]) (all_cons (by simp [SF.good]) (all_cons (by simp [SF.good]) (all_cons (by simp [SF.good]) (all_cons (by simp [SF.good]) (all_cons (by simp [SF.good]) (all_cons (by simp [SF.good]) (all_cons (by simp [SF.good]) (all_cons (by simp [SF.good]) (all_cons (by simp [SF.good]) (all_cons (by simp [SF.good]) (all_cons (by simp [SF.good]) (all_cons (by simp [SF.good]) (all_cons (by simp [SF.good]) (all_nil))))))))))))))) rfl (by decide) (by decide) (by decide) rfl (EldAll.cons (by simp [SF.eld]) (EldAll.cons (by simp [SF.eld]) (EldAll.cons (by simp [SF.eld]) (EldAll.cons (by simp [SF.eld]) (EldAll.cons (by simp [SF.eld]) (EldAll.cons (by simp [SF.eld]) (EldAll.cons (by simp [SF.eld]) (EldAll.cons (by simp [SF.eld]) (EldAll.cons (by simp [SF.eld]) (EldAll.cons (by simp [SF.eld]) (EldAll.cons (by simp [SF.eld]) (EldAll.cons (by simp [SF.eld]) (EldAll.cons (by simp [SF.eld]) (EldAll.cons (by simp [SF.eld]) (EldAll.nil))))))))))))))) rfl
set_option maxRecDepth 100000 in
theorem wr_Flow {w : World} {b : Nat} (hb : Blk w b 95 cFlow.toArray) : Writes w b 11 19 kFlow :=
  writes_of (l := [⟨0, 0, ⟨#[]⟩, 0, 0⟩, ⟨4, 1, ⟨#[]⟩, 0, 0⟩, ⟨4, 0, ⟨#[]⟩, 0, 0⟩, ⟨4, 0, ⟨#[]⟩, 0, 0⟩, ⟨0, 0, ⟨#[]⟩, 0, 0⟩, ⟨0, 0, ⟨#[]⟩, 0, 0⟩, ⟨0, 0, ⟨#[]⟩, 0, 0⟩, ⟨0, 0, ⟨#[]⟩, 0, 0⟩, ⟨1, 0, ⟨#[]⟩, 1, 0⟩, ⟨1, 0, ⟨#[]⟩, 1, 0⟩, ⟨0, 0, ⟨#[]⟩, 0, 0⟩]) (ps := [false, false, false, false, false, false, false, false, true, true, false]) hb rfl (all_cons (by simp [SF.good]) (all_cons (by simp [SF.good]) (all_cons (by simp [SF.good]) (all_cons (by simp [SF.good]) (all_cons (by simp [SF.good]) (all_cons (by simp [SF.good]) (all_cons (by simp [SF.good]) (all_cons (by simp [SF.good]) (all_cons (by simp [SF.good]) (all_cons (by simp [SF.good]) (all_cons (by simp [SF.good]) (all_nil)))))))))))) rfl (by decide) (by decide) (by decide) rfl (EldAll.cons (by simp [SF.eld]) (EldAll.cons (by simp [SF.eld]) (EldAll.cons (by simp [SF.eld]) (EldAll.cons (by simp [SF.eld]) (EldAll.cons (by simp [SF.eld]) (EldAll.cons (by simp [SF.eld]) (EldAll.cons (by simp [SF.eld]) (EldAll.cons (by simp [SF.eld]) (EldAll.cons (by simp [SF.eld]) (EldAll.cons (by simp [SF.eld]) (EldAll.cons (by simp [SF.eld]) (EldAll.nil)))))))))))) rfl
set_option maxRecDepth 100000 in
theorem wr_Transfer {w : World} {b : Nat} (hb : Blk w b 95 cTransfer.toArray) : Writes w b 11 20 kTransfer :=
  writes_of (l := [⟨4, 1, ⟨#[]⟩, 0, 0⟩, ⟨0, 0, ⟨#[]⟩, 0, 0⟩, ⟨0, 0, ⟨#[]⟩, 0, 0⟩, ⟨0, 0, ⟨#[]⟩, 0, 0⟩, ⟨1, 0, ⟨#[]⟩, 1, 0⟩, ⟨1, 0, ⟨#[]⟩, 1, 0⟩, ⟨0, 0, ⟨#[]⟩, 0, 0⟩, ⟨0, 0, ⟨#[]⟩, 0, 0⟩, ⟨1, 0, ⟨#[]⟩, 1, 0⟩, ⟨1, 0, ⟨#[]⟩, 1, 0⟩, ⟨1, 0, ⟨#[]⟩, 1, 0⟩]) (ps := [false, false, false, false, true, true, false, false, true, true, true]) hb rfl (all_cons (by simp [SF.good]) (all_cons (by simp [SF.good]) (all_cons (by simp [SF.good]) (all_cons (by simp [SF.good]) (all_cons (by simp [SF.good]) (all_cons (by simp [SF.good]) (all_cons (by simp [SF.good]) (all_cons (by simp [SF.good]) (all_cons (by simp [SF.good]) (all_cons (by simp [SF.good]) (all_cons (by simp [SF.good]) (all_nil)))))))))))) rfl (by decide) (by decide) (by decide) rfl (EldAll.cons (by simp [SF.eld]) (EldAll.cons (by simp [SF.eld]) (EldAll.cons (by simp [SF.eld]) (EldAll.cons (by simp [SF.eld]) (EldAll.cons (by simp [SF.eld]) (EldAll.cons (by simp [SF.eld]) (EldAll.cons (by simp [SF.eld]) (EldAll.cons (by simp [SF.eld]) (EldAll.cons (by simp [SF.eld]) (EldAll.cons (by simp [SF.eld]) (EldAll.cons (by simp [SF.eld]) (EldAll.nil)))))))))))) rfl
set_option maxRecDepth 100000 in
theorem wr_Disposition {w : World} {b : Nat} (hb : Blk w b 95 cDisposition.toArray) : Writes w b 6 21 kDisposition :=
  writes_of (l := [⟨1, 0, ⟨#[]⟩, 0, 0⟩, ⟨4, 1, ⟨#[]⟩, 0, 0⟩, ⟨0, 0, ⟨#[]⟩, 0, 0⟩, ⟨1, 0, ⟨#[]⟩, 1, 0⟩, ⟨0, 0, ⟨#[]⟩, 0, 0⟩, ⟨1, 0, ⟨#[]⟩, 1, 0⟩]) (ps := [false, false, false, true, false, true]) hb rfl (all_cons (by simp [SF.good]) (all_cons (by simp [SF.good]) (all_cons (by simp [SF.good]) (all_cons (by simp [SF.good]) (all_cons (by simp [SF.good]) (all_cons (by simp [SF.good]) (all_nil))))))) rfl (by decide) (by decide) (by decide) rfl (EldAll.cons (by simp [SF.eld]) (EldAll.cons (by simp [SF.eld]) (EldAll.cons (by simp [SF.eld]) (EldAll.cons (by simp [SF.eld]) (EldAll.cons (by simp [SF.eld]) (EldAll.cons (by simp [SF.eld]) (EldAll.nil))))))) rfl
set_option maxRecDepth 100000 in
theorem wr_Detach {w : World} {b : Nat} (hb : Blk w b 95 detC.toArray) : Writes w b 3 22 kDetach :=
  writes_of (l := [⟨4, 1, ⟨#[]⟩, 0, 0⟩, ⟨1, 0, ⟨#[]⟩, 1, 0⟩, ⟨0, 0, ⟨#[]⟩, 0, 0⟩]) (ps := [false, true, false]) hb rfl (all_cons (by simp [SF.good]) (all_cons (by simp [SF.good]) (all_cons (by simp [SF.good]) (all_nil)))) rfl (by decide) (by decide) (by decide) rfl (EldAll.cons (by simp [SF.eld]) (EldAll.cons (by simp [SF.eld]) (EldAll.cons (by simp [SF.eld]) (EldAll.nil)))) rfl
set_option maxRecDepth 100000 in
theorem wr_End {w : World} {b : Nat} (hb : Blk w b 95 nofC.toArray) : Writes w b 1 23 [nulV] :=
  writes_of (l := [⟨0, 0, ⟨#[]⟩, 0, 0⟩]) (ps := [false]) hb rfl (all_cons (by simp [SF.good]) (all_nil)) rfl (by decide) (by decide) (by decide) rfl (EldAll.cons (by simp [SF.eld]) (EldAll.nil)) rfl
set_option maxRecDepth 100000 in
theorem wr_Close {w : World} {b : Nat} (hb : Blk w b 95 nofC.toArray) : Writes w b 1 24 kClose :=
  writes_of (l := [⟨0, 0, ⟨#[]⟩, 0, 0⟩]) (ps := [false]) hb rfl (all_cons (by simp [SF.good]) (all_nil)) rfl (by decide) (by decide) (by decide) rfl (EldAll.cons (by simp [SF.eld]) (EldAll.nil)) rfl
set_option maxRecDepth 100000 in
theorem wr_Challenge {w : World} {b : Nat} (hb : Blk w b 95 chalC.toArray) : Writes w b 1 66 kSASLChallenge :=
  writes_of (l := [⟨18, 0, ⟨#[97]⟩, 0, 0⟩]) (ps := [false]) hb rfl (all_cons (by simp [SF.good]) (all_nil)) rfl (by decide) (by decide) (by decide) rfl (EldAll.cons (by simp [SF.eld]) (EldAll.nil)) rfl
set_option maxRecDepth 100000 in
theorem wr_Outcome {w : World} {b : Nat} (hb : Blk w b 95 cOutcome.toArray) : Writes w b 2 68 kSASLOutcome :=
  writes_of (l := [⟨2, 1, ⟨#[]⟩, 0, 0⟩, ⟨0, 0, ⟨#[]⟩, 0, 0⟩]) (ps := [false, false]) hb rfl (all_cons (by simp [SF.good]) (all_cons (by simp [SF.good]) (all_nil))) rfl (by decide) (by decide) (by decide) rfl (EldAll.cons (by simp [SF.eld]) (EldAll.cons (by simp [SF.eld]) (EldAll.nil))) rfl
theorem wr_Mechanisms {w : World} {b gs cs base : Nat} (hb : Blk w b 95 #[.int .i64 23, .int .u64 0, .string ⟨#[]⟩, .slice (some ⟨gs, 0, none⟩) 1 cs, .int .i64 0, .slice none 0 0, .int .i64 0, .int .u64 0, .string ⟨#[]⟩, .slice none 0 0, .int .i64 0, .slice none 0 0])
    (ho : w.ownsRow base 92 6 (.slice (some ⟨gs, 0, none⟩) 1 cs) 1 symA.cells) : Writes w b 1 64 kSASLMechanisms := by
  have hown : w.ownsRow base 92 6 (.slice (some ⟨gs, 0, none⟩) 1 cs) [symA].length ([symA].flatMap Lay.cells) := by simpa using ho
  have hks : VSl (fun b => b < w.heap.size) w (.slice (some ⟨gs, 0, none⟩) 1 cs) [symA.v] := VSl.ofOwn (l := [symA]) hown (fun b hb => (hown.lt b hb).2) (fun a ha => by rw [List.mem_singleton.1 ha]; exact symA_ok _ _)
  have hcell : ∀ j u, symA.cells[j]? = some u → w.cell? ⟨gs, j, none⟩ = some u := fun j u hu => by
    have := ho.cells (g := gs) rfl j u hu
    rw [Addr.add_lit, Nat.zero_add] at this
    exact this
  refine writes_row (fs := [(Lay.mk (.mk 23 0 ⟨#[]⟩ [symA.v] 0 []) (.slice (some ⟨gs, 0, none⟩) 1 cs) (.slice none 0 0), nulL)]) (rs := [symA]) ⟨hb.lt, fun k p hp => ?_⟩ rfl (by decide) (by decide) (by decide) rfl (fun W hk k p r hp hr => ?_) rfl (fun k hk => ?_) (fun k hk => ?_) (fun k hk => ?_)
  · cases k with
    | succ k => simp at hp
    | zero =>
      simp only [List.getElem?_cons_zero, Option.some.injEq] at hp
      subst hp
      refine ⟨fun t u hu => ?_, fun t u hu => ?_, ⟨⟨by simp, by simp, by show (⟨#[]⟩ : ByteArray).size ≤ maxLen; decide, by simp⟩, hks, .nil _ _ (by decide)⟩, nulL_ok _ _⟩
      · have ht : t < 6 := by have := (List.getElem?_eq_some_iff.1 hu).1; simpa [Lay.cells] using this
        rw [hb.cell, ← hu]
        rcases (show t = 0 ∨ t = 1 ∨ t = 2 ∨ t = 3 ∨ t = 4 ∨ t = 5 by omega) with rfl | rfl | rfl | rfl | rfl | rfl <;> rfl
      · have ht : t < 6 := by have := (List.getElem?_eq_some_iff.1 hu).1; simpa [Lay.cells] using this
        rw [hb.cell, ← hu]
        rcases (show t = 0 ∨ t = 1 ∨ t = 2 ∨ t = 3 ∨ t = 4 ∨ t = 5 by omega) with rfl | rfl | rfl | rfl | rfl | rfl <;> rfl
  · cases k with
    | succ k => simp at hp
    | zero =>
      simp only [List.getElem?_cons_zero, Option.some.injEq] at hp hr
      subst hp hr
      exact .inr ⟨fun h => h.2.1 rfl, .sym rfl rfl rfl (symA_ok Any_ W).1 (hk.cell (hcell 0 _ rfl) (fun h => h)) (hk.cell (hcell 1 _ rfl) (fun h => h)) (hk.cell (hcell 2 _ rfl) (fun h => h)) (hk.cell (hcell 3 _ rfl) (fun h => h)) (hk.cell (hcell 4 _ rfl) (fun h => h)) (hk.cell (hcell 5 _ rfl) (fun h => h))⟩
  · rw [List.mem_singleton.1 hk]
    exact SF.fits (s := ⟨20, 0, ⟨#[97]⟩, 0, 0⟩) (by simp [SF.good])
  · rw [List.mem_singleton.1 hk]
    exact SF.nums (s := ⟨20, 0, ⟨#[97]⟩, 0, 0⟩) (by simp [SF.good])
  · rw [List.mem_singleton.1 hk]
    exact ⟨by decide, rfl, rfl⟩
end Go.Proofs.YtbckofjoancdjaaGreatDoor
namespace Go.Proofs.YtbckofjoancdjaaGreatDoor
open Go Go.RowKit Go.Lib
def BodiesP (w : World) : Ending → World → Prop := fun e w' => ∃ B, e = .returned (.slice (some ⟨B, 0, none⟩) 12 12) ∧ Kept Nope w w' ∧ ∀ (j : Nat) (c : Int) (m : Nat) (K : List V), bodL[j]? = some (c, m, K) → ∃ b, w'.cell? ⟨B, j * 2, none⟩ = some (.int .u64 c) ∧ w'.cell? ⟨B, j * 2 + 1, none⟩ = some (.slice (some ⟨b, 0, none⟩) m m) ∧ Writes w' b m c K
theorem mech_cap : 1 ≤ 1 ∧ 1 ≤ maxLen := ⟨by decide, by decide⟩
theorem new_cell (w : World) (v : Value) (t : TypeId) (fr : Nat × Nat) : (w.alloc (.cells #[v] t fr)).cell? ⟨w.heap.size, 0, none⟩ = some v := by
  have h : (w.alloc (.cells #[v] t fr)).heap[w.heap.size]? = some (.cells #[v] t fr) := by
    show (w.heap.push (.cells #[v] t fr))[w.heap.size]? = _
    simp
  unfold World.cell?
  rw [h]
  rfl
theorem bsl_const (w : World) (t : TypeId) (fr : Nat × Nat) : BSl Any_ (w.alloc (.cells #[.int .u8 97] t fr)) (.slice (some ⟨w.heap.size, 0, none⟩) 1 1) [97] := by
  refine ⟨_, _, rfl, by decide, by decide, .inr ⟨_, _, rfl, trivial, fun j x hx => ?_⟩⟩
  cases j with
  | zero =>
    simp only [List.getElem?_cons_zero, Option.some.injEq] at hx
    subst hx
    exact new_cell w _ t fr
  | succ j => simp at hx
set_option maxRecDepth 100000 in
set_option maxHeartbeats 6400000 in
theorem bodies_ok (w : World) : Calls Tryz.prog 4 #[] w (BodiesP w) := by
  have kc := fun (w : World) (C : Array Value) (n c : Nat) => Lib.run_convert_bytes_const (P := Tryz.prog) w 26 5 C n c Tryz.underlying26 Tryz.underlying5
  go_enter Tryz.func4, Tryz.ntmps4
  go_wp2_with (first
    | (go_at_call 7; go_must (refine (ofOpen_ok _).mono ?_; rintro e w0 ⟨b0, rfl, hz0, hb0, hk0⟩; have H0 := Lib.hid (And.intro hb0 hk0); clear hz0 hb0 hk0))
    | (go_at_call 8; go_must (refine (ofBegin_ok _).mono ?_; rintro e w1 ⟨b1, rfl, hz1, hb1, hk1⟩; have H1 := Lib.hid (And.intro hb1 hk1); clear hz1 hb1 hk1))
    | (go_at_call 9; go_must (refine (ofAttach_ok _).mono ?_; rintro e w2 ⟨b2, rfl, hz2, hb2, hk2⟩; have H2 := Lib.hid (And.intro hb2 hk2); clear hz2 hb2 hk2))
    | (go_at_call 10; go_must (refine (ofFlow_ok _).mono ?_; rintro e w3 ⟨b3, rfl, hz3, hb3, hk3⟩; have H3 := Lib.hid (And.intro hb3 hk3); clear hz3 hb3 hk3))
    | (go_at_call 11; go_must (refine (ofTransfer_ok _).mono ?_; rintro e w4 ⟨b4, rfl, hz4, hb4, hk4⟩; have H4 := Lib.hid (And.intro hb4 hk4); clear hz4 hb4 hk4))
    | (go_at_call 12; go_must (refine (ofDisposition_ok _).mono ?_; rintro e w5 ⟨b5, rfl, hz5, hb5, hk5⟩; have H5 := Lib.hid (And.intro hb5 hk5); clear hz5 hb5 hk5))
    | (go_at_call 13; go_must (refine (ofDetach_ok _).mono ?_; rintro e w6 ⟨b6, rfl, hz6, hb6, hk6⟩; have H6 := Lib.hid (And.intro hb6 hk6); clear hz6 hb6 hk6))
    | (go_at_call 14; go_must (refine (ofEnd_ok _).mono ?_; rintro e w7 ⟨b7, rfl, hz7, hb7, hk7⟩; have H7 := Lib.hid (And.intro hb7 hk7); clear hz7 hb7 hk7))
    | (go_at_call 15; go_must (refine (ofClose_ok _).mono ?_; rintro e w8 ⟨b8, rfl, hz8, hb8, hk8⟩; have H8 := Lib.hid (And.intro hb8 hk8); clear hz8 hb8 hk8))
    | (go_at_call 16; go_must (refine (ofMechanisms_ok _ _ _ (new_cell _ _ _ _) mech_cap).mono ?_; rintro e w9 ⟨b9, gs, cs, rfl, hz9, hb9, hk9, how⟩; have H9 := Lib.hid (And.intro hb9 (And.intro hk9 how)); clear hz9 hb9 hk9 how))
    | (go_at_call 17; go_must (refine (ofChallenge_ok _ _ (bsl_const _ _ _)).mono ?_; rintro e w10 ⟨b10, rfl, hz10, hb10, hk10⟩; have H10 := Lib.hid (And.intro hb10 hk10); clear hz10 hb10 hk10))
    | (go_at_call 18; go_must (refine (ofOutcome_ok _).mono ?_; rintro e w11 ⟨b11, rfl, hz11, hb11, hk11⟩; have H11 := Lib.hid (And.intro hb11 hk11); clear hz11 hb11 hk11))
    )
  go_ret
  have hbk := Blk.new w11 30 #[.int .u64 16, .slice (some ⟨b0, 0, none⟩) 10 10, .int .u64 17, .slice (some ⟨b1, 0, none⟩) 8 8, .int .u64 18, .slice (some ⟨b2, 0, none⟩) 14 14, .int .u64 19, .slice (some ⟨b3, 0, none⟩) 11 11, .int .u64 20, .slice (some ⟨b4, 0, none⟩) 11 11, .int .u64 21, .slice (some ⟨b5, 0, none⟩) 6 6, .int .u64 22, .slice (some ⟨b6, 0, none⟩) 3 3, .int .u64 23, .slice (some ⟨b7, 0, none⟩) 1 1, .int .u64 24, .slice (some ⟨b8, 0, none⟩) 1 1, .int .u64 64, .slice (some ⟨b9, 0, none⟩) 1 1, .int .u64 66, .slice (some ⟨b10, 0, none⟩) 1 1, .int .u64 68, .slice (some ⟨b11, 0, none⟩) 2 2]
  have k11 : Kept Nope w11 (w11.alloc (.cells #[.int .u64 16, .slice (some ⟨b0, 0, none⟩) 10 10, .int .u64 17, .slice (some ⟨b1, 0, none⟩) 8 8, .int .u64 18, .slice (some ⟨b2, 0, none⟩) 14 14, .int .u64 19, .slice (some ⟨b3, 0, none⟩) 11 11, .int .u64 20, .slice (some ⟨b4, 0, none⟩) 11 11, .int .u64 21, .slice (some ⟨b5, 0, none⟩) 6 6, .int .u64 22, .slice (some ⟨b6, 0, none⟩) 3 3, .int .u64 23, .slice (some ⟨b7, 0, none⟩) 1 1, .int .u64 24, .slice (some ⟨b8, 0, none⟩) 1 1, .int .u64 64, .slice (some ⟨b9, 0, none⟩) 1 1, .int .u64 66, .slice (some ⟨b10, 0, none⟩) 1 1, .int .u64 68, .slice (some ⟨b11, 0, none⟩) 2 2] 30)) := (Kept.refl _ _).alloc _
  have k10 := H11.out.2.trans' k11
  have k9 := ((Kept.refl Nope w9).alloc _).trans' (H10.out.2.trans' k10)
  have k8 := ((Kept.refl Nope w8).alloc _).trans' (H9.out.2.1.trans' k9)
  have k7 := H8.out.2.trans' k8
  have k6 := H7.out.2.trans' k7
  have k5 := H6.out.2.trans' k6
  have k4 := H5.out.2.trans' k5
  have k3 := H4.out.2.trans' k4
  have k2 := H3.out.2.trans' k3
  have k1 := H2.out.2.trans' k2
  have k0 := H1.out.2.trans' k1
  refine ⟨_, rfl, H0.out.2.trans' k0, fun j c m K h => ?_⟩
  have hj := (List.getElem?_eq_some_iff.1 h).1
  have hj' : j < 12 := hj
  rcases (show j = 0 ∨ j = 1 ∨ j = 2 ∨ j = 3 ∨ j = 4 ∨ j = 5 ∨ j = 6 ∨ j = 7 ∨ j = 8 ∨ j = 9 ∨ j = 10 ∨ j = 11 by omega) with rfl | rfl | rfl | rfl | rfl | rfl | rfl | rfl | rfl | rfl | rfl | rfl <;> (injection h with h; injection h with h1 h2; injection h2 with h2 h3; subst h1 h2 h3)
  · exact ⟨b0, hbk.cell _, hbk.cell _, (wr_Open H0.out.1).keep k0⟩
  · exact ⟨b1, hbk.cell _, hbk.cell _, (wr_Begin H1.out.1).keep k1⟩
  · exact ⟨b2, hbk.cell _, hbk.cell _, (wr_Attach H2.out.1).keep k2⟩
  · exact ⟨b3, hbk.cell _, hbk.cell _, (wr_Flow H3.out.1).keep k3⟩
  · exact ⟨b4, hbk.cell _, hbk.cell _, (wr_Transfer H4.out.1).keep k4⟩
  · exact ⟨b5, hbk.cell _, hbk.cell _, (wr_Disposition H5.out.1).keep k5⟩
  · exact ⟨b6, hbk.cell _, hbk.cell _, (wr_Detach H6.out.1).keep k6⟩
  · exact ⟨b7, hbk.cell _, hbk.cell _, (wr_End H7.out.1).keep k7⟩
  · exact ⟨b8, hbk.cell _, hbk.cell _, (wr_Close H8.out.1).keep k8⟩
  · exact ⟨b9, hbk.cell _, hbk.cell _, (wr_Mechanisms H9.out.1 H9.out.2.2).keep k9⟩
  · exact ⟨b10, hbk.cell _, hbk.cell _, (wr_Challenge H10.out.1).keep k10⟩
  · exact ⟨b11, hbk.cell _, hbk.cell _, (wr_Outcome H11.out.1).keep k11⟩
set_option maxRecDepth 100000 in
set_option maxHeartbeats 6400000 in
theorem FnBodyKind_ok (which : Int) (w : World) (he : Eof w) : Calls Tryz.prog 3 #[.int .i64 which] w (fun e w' => e = .returned (.bool true) ∧ Kept Nope w w') := by
  have HE := Lib.hid he
  clear he
  go_enter Tryz.func3, Tryz.ntmps3
  go_upto_region 3 with (first
    | (go_at_call 4; go_must (refine (bodies_ok _).mono ?_; rintro e w1 ⟨B, rfl, hk1, hb1⟩; obtain ⟨b0, x0, x1, hw0⟩ := hb1 0 16 10 kOpen rfl; have c0 : w1.cell? ⟨B, 0, none⟩ = some (.int .u64 16) := x0; have c1 : w1.cell? ⟨B, 1, none⟩ = some (.slice (some ⟨b0, 0, none⟩) 10 10) := x1; have H1 := Lib.hid (And.intro hk1 (And.intro hb1 hw0)); clear hk1 hb1 hw0 x0 x1))
    | (go_at_call 6; go_must (refine (H1.out.2.2 _ _ ((Kept.refl Nope w1).alloc _) (Nat.le_refl _) ⟨0, Blk.new _ _ _, by decide, by decide⟩).mono ?_; rintro e w2 ⟨x, bs, A, rfl, hA, hB, hcb, hl, hk2⟩; have hk12 : Kept Nope w1 w2 := (((Kept.refl Nope w1).alloc _).nope.trans' hk2).ofNew fun i e => Nat.le_of_eq (Eq.symm e); have H2 := Lib.hid (And.intro hk12 (And.intro ((BSl.ofOwn hB).mono (S' := Any_) fun _ _ _ => trivial) (And.intro hcb hl))); clear hA hB hcb hl hk2 hk12))
    | (go_at_call 5; go_must (refine ((told_at (j := 0) rfl).1 _ _ _ H2.out.2.1 H2.out.2.2.1 H2.out.2.2.2 (HE.out.nope (H1.out.1.trans' H2.out.1))).mono ?_; rintro e w3 ⟨rfl, hk3⟩; have H3 := Lib.hid (H2.out.1.trans' hk3); clear hk3)))
  clear c0 c1
  by_cases hw : 0 ≤ which ∧ which < 12
  · obtain ⟨j, rfl⟩ : ∃ j : Nat, which = (j : Int) := ⟨which.toNat, by omega⟩
    have hj0 : (0 : Int) ≤ (j : Int) := hw.1
    have hj1 : (j : Int) < 12 := hw.2
    have hj2 : ¬ (j : Int) < 0 := by omega
    have hj3 : ¬ (12 : Int) ≤ (j : Int) := by omega
    obtain ⟨⟨c, m, K⟩, hbl⟩ : ∃ p, bodL[j]? = some p := ⟨bodL[j]'(by show j < 12; omega), List.getElem?_eq_getElem _⟩
    obtain ⟨b, x0, x1, hwr⟩ := H1.out.2.1 j c m K hbl
    have ht := told_at hbl
    have c0 := H3.out.cell x0 (fun h => h)
    have c1 := H3.out.cell x1 (fun h => h)
    have ec : IntKind.u64.wrap c = c := IntWalk.u64_in c (by omega)
    have HW := Lib.hid (And.intro (hwr.keep H3.out) ht.1)
    clear hw hbl x0 x1 hwr ht
    go_wp2_with (first
      | (go_at_call 6; go_must (refine (HW.out.1 _ _ ((Kept.refl Nope w3).alloc _) (Nat.le_refl _) ⟨0, Blk.new _ _ _, by decide, by decide⟩).mono ?_; rintro e w4 ⟨x, bs, A, rfl, hA, hB, hcb, hl, hk2⟩; have hk34 : Kept Nope w3 w4 := (((Kept.refl Nope w3).alloc _).nope.trans' hk2).ofNew fun i e => Nat.le_of_eq (Eq.symm e); have H4 := Lib.hid (And.intro hk34 (And.intro ((BSl.ofOwn hB).mono (S' := Any_) fun _ _ _ => trivial) (And.intro hcb hl))); clear hA hB hcb hl hk2 hk34))
      | (go_at_call 5; go_must (refine (HW.out.2 _ _ _ H4.out.2.1 H4.out.2.2.1 H4.out.2.2.2 (HE.out.nope (H1.out.1.trans' (H3.out.trans' H4.out.1)))).mono ?_; rintro e w5 ⟨rfl, hk5⟩; have c5 := (H4.out.1.trans' hk5).cell c0 (fun h => h); have H5 := Lib.hid (H4.out.1.trans' hk5); clear hk5)))
    go_ret
    exact ⟨rfl, H1.out.1.trans' (H3.out.trans' H5.out)⟩
  · by_cases h0 : which < 0
    · go_wp2
      go_ret
      exact ⟨rfl, H1.out.1.trans' H3.out⟩
    · have h1 : 12 ≤ which := by omega
      go_wp2
      go_ret
      exact ⟨rfl, H1.out.1.trans' H3.out⟩
end Go.Proofs.YtbckofjoancdjaaGreatDoor
