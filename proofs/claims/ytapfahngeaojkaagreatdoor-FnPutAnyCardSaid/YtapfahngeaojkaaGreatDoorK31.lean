/- Package spec: TakePack: coded. -/
import Derived.Test.YtapfahngeaojkaaGreatDoorK30
namespace Go.Proofs.YtapfahngeaojkaaGreatDoor
open Go Go.RowKit Go.Lib
set_option maxRecDepth 100000 in
set_option maxHeartbeats 3200000 in
theorem tp_coded (S : Nat → Prop) (w : World) (s : Value) (x : UInt8) (E : List UInt8) (b : Nat) (L : Int) (hs : BSl S w s (x :: E)) (hx : x.toNat = b) (hb : 192 ≤ b ∧ b ≤ 223) (hL : 1 ≤ L ∧ L ≤ 1000) (r : V) (D2 : List UInt8) (hkk : ∀ (S : Nat → Prop) (W : World) (y : Value), BSl S W y E → Calls Tryz.prog 19 #[.int .i64 b, y, .int .i64 L] W (TakeK S r D2 W)) :
    Calls Tryz.prog 10 #[s, .int .i64 L] w (TakeK S r D2 w) := by
  have hs2 : BSl (fun i => S i ∧ i < w.heap.size) w s (x :: E) := hs.mono fun i h1 h2 => ⟨h2, h1⟩
  obtain ⟨g, off, c, e, -, hc1, hc2, hcell⟩ := hs2.at_ (j := 0) (x := x) rfl
  subst e
  have hrest := BSl.from_ hs2 (l := 1) (by simp)
  have hd : (x :: E).drop 1 = E := rfl
  rw [hd] at hrest
  rw [List.length_cons] at hrest hc1 ⊢
  have hn1 : E.length + 1 - 1 = E.length := by omega
  rw [hn1] at hrest
  unfold u8 at hcell
  rw [hx, Nat.add_zero] at hcell
  have z1 : ((E.length : Int) + 1 == 0) = false := by simp; omega
  have z2 : ¬ L ≤ 0 := by omega
  have z3 : decide (L ≤ 0) = false := by simp; omega
  have l128 : ¬ (b : Int) < 128 := by omega
  have l144 : ¬ (b : Int) < 144 := by omega
  have l160 : ¬ (b : Int) < 160 := by omega
  have l192 : ¬ (b : Int) < 192 := by omega
  have g224 : ¬ 224 ≤ (b : Int) := by omega
  have HKK := Lib.hid hkk
  have HC := Lib.hid (And.intro hcell hrest)
  clear hs hs2 hrest hcell hd
  by_cases hc : c = 1
  · subst hc
    go_enter Tryz.func10, Tryz.ntmps10
    go_wp2_with fail
    obtain ⟨W2, hW2⟩ : ∃ W2, (w.alloc (.cells #[.int .i64 0, .int .u64 0, .string ⟨#[]⟩, .int .i64 0, .slice none 0 0] 26)).alloc (.cells #[.int .i64 0, .int .u64 0, .string ⟨#[]⟩, .int .i64 0, .slice none 0 0] 26) = W2 := ⟨_, rfl⟩
    have h2 := Blk.two w #[.int .i64 0, .int .u64 0, .string ⟨#[]⟩, .int .i64 0, .slice none 0 0] #[.int .i64 0, .int .u64 0, .string ⟨#[]⟩, .int .i64 0, .slice none 0 0] 26
    rw [hW2] at h2
    obtain ⟨P, hP⟩ : ∃ P, w.heap.size = P := ⟨_, rfl⟩
    rw [hP] at h2
    have hrest := (HC.out.2.keep h2.2.2 fun _ _ _ h => h).keep ((Kept.refl Nope W2).drew) fun _ _ _ h => h
    have HT := Lib.hid (And.intro h2 (And.intro hP hrest))
    have hcw : W2.cell? ⟨g, off, none⟩ = some (.int .u8 (b : Int)) := h2.2.2.cell HC.out.1 (fun h => h)
    have q0 := h2.1.drew.cell 0
    have q1 := h2.1.drew.cell 1
    have q2 := h2.1.drew.cell 2
    have q3 := h2.1.drew.cell 3
    have q4 := h2.1.drew.cell 4
    have qf := fun t => h2.1.drew.frozen t
    simp only [List.getElem?_toArray, List.getElem?_cons_zero, List.getElem?_cons_succ] at q0 q1 q2 q3 q4
    clear hrest h2
    rw [hW2, hP]
    clear hW2 hP
    go_region_with (fail)
    go_wp2_with (go_at_call 19; go_must (refine (HKK.out _ _ _ HT.out.2.2).mono ?_; rintro e w4 ⟨x4, y4, rfl, hx4, hy4, hk4⟩; obtain ⟨ks4, rfl, hx4⟩ := hx4; obtain ⟨p4, c4, rfl, _, _⟩ := hx4.2.form; clear q0 q1 q2 q3 q4 qf; have hb4 := HT.out.1.1.drew.kept hk4 (fun h => h); have H4 := Lib.hid (And.intro hy4 (And.intro hk4 (And.intro hb4 hx4))); have q0 := hb4.cell 0; have q1 := hb4.cell 1; have q2 := hb4.cell 2; have q3 := hb4.cell 3; have q4 := hb4.cell 4; have qf := fun t => hb4.frozen t; simp only [List.getElem?_toArray, List.getElem?_cons_zero, List.getElem?_cons_succ] at q0 q1 q2 q3 q4; clear hy4 hk4 hb4 hx4; unfold kagg))
    all_goals
     have h5 := pack5 H4.out.2.2.1 (.int .i64 r.kind) (.int .u64 r.num) (.string r.text) (.int .i64 r.of_) (.slice p4 r.kids.length c4)
     have hkw := ((HT.out.1.2.2.drew.trans' H4.out.2.1).nope.trans' h5.2).ofNew fun i e => (by have e' : i = P := e; have := HT.out.2.1; omega)
     exact bodyPost_ret (ret3p Tryz.results10 _ _ P _ rfl h5.1 rfl) rfl ⟨_, _, rfl, ⟨_, rfl, H4.out.2.2.2.1, (H4.out.2.2.2.2.keep h5.2 (fun i _ h e => by have e1 : i = P := e; have := HT.out.1.1.lt; have h9 : W2.heap.size ≤ i := h; omega)).mono fun i _ h => by have := HT.out.1.2.2.size; have h9 : W2.heap.size ≤ i := h; omega⟩, (H4.out.1.keep h5.2 (fun i _ h e => by have e' : i = P := e; have := HT.out.2.1; omega)).mono fun i _ h => h.1, hkw⟩
  · rw [if_neg hc] at HC
    go_enter Tryz.func10, Tryz.ntmps10
    go_wp2_with fail
    obtain ⟨W2, hW2⟩ : ∃ W2, (w.alloc (.cells #[.int .i64 0, .int .u64 0, .string ⟨#[]⟩, .int .i64 0, .slice none 0 0] 26)).alloc (.cells #[.int .i64 0, .int .u64 0, .string ⟨#[]⟩, .int .i64 0, .slice none 0 0] 26) = W2 := ⟨_, rfl⟩
    have h2 := Blk.two w #[.int .i64 0, .int .u64 0, .string ⟨#[]⟩, .int .i64 0, .slice none 0 0] #[.int .i64 0, .int .u64 0, .string ⟨#[]⟩, .int .i64 0, .slice none 0 0] 26
    rw [hW2] at h2
    obtain ⟨P, hP⟩ : ∃ P, w.heap.size = P := ⟨_, rfl⟩
    rw [hP] at h2
    have hrest := (HC.out.2.keep h2.2.2 fun _ _ _ h => h).keep ((Kept.refl Nope W2).drew) fun _ _ _ h => h
    have HT := Lib.hid (And.intro h2 (And.intro hP hrest))
    have hcw : W2.cell? ⟨g, off, none⟩ = some (.int .u8 (b : Int)) := h2.2.2.cell HC.out.1 (fun h => h)
    have q0 := h2.1.drew.cell 0
    have q1 := h2.1.drew.cell 1
    have q2 := h2.1.drew.cell 2
    have q3 := h2.1.drew.cell 3
    have q4 := h2.1.drew.cell 4
    have qf := fun t => h2.1.drew.frozen t
    simp only [List.getElem?_toArray, List.getElem?_cons_zero, List.getElem?_cons_succ] at q0 q1 q2 q3 q4
    clear hrest h2
    rw [hW2, hP]
    clear hW2 hP
    go_region_with (fail)
    go_wp2_with (go_at_call 19; go_must (refine (HKK.out _ _ _ HT.out.2.2).mono ?_; rintro e w4 ⟨x4, y4, rfl, hx4, hy4, hk4⟩; obtain ⟨ks4, rfl, hx4⟩ := hx4; obtain ⟨p4, c4, rfl, _, _⟩ := hx4.2.form; clear q0 q1 q2 q3 q4 qf; have hb4 := HT.out.1.1.drew.kept hk4 (fun h => h); have H4 := Lib.hid (And.intro hy4 (And.intro hk4 (And.intro hb4 hx4))); have q0 := hb4.cell 0; have q1 := hb4.cell 1; have q2 := hb4.cell 2; have q3 := hb4.cell 3; have q4 := hb4.cell 4; have qf := fun t => hb4.frozen t; simp only [List.getElem?_toArray, List.getElem?_cons_zero, List.getElem?_cons_succ] at q0 q1 q2 q3 q4; clear hy4 hk4 hb4 hx4; unfold kagg))
    all_goals
     have h5 := pack5 H4.out.2.2.1 (.int .i64 r.kind) (.int .u64 r.num) (.string r.text) (.int .i64 r.of_) (.slice p4 r.kids.length c4)
     have hkw := ((HT.out.1.2.2.drew.trans' H4.out.2.1).nope.trans' h5.2).ofNew fun i e => (by have e' : i = P := e; have := HT.out.2.1; omega)
     exact bodyPost_ret (ret3p Tryz.results10 _ _ P _ rfl h5.1 rfl) rfl ⟨_, _, rfl, ⟨_, rfl, H4.out.2.2.2.1, (H4.out.2.2.2.2.keep h5.2 (fun i _ h e => by have e1 : i = P := e; have := HT.out.1.1.lt; have h9 : W2.heap.size ≤ i := h; omega)).mono fun i _ h => by have := HT.out.1.2.2.size; have h9 : W2.heap.size ≤ i := h; omega⟩, (H4.out.1.keep h5.2 (fun i _ h e => by have e' : i = P := e; have := HT.out.2.1; omega)).mono fun i _ h => h.1, hkw⟩
end Go.Proofs.YtapfahngeaojkaaGreatDoor
