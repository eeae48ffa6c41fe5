/- Package spec: TakePack: fix, neg. -/
import Derived.Test.YtapfahngeaojkaaGreatDoorK30
namespace Go.Proofs.YtapfahngeaojkaaGreatDoor
open Go Go.RowKit Go.Lib
theorem and15_ : ∀ b < 256, bits .and .i64 ((b : Nat) : Int) 15 = ((b % 16 : Nat) : Int) := by decide +kernel
theorem and31_ : ∀ b < 256, bits .and .i64 ((b : Nat) : Int) 31 = ((b % 32 : Nat) : Int) := by decide +kernel
theorem and15 (b : Nat) (hb : b < 256) (k : Nat) (h : b % 16 + k = b) : bits .and .i64 (b : Int) 15 = (b : Int) - (k : Int) := by rw [and15_ b hb]; omega
theorem and31 (b : Nat) (hb : b < 256) (k : Nat) (h : b % 32 + k = b) : bits .and .i64 (b : Int) 31 = (b : Int) - (k : Int) := by rw [and31_ b hb]; omega
set_option maxRecDepth 100000 in
set_option maxHeartbeats 3200000 in
theorem tp_fix (S : Nat → Prop) (w : World) (s : Value) (x : UInt8) (E : List UInt8) (b : Nat) (L : Int) (hs : BSl S w s (x :: E)) (hx : x.toNat = b) (hb : 0 ≤ b ∧ b ≤ 127) (hL : 1 ≤ L ∧ L ≤ 1000) :
    Calls Tryz.prog 10 #[s, .int .i64 L] w (TakeP S (fun x _ => x = .agg #[.int .i64 3, .int .u64 b, .string ⟨#[]⟩, .int .i64 0, .slice none 0 0]) E w) := by
  have hs2 : BSl (fun i => S i ∧ i < w.heap.size) w s (x :: E) := hs.mono fun i h1 h2 => ⟨h2, h1⟩
  obtain ⟨g, off, c, e, -, hc1, hc2, hcell⟩ := hs2.at_ (j := 0) (x := x) rfl
  subst e
  have hrest := BSl.from_ hs2 (l := 1) (by simp)
  have hd : (x :: E).drop 1 = E := rfl
  rw [hd] at hrest
  rw [List.length_cons] at hrest hc1 ⊢
  have hn1 : E.length + 1 - 1 = E.length := by omega
  rw [hn1] at hrest
  unfold u8 at hcell
  rw [hx, Nat.add_zero] at hcell
  have z1 : ((E.length : Int) + 1 == 0) = false := by simp; omega
  have z2 : ¬ L ≤ 0 := by omega
  have z3 : decide (L ≤ 0) = false := by simp; omega
  have l128 : (b : Int) < 128 := by omega
  have f2 : IntKind.u64.wrap (b : Int) = (b : Int) := IntWalk.u64_in _ (by omega)
  have HC := Lib.hid (And.intro hcell hrest)
  clear hs hs2 hrest hcell hd
  by_cases hc : c = 1
  · subst hc
    go_enter Tryz.func10, Tryz.ntmps10
    go_wp2_with fail
    obtain ⟨W2, hW2⟩ : ∃ W2, (w.alloc (.cells #[.int .i64 0, .int .u64 0, .string ⟨#[]⟩, .int .i64 0, .slice none 0 0] 26)).alloc (.cells #[.int .i64 0, .int .u64 0, .string ⟨#[]⟩, .int .i64 0, .slice none 0 0] 26) = W2 := ⟨_, rfl⟩
    have h2 := Blk.two w #[.int .i64 0, .int .u64 0, .string ⟨#[]⟩, .int .i64 0, .slice none 0 0] #[.int .i64 0, .int .u64 0, .string ⟨#[]⟩, .int .i64 0, .slice none 0 0] 26
    rw [hW2] at h2
    obtain ⟨P, hP⟩ : ∃ P, w.heap.size = P := ⟨_, rfl⟩
    rw [hP] at h2
    have hrest := HC.out.2.keep h2.2.2 fun _ _ _ h => h
    have HT := Lib.hid (And.intro h2 (And.intro hP hrest))
    have hcw : W2.cell? ⟨g, off, none⟩ = some (.int .u8 (b : Int)) := h2.2.2.cell HC.out.1 (fun h => h)
    have q0 := h2.1.cell 0
    have q1 := h2.1.cell 1
    have q2 := h2.1.cell 2
    have q3 := h2.1.cell 3
    have q4 := h2.1.cell 4
    have qf := fun t => h2.1.frozen t
    simp only [List.getElem?_toArray, List.getElem?_cons_zero, List.getElem?_cons_succ] at q0 q1 q2 q3 q4
    clear hrest h2
    rw [hW2, hP]
    clear hW2 hP
    go_region_with (fail)
    go_wp2_with (fail)
    all_goals
     have h5 := pack5 HT.out.1.1 (.int .i64 3) (.int .u64 b) (.string ⟨#[]⟩) (.int .i64 0) (.slice none 0 0)
     have hkw := (HT.out.1.2.2.nope.trans' h5.2).ofNew fun i e => (by have e' : i = P := e; have := HT.out.2.1; omega)
     exact bodyPost_ret (ret3p Tryz.results10 _ _ P _ rfl h5.1.drew rfl) rfl ⟨_, _, rfl, rfl, ((HT.out.2.2.keep h5.2 (fun i _ h e => by have e' : i = P := e; have := HT.out.2.1; omega)).mono fun i _ h => h.1).drew, hkw.drew⟩
  · rw [if_neg hc] at HC
    go_enter Tryz.func10, Tryz.ntmps10
    go_wp2_with fail
    obtain ⟨W2, hW2⟩ : ∃ W2, (w.alloc (.cells #[.int .i64 0, .int .u64 0, .string ⟨#[]⟩, .int .i64 0, .slice none 0 0] 26)).alloc (.cells #[.int .i64 0, .int .u64 0, .string ⟨#[]⟩, .int .i64 0, .slice none 0 0] 26) = W2 := ⟨_, rfl⟩
    have h2 := Blk.two w #[.int .i64 0, .int .u64 0, .string ⟨#[]⟩, .int .i64 0, .slice none 0 0] #[.int .i64 0, .int .u64 0, .string ⟨#[]⟩, .int .i64 0, .slice none 0 0] 26
    rw [hW2] at h2
    obtain ⟨P, hP⟩ : ∃ P, w.heap.size = P := ⟨_, rfl⟩
    rw [hP] at h2
    have hrest := HC.out.2.keep h2.2.2 fun _ _ _ h => h
    have HT := Lib.hid (And.intro h2 (And.intro hP hrest))
    have hcw : W2.cell? ⟨g, off, none⟩ = some (.int .u8 (b : Int)) := h2.2.2.cell HC.out.1 (fun h => h)
    have q0 := h2.1.cell 0
    have q1 := h2.1.cell 1
    have q2 := h2.1.cell 2
    have q3 := h2.1.cell 3
    have q4 := h2.1.cell 4
    have qf := fun t => h2.1.frozen t
    simp only [List.getElem?_toArray, List.getElem?_cons_zero, List.getElem?_cons_succ] at q0 q1 q2 q3 q4
    clear hrest h2
    rw [hW2, hP]
    clear hW2 hP
    go_region_with (fail)
    go_wp2_with (fail)
    all_goals
     have h5 := pack5 HT.out.1.1 (.int .i64 3) (.int .u64 b) (.string ⟨#[]⟩) (.int .i64 0) (.slice none 0 0)
     have hkw := (HT.out.1.2.2.nope.trans' h5.2).ofNew fun i e => (by have e' : i = P := e; have := HT.out.2.1; omega)
     exact bodyPost_ret (ret3p Tryz.results10 _ _ P _ rfl h5.1.drew rfl) rfl ⟨_, _, rfl, rfl, ((HT.out.2.2.keep h5.2 (fun i _ h e => by have e' : i = P := e; have := HT.out.2.1; omega)).mono fun i _ h => h.1).drew, hkw.drew⟩
set_option maxRecDepth 100000 in
set_option maxHeartbeats 3200000 in
theorem tp_neg (S : Nat → Prop) (w : World) (s : Value) (x : UInt8) (E : List UInt8) (b : Nat) (L : Int) (hs : BSl S w s (x :: E)) (hx : x.toNat = b) (hb : 224 ≤ b ∧ b ≤ 255) (hL : 1 ≤ L ∧ L ≤ 1000) :
    Calls Tryz.prog 10 #[s, .int .i64 L] w (TakeP S (fun x _ => x = .agg #[.int .i64 2, .int .u64 ((b : Int) + 18446744073709551360), .string ⟨#[]⟩, .int .i64 0, .slice none 0 0]) E w) := by
  have hs2 : BSl (fun i => S i ∧ i < w.heap.size) w s (x :: E) := hs.mono fun i h1 h2 => ⟨h2, h1⟩
  obtain ⟨g, off, c, e, -, hc1, hc2, hcell⟩ := hs2.at_ (j := 0) (x := x) rfl
  subst e
  have hrest := BSl.from_ hs2 (l := 1) (by simp)
  have hd : (x :: E).drop 1 = E := rfl
  rw [hd] at hrest
  rw [List.length_cons] at hrest hc1 ⊢
  have hn1 : E.length + 1 - 1 = E.length := by omega
  rw [hn1] at hrest
  unfold u8 at hcell
  rw [hx, Nat.add_zero] at hcell
  have z1 : ((E.length : Int) + 1 == 0) = false := by simp; omega
  have z2 : ¬ L ≤ 0 := by omega
  have z3 : decide (L ≤ 0) = false := by simp; omega
  have g224 : 224 ≤ (b : Int) := by omega
  have l128 : ¬ (b : Int) < 128 := by omega
  have f1 : IntKind.i8.wrap (b : Int) = (b : Int) - 256 := by simp [IntKind.wrap, IntKind.bits, IntKind.signed]; omega
  have f2 : IntKind.i64.wrap ((b : Int) - 256) = (b : Int) - 256 := IntWalk.i64_in _ (by omega)
  have f3 : IntKind.u64.wrap ((b : Int) - 256) = (b : Int) + 18446744073709551360 := by simp [IntKind.wrap, IntKind.bits, IntKind.signed]; omega
  have HC := Lib.hid (And.intro hcell hrest)
  clear hs hs2 hrest hcell hd
  by_cases hc : c = 1
  · subst hc
    go_enter Tryz.func10, Tryz.ntmps10
    go_wp2_with fail
    obtain ⟨W2, hW2⟩ : ∃ W2, (w.alloc (.cells #[.int .i64 0, .int .u64 0, .string ⟨#[]⟩, .int .i64 0, .slice none 0 0] 26)).alloc (.cells #[.int .i64 0, .int .u64 0, .string ⟨#[]⟩, .int .i64 0, .slice none 0 0] 26) = W2 := ⟨_, rfl⟩
    have h2 := Blk.two w #[.int .i64 0, .int .u64 0, .string ⟨#[]⟩, .int .i64 0, .slice none 0 0] #[.int .i64 0, .int .u64 0, .string ⟨#[]⟩, .int .i64 0, .slice none 0 0] 26
    rw [hW2] at h2
    obtain ⟨P, hP⟩ : ∃ P, w.heap.size = P := ⟨_, rfl⟩
    rw [hP] at h2
    have hrest := HC.out.2.keep h2.2.2 fun _ _ _ h => h
    have HT := Lib.hid (And.intro h2 (And.intro hP hrest))
    have hcw : W2.cell? ⟨g, off, none⟩ = some (.int .u8 (b : Int)) := h2.2.2.cell HC.out.1 (fun h => h)
    have q0 := h2.1.cell 0
    have q1 := h2.1.cell 1
    have q2 := h2.1.cell 2
    have q3 := h2.1.cell 3
    have q4 := h2.1.cell 4
    have qf := fun t => h2.1.frozen t
    simp only [List.getElem?_toArray, List.getElem?_cons_zero, List.getElem?_cons_succ] at q0 q1 q2 q3 q4
    clear hrest h2
    rw [hW2, hP]
    clear hW2 hP
    go_region_with (fail)
    go_wp2_with (fail)
    all_goals
     have h5 := pack5 HT.out.1.1 (.int .i64 2) (.int .u64 ((b : Int) + 18446744073709551360)) (.string ⟨#[]⟩) (.int .i64 0) (.slice none 0 0)
     have hkw := (HT.out.1.2.2.nope.trans' h5.2).ofNew fun i e => (by have e' : i = P := e; have := HT.out.2.1; omega)
     exact bodyPost_ret (ret3p Tryz.results10 _ _ P _ rfl h5.1.drew rfl) rfl ⟨_, _, rfl, rfl, ((HT.out.2.2.keep h5.2 (fun i _ h e => by have e' : i = P := e; have := HT.out.2.1; omega)).mono fun i _ h => h.1).drew, hkw.drew⟩
  · rw [if_neg hc] at HC
    go_enter Tryz.func10, Tryz.ntmps10
    go_wp2_with fail
    obtain ⟨W2, hW2⟩ : ∃ W2, (w.alloc (.cells #[.int .i64 0, .int .u64 0, .string ⟨#[]⟩, .int .i64 0, .slice none 0 0] 26)).alloc (.cells #[.int .i64 0, .int .u64 0, .string ⟨#[]⟩, .int .i64 0, .slice none 0 0] 26) = W2 := ⟨_, rfl⟩
    have h2 := Blk.two w #[.int .i64 0, .int .u64 0, .string ⟨#[]⟩, .int .i64 0, .slice none 0 0] #[.int .i64 0, .int .u64 0, .string ⟨#[]⟩, .int .i64 0, .slice none 0 0] 26
    rw [hW2] at h2
    obtain ⟨P, hP⟩ : ∃ P, w.heap.size = P := ⟨_, rfl⟩
    rw [hP] at h2
    have hrest := HC.out.2.keep h2.2.2 fun _ _ _ h => h
    have HT := Lib.hid (And.intro h2 (And.intro hP hrest))
    have hcw : W2.cell? ⟨g, off, none⟩ = some (.int .u8 (b : Int)) := h2.2.2.cell HC.out.1 (fun h => h)
    have q0 := h2.1.cell 0
    have q1 := h2.1.cell 1
    have q2 := h2.1.cell 2
    have q3 := h2.1.cell 3
    have q4 := h2.1.cell 4
    have qf := fun t => h2.1.frozen t
    simp only [List.getElem?_toArray, List.getElem?_cons_zero, List.getElem?_cons_succ] at q0 q1 q2 q3 q4
    clear hrest h2
    rw [hW2, hP]
    clear hW2 hP
    go_region_with (fail)
    go_wp2_with (fail)
    all_goals
     have h5 := pack5 HT.out.1.1 (.int .i64 2) (.int .u64 ((b : Int) + 18446744073709551360)) (.string ⟨#[]⟩) (.int .i64 0) (.slice none 0 0)
     have hkw := (HT.out.1.2.2.nope.trans' h5.2).ofNew fun i e => (by have e' : i = P := e; have := HT.out.2.1; omega)
     exact bodyPost_ret (ret3p Tryz.results10 _ _ P _ rfl h5.1.drew rfl) rfl ⟨_, _, rfl, rfl, ((HT.out.2.2.keep h5.2 (fun i _ h e => by have e' : i = P := e; have := HT.out.2.1; omega)).mono fun i _ h => h.1).drew, hkw.drew⟩
end Go.Proofs.YtapfahngeaojkaaGreatDoor
