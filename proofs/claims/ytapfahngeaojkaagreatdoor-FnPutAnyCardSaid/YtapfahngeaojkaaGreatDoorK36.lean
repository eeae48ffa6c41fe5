/- What FnPutAny calls: few, zzFits17, copied, PackFits, PutAny. -/
import Derived.Test.YtapfahngeaojkaaGreatDoorK8
import Derived.Test.YtapfahngeaojkaaGreatDoorK18
import Derived.Test.YtapfahngeaojkaaGreatDoorK19
namespace Go.Proofs.YtapfahngeaojkaaGreatDoor
open Go Go.RowKit Go.Lib
def YesNo (R : Prop) (w : World) : Ending → World → Prop := fun e w' => ∃ b, e = .returned (.bool b) ∧ (b = true → R) ∧ Kept Nope w w'
theorem knums {S : Nat → Prop} {w : World} {s : Value} {l : List V} (h : KSl S w s l) : ∀ v ∈ l, Nums v := by
  induction h with
  | nil a cap hc => intro v hv; cases hv
  | mk b off cap l ks hb hl hc hm hcell _ ihk =>
    intro v hv
    obtain ⟨i, hi⟩ := List.mem_iff_getElem?.1 hv
    obtain ⟨h1, h2⟩ := (hcell i v hi).1
    exact .mk h2 h1.num.1 (by have := h1.num.2; omega) (ihk i v hi)
theorem KAgg.nums {S : Nat → Prop} {w : World} {x : Value} {v : V} (h : KAgg S w x v) : Nums v := by
  obtain ⟨_, _, hn, h1⟩ := h
  exact .mk hn.2 hn.1.num.1 (by have := hn.1.num.2; omega) (knums h1)
theorem proom_le : ∀ (n : Nat) (v : V), SizeOf.sizeOf v ≤ n → ∀ L, PFits L v → Nums v → v.room ≤ v.count * 131092 := by
  intro n
  induction n using Nat.strongRecOn with
  | _ n ih =>
    intro v hn L hf hnu
    have hsz := hf.own.size
    have hds : v.desc = [] := by cases hnu; assumption
    have hk : sumOf V.room v.kids ≤ sumOf V.count v.kids * 131092 := by
      have hall : ∀ k ∈ v.kids, k.room ≤ k.count * 131092 := by
        intro k hk
        cases hf with
        | mk _ hfk =>
          cases hnu with
          | mk _ _ _ hnk => exact ih (SizeOf.sizeOf k) (by have := V.sizeOf_kid hk; omega) k (Nat.le_refl _) _ (hfk k hk) (hnk k hk)
      clear ih hn hf hnu hsz hds
      generalize v.kids = l at hall
      induction l with
      | nil => simp [sumOf]
      | cons a l ihl =>
        have h1 := hall a (by simp)
        have h2 := ihl (fun k hk => hall k (by simp [hk]))
        simp only [sumOf]
        omega
    rw [V.room_eq, V.count_eq, hds]
    simp only [sumOf]
    omega
theorem few_ok (w : World) (p : Option Addr) (n c : Nat) (hn : n ≤ 9223372036854775807) : Calls Tryz.prog 6 #[.slice p n c] w (YesNo (n ≤ 200) w) := by
  by_cases h : n ≤ 200
  · have h1 : (n : Int) ≤ 200 := by omega
    have HH := Lib.hid h
    clear h
    go_enter Tryz.func6, Tryz.ntmps6
    go_wp2
    go_ret
    exact ⟨true, rfl, fun _ => HH.out, Kept.refl _ _⟩
  · have h1 : ¬ (n : Int) ≤ 200 := by omega
    clear h
    go_enter Tryz.func6, Tryz.ntmps6
    go_wp2
    go_ret
    exact ⟨false, rfl, (fun h => by cases h), Kept.refl _ _⟩
set_option maxRecDepth 100000 in
set_option maxHeartbeats 1600000 in
theorem zzFits17_ok (v : V) (w : World) (xa : Value) (ha : KAgg Any_ w xa v) : Calls Tryz.prog 4 #[xa] w (YesNo True w) := by
  obtain ⟨ka, rfl, hna, hka⟩ := ha
  obtain ⟨p1, c1, rfl, q1, m1⟩ := hka.form
  unfold kagg
  have hl1 : v.text.size ≤ maxLen := hna.1.text
  have hl2 : v.kids.length ≤ maxLen := by omega
  unfold maxLen at hl1 hl2
  obtain ⟨t, ht⟩ : ∃ t, v.text = t := ⟨_, rfl⟩
  obtain ⟨n, hn⟩ : ∃ n, v.kids.length = n := ⟨_, rfl⟩
  rw [ht] at hl1 ⊢
  rw [hn] at hl2 ⊢
  clear hna hka q1 m1 ht hn
  by_cases h1 : 2147483647 < t.size
  · have g1 : (2147483647 : Int) < (t.size : Int) := by omega
    go_enter Tryz.func4, Tryz.ntmps4
    go_wp2
    go_ret
    exact ⟨false, rfl, fun _ => trivial, (Kept.refl Nope w).alloc _⟩
  · have g1 : ¬ (2147483647 : Int) < (t.size : Int) := by omega
    by_cases h2 : 2147483647 < n
    · have g2 : (2147483647 : Int) < (n : Int) := by omega
      go_enter Tryz.func4, Tryz.ntmps4
      go_wp2
      go_ret
      exact ⟨false, rfl, fun _ => trivial, (Kept.refl Nope w).alloc _⟩
    · have g2 : ¬ (2147483647 : Int) < (n : Int) := by omega
      go_enter Tryz.func4, Tryz.ntmps4
      go_wp2
      go_ret
      exact ⟨true, rfl, fun _ => trivial, (Kept.refl Nope w).alloc _⟩
set_option maxRecDepth 100000 in
set_option maxHeartbeats 800000 in
theorem icopied_ok (S : Nat → Prop) (w : World) (s : Value) (bs : List UInt8) (hs : BSl S w s bs) (hl : bs.length ≤ 549755813888) :
    Calls Tryz.prog 14 #[s] w (fun e w' => ∃ x, e = .returned x ∧ BRow (fun b => w.heap.size ≤ b) w' x bs ∧ Kept Nope w w') := by
  obtain ⟨i1, hi, hz0, hz1, hz2⟩ := info_parts info_u8
  have HS := Lib.hid hs
  have HL := Lib.hid hl
  have hown0 : (w.alloc (.cells #[] 5)).ownsRow w.heap.size 5 1 (.slice (some ⟨w.heap.size, 0, none⟩) 0 0) 0 [] := World.ownsRow_made w #[] 0 (Nat.le_refl _) (by simp [maxLen]) rfl
  have HO := Lib.hid hown0
  obtain ⟨a, c, rfl, _⟩ := hs
  clear hl hown0
  go_enter Tryz.func14, Tryz.ntmps14
  go_wp2_with (at_builtin; go_must (refine wpList_append_c _ rfl (.tmp 3) (.tmp 4) 22 rfl w.heap.size 5 i1 _ 1 1 Tryz.underlying22 hi hz0 hz1 hz2 rfl (by omega) _ _ _ rfl HO.out S _ _ _ rfl (HS.out.keep ((Kept.refl Nope w).alloc _) (fun _ _ _ h => h)).toC (by intro u hu; obtain ⟨x, _, rfl⟩ := List.mem_map.1 hu; rfl) (by have := HL.out; simp only [maxLen]; omega) (by have := HL.out; omega) (by rw [World.size_alloc]; omega) ?_; intro v4 w4 hown hgrow hblk; have HN := Lib.hid (And.intro hown (And.intro hgrow hblk)); clear hown hgrow hblk))
  go_ret
  have h1 := HN.out.1
  rw [Nat.zero_add, List.nil_append] at h1
  refine ⟨_, rfl, ⟨?_, fun k hk => (h1.lt k hk).1⟩, ?_⟩
  · refine ⟨h1.1, ?_⟩
    rcases h1.2 with h | ⟨g, cap, cur, e, h3, h4⟩
    · exact .inl h
    · exact .inr ⟨g, cap, cur, e, Nat.zero_le _, h4⟩
  have hg : (w.alloc (.cells #[] 5)).grownBy w4 (some w.heap.size) := HN.out.2.1
  exact ((Kept.refl Nope w).alloc _).grown hg fun k hk => .inr (by injection hk with hk; omega)
set_option maxRecDepth 100000 in
set_option maxHeartbeats 1600000 in
theorem PackFits_ok (v : V) (w : World) (xa : Value) (ha : KAgg Any_ w xa v) : Calls Tryz.prog 7 #[xa, .int .i64 6] w (YesNo (v.count ≤ 2000 ∧ PFits 6 v) w) := by
  have HA := Lib.hid (ha.mono (S' := fun b => b < w.heap.size) fun b hb _ => hb)
  obtain ⟨ka, rfl, hna, hka⟩ := ha
  obtain ⟨p1, c1, rfl, q1, m1⟩ := hka.form
  unfold kagg at HA ⊢
  have hB1 := (Blk.new w 26 #[Value.int .i64 v.kind, .int .u64 v.num, .string v.text, .int .i64 v.of_, .slice p1 v.kids.length c1]).alloc (.cells #[.int .i64 2000] 3)
  have hB2 := Blk.new (w.alloc (.cells #[Value.int .i64 v.kind, .int .u64 v.num, .string v.text, .int .i64 v.of_, .slice p1 v.kids.length c1] 26)) 3 #[.int .i64 2000]
  rw [World.size_alloc] at hB2
  have HW := Lib.hid (And.intro hB1 (And.intro hB2 (((Kept.refl Nope w).alloc (.cells #[Value.int .i64 v.kind, .int .u64 v.num, .string v.text, .int .i64 v.of_, .slice p1 v.kids.length c1] 26)).alloc (.cells #[.int .i64 2000] 3))))
  clear hna hka q1 m1 hB1 hB2
  go_enter Tryz.func7, Tryz.ntmps7
  go_wp2_with (first
    | (go_at_call 15; go_must (refine (fewPacks_any _ v (Nat.le_refl _) (w.heap.size + 1) 2000 _ _ ((HA.out.nope HW.out.2.2).mono fun b _ h => by omega) HW.out.2.1 (by omega) (by omega)).mono ?_; rintro e w1 ⟨hk1, hc1⟩; have hb1 := HW.out.1.kept hk1 (fun e => by have e' : w.heap.size = w.heap.size + 1 := e; omega); have a0 := hb1.cell 0; have a1 := hb1.cell 1; have a2 := hb1.cell 2; have a3 := hb1.cell 3; have a4 := hb1.cell 4; simp only [List.getElem?_toArray, List.getElem?_cons_zero, List.getElem?_cons_succ] at a0 a1 a2 a3 a4; have H1 := Lib.hid (HW.out.2.2.trans hk1 (fun b hb e => by have e' : b = w.heap.size + 1 := e; omega)); clear hk1 hb1; rcases hc1 with ⟨rfl, hcnt, -⟩ | ⟨rfl, -⟩))
    | (go_at_call 16; go_must (refine (packFits_any _ v (Nat.le_refl _) 6 _ _ (by omega) ((HA.out.mono fun _ _ _ => trivial).nope H1.out)).mono ?_; rintro e w2 ⟨b2, rfl, hf2, hk2⟩; have H2 := Lib.hid (And.intro hf2 hk2); clear hf2 hk2)))
  · go_ret
    exact ⟨b2, rfl, fun h => ⟨by omega, H2.out.1 h⟩, H1.out.trans' H2.out.2⟩
  · go_ret
    exact ⟨false, rfl, (fun h => by cases h), H1.out⟩
set_option maxRecDepth 100000 in
set_option maxHeartbeats 1600000 in
theorem PutAny_ok (v : V) (L : Nat) (S : Nat → Prop) (w : World) (s xa : Value) (bs : List UInt8) (hs : BSl S w s bs) (hl : bs.length ≤ 4294967296) (ha : KAgg Any_ w xa v) (hf : PFits L v) (hp : PPlain v) (hc : v.count ≤ 2000) :
    Calls Tryz.prog 5 #[s, xa] w (fun e w' => ∃ x ds, e = .returned (.tuple #[x, .bool true]) ∧ PutS v ds ∧ BSl (fun b => w.heap.size ≤ b) w' x (bs ++ ds) ∧ Kept Nope w w') := by
  have hnu := ha.nums
  have hrm := proom_le _ v (Nat.le_refl _) L hf hnu
  have HA := Lib.hid ha
  have HF := Lib.hid (And.intro hf (And.intro hp (And.intro hnu (show v.room ≤ 262184000 by omega))))
  have HS := Lib.hid (And.intro hs hl)
  obtain ⟨ka, rfl, hna, hka⟩ := ha
  obtain ⟨p1, c1, rfl, q1, m1⟩ := hka.form
  unfold kagg at HA ⊢
  obtain ⟨ps, cs, rfl, _⟩ := hs
  clear hnu hrm hf hp hc hna hka q1 m1 hl
  go_enter Tryz.func5, Tryz.ntmps5
  go_wp2_with (first
    | (go_at_call 12; go_must (refine (unpacked_any _ v (Nat.le_refl _) L HF.out.1 HF.out.2.1 HF.out.2.2.1 _ _ (HA.out.nope ((Kept.refl _ _).alloc _))).mono ?_; rintro e w1 ⟨y, rfl, hu, hk⟩; have H1 := Lib.hid (And.intro hu (((Kept.refl Nope w).alloc _).trans' hk)); clear hu hk))
    | (go_at_call 14; go_must (refine (icopied_ok S _ _ bs (HS.out.1.keep H1.out.2 (fun _ _ _ h => h)) (by have := HS.out.2; omega)).mono ?_; rintro e w2 ⟨x2, rfl, hr, hk⟩; have H2 := Lib.hid (And.intro hr hk); clear hr hk))
    | (go_at_call 13; go_must (refine (Intf_any _ v (Nat.le_refl _) L HF.out.1 HF.out.2.1 HF.out.2.2.1 (fun b => w1.heap.size ≤ b) _ _ _ bs ((H1.out.1.mono (S' := fun b => ¬ w1.heap.size ≤ b) fun b hb _ => by omega).nope H2.out.2) H2.out.1 (by have := HS.out.2; have := HF.out.2.2.2; omega) (fun k h => Nat.le_trans H2.out.2.size h)).mono ?_; rintro e w3 ⟨x3, ds, rfl, hp3, hr3, hk3⟩; have H3 := Lib.hid (And.intro hp3 (And.intro hr3 hk3)); clear hp3 hr3 hk3)))
  go_ret2
  refine ⟨x3, ds, rfl, H3.out.1, H3.out.2.1.bsl.mono fun b _ h => Nat.le_trans H1.out.2.size h, (H1.out.2.trans' H2.out.2).trans H3.out.2.2 fun b hb h => ?_⟩
  have := H1.out.2.size
  have h' : w1.heap.size ≤ b := h
  omega
end Go.Proofs.YtapfahngeaojkaaGreatDoor
