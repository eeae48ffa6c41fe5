/- Package spec: Plain: it says yes only of plain values. Package spec: Plain of maps. -/
import Derived.Test.YtapfahngeaojkaaGreatDoorK7
import Derived.Test.YtapfahngeaojkaaGreatDoorK3
import Derived.Deep.RegionHeld3
namespace Go.Proofs.YtapfahngeaojkaaGreatDoor
open Go Go.RowKit Go.Lib
def PlnP (v : V) (w : World) : Ending → World → Prop := fun e w' => ∃ b, e = .returned (.bool b) ∧ (b = true → PPlain v) ∧ Kept Nope w w'
def PlnIH (l : List V) : Prop := ∀ k, k ∈ l → ∀ (W : World) (y : Value), KAgg Any_ W y k → Calls Tryz.prog 8 #[y] W (PlnP k W)
set_option maxRecDepth 100000 in
set_option maxHeartbeats 3200000 in
theorem Plain_other (v : V) (w : World) (xa : Value) (ha : KAgg Any_ w xa v) (h9 : ¬ v.kind = 9) (ih1 : PlnIH v.kids) : Calls Tryz.prog 8 #[xa] w (PlnP v w) := by
  obtain ⟨ka, rfl, hna, hka⟩ := ha
  have HKA := Lib.hid hka
  have HI := Lib.hid ih1
  have HN := Lib.hid h9
  obtain ⟨p1, c1, rfl, q1, m1⟩ := hka.form
  have hlm : v.kids.length ≤ maxLen := by omega
  obtain ⟨kd, hkd⟩ : ∃ m, v.kind = m := ⟨_, rfl⟩
  have HKD := Lib.hid hkd
  rw [hkd] at h9
  clear hna hka ih1 q1 m1
  unfold maxLen at hlm
  unfold kagg
  obtain ⟨n, hn⟩ : ∃ m, v.kids.length = m := ⟨_, rfl⟩
  rw [hn] at hlm ⊢
  rw [hkd]
  have HL := Lib.hid hn
  clear hn hkd
  have n9 : (kd != 9) = true := by simpa using h9
  by_cases h10 : kd = 10
  · subst h10
    go_enter Tryz.func8, Tryz.ntmps8
    go_wp2
    go_ret
    exact ⟨false, rfl, (fun h => by cases h), (Kept.refl Nope w).alloc _⟩
  · have n10 : (kd == 10) = false := by simpa using h10
    have HW := Lib.hid (And.intro ((Kept.refl Nope w).alloc (.cells #[Value.int .i64 kd, .int .u64 v.num, .string v.text, .int .i64 v.of_, .slice p1 n c1] 26)) (Blk.new w 26 #[Value.int .i64 kd, .int .u64 v.num, .string v.text, .int .i64 v.of_, .slice p1 n c1]))
    have HT := Lib.hid h10
    go_enter Tryz.func8, Tryz.ntmps8
    go_wp2_with fail
    obtain ⟨A, hA⟩ : ∃ A, w.heap.size = A := ⟨_, rfl⟩
    obtain ⟨W2, hW2⟩ : ∃ W2, w.alloc (.cells #[Value.int .i64 kd, .int .u64 v.num, .string v.text, .int .i64 v.of_, .slice p1 n c1] 26) = W2 := ⟨_, rfl⟩
    rw [hW2, hA] at HW
    rw [hW2, hA]
    clear hW2 hA
    go_loopw [12] (fun c w' => ∃ k : Nat, k ≤ n ∧ c = .int .i64 k ∧ Hid (Kept Nope W2 w') ∧ Hid (∀ u ∈ v.kids.take k, PPlain u)) (fun c _ => n - (RowKit.intOf c).toNat)
    case atStart => exact ⟨0, by omega, rfl, Lib.hid (Kept.refl _ _), Lib.hid (fun u hu => by simp at hu)⟩
    case round =>
      obtain ⟨k, hk, rfl, HR, HP⟩ := hrel
      by_cases hkn : k < n
      · have hkn' : (k : Int) < (n : Int) := by omega
        have hk0 : (0 : Int) ≤ (k : Int) := by omega
        have e1 : IntKind.i64.wrap ((k : Int) + 1) = (k : Int) + 1 := IntWalk.i64_in _ (by omega)
        obtain ⟨x, hx⟩ : ∃ u, v.kids[k]? = some u := ⟨v.kids[k]'(by rw [HL.out]; exact hkn), List.getElem?_eq_getElem _⟩
        obtain ⟨b2, off2, cap2, pk, ck, q2, -, -, y0, y1, y2, y3, y4, hvx⟩ := (HKA.out.keep (HW.out.1.trans' HR.out) (fun _ _ _ h => h)).agg hx
        injection q2 with q2 q3 q2'
        clear q3
        subst q2 q2'
        have HX := Lib.hid (And.intro hx hvx)
        have bA := fun (w1 : World) (h1 : Kept Nope (wr.alloc (.cells #[Value.int .i64 x.kind, .int .u64 x.num, .string x.text, .int .i64 x.of_, .slice pk x.kids.length ck] 26)) w1) => (((HW.out.2.kept HR.out (fun h => h)).alloc _).kept h1 (fun h => h)).cell 0
        have HB := Lib.hid bA
        clear hx hvx bA
        go_wp2_with (go_at_call 8; go_must (refine (HI.out x (List.mem_of_getElem? HX.out.1) _ _ (HX.out.2.nope ((Kept.refl _ _).alloc _))).mono ?_; rintro e w1 ⟨b, rfl, hb, hk1⟩; have c0 := HB.out w1 hk1; simp only [List.getElem?_toArray, List.getElem?_cons_zero] at c0; have H1 := Lib.hid (And.intro hb hk1); clear hb hk1; rcases b))
        · go_ret
          exact ⟨false, rfl, (fun h => by cases h), (HW.out.1.trans' HR.out).trans' (((Kept.refl Nope wr).alloc _).trans' H1.out.2)⟩
        · go_roundw
          case rel =>
            refine ⟨k + 1, by omega, by go_num, Lib.hid (HR.out.trans' (((Kept.refl Nope wr).alloc _).trans' H1.out.2)), Lib.hid fun u hu => ?_⟩
            rw [List.take_add_one, HX.out.1] at hu
            rcases List.mem_append.1 hu with h | h
            · exact HP.out u h
            · simp at h; subst h; exact H1.out.1 trivial
          case measure => simp [RowKit.intOf]; omega
      · obtain rfl : k = n := by omega
        have hlt : ¬ (k : Int) < (k : Int) := by omega
        go_wp2
        go_ret
        refine ⟨true, rfl, fun _ => .mk (by rw [HKD.out]; exact HT.out) (fun u hu => HP.out u ?_) (fun h => absurd h HN.out), HW.out.1.trans' HR.out⟩
        rw [List.take_of_length_le (by rw [HL.out]; exact Nat.le_refl _)]
        exact hu
end Go.Proofs.YtapfahngeaojkaaGreatDoor
namespace Go.Proofs.YtapfahngeaojkaaGreatDoor
open Go Go.RowKit Go.Lib
def Keys (l : List V) (k : Nat) : Prop := ∀ (i : Nat) (x : V), 2 * i < k → l[2 * i]? = some x → x.kind = 6 ∧ ∀ (j : Nat) (y : V), j < i → l[2 * j]? = some y → y.text ≠ x.text
set_option maxRecDepth 100000 in
set_option maxHeartbeats 3200000 in
theorem Plain_map (v : V) (w : World) (xa : Value) (ha : KAgg Any_ w xa v) (h9 : v.kind = 9) (ih1 : PlnIH v.kids) : Calls Tryz.prog 8 #[xa] w (PlnP v w) := by
  obtain ⟨ka, rfl, hna, hka⟩ := ha
  have HKA := Lib.hid hka
  have HI := Lib.hid ih1
  have HN := Lib.hid h9
  obtain ⟨p1, c1, rfl, q1, m1⟩ := hka.form
  have hlm : v.kids.length ≤ maxLen := by omega
  obtain ⟨kd, hkd⟩ : ∃ m, v.kind = m := ⟨_, rfl⟩
  have HKD := Lib.hid hkd
  rw [hkd] at h9
  clear hna hka ih1 q1 m1
  unfold maxLen at hlm
  unfold kagg
  obtain ⟨n, hn⟩ : ∃ m, v.kids.length = m := ⟨_, rfl⟩
  rw [hn] at hlm ⊢
  rw [hkd]
  have HL := Lib.hid hn
  clear hn hkd
  subst h9
  have HW := Lib.hid (And.intro ((Kept.refl Nope w).alloc (.cells #[Value.int .i64 9, .int .u64 v.num, .string v.text, .int .i64 v.of_, .slice p1 n c1] 26)) (Blk.new w 26 #[Value.int .i64 9, .int .u64 v.num, .string v.text, .int .i64 v.of_, .slice p1 n c1]))
  go_enter Tryz.func8, Tryz.ntmps8
  go_wp2_with fail
  obtain ⟨A, hA⟩ : ∃ A, w.heap.size = A := ⟨_, rfl⟩
  obtain ⟨W2, hW2⟩ : ∃ W2, w.alloc (.cells #[Value.int .i64 9, .int .u64 v.num, .string v.text, .int .i64 v.of_, .slice p1 n c1] 26) = W2 := ⟨_, rfl⟩
  rw [hW2, hA] at HW
  rw [hW2, hA]
  clear hW2 hA
  go_loopw [12] (fun c w' => ∃ k : Nat, k ≤ n ∧ c = .int .i64 k ∧ Hid (Kept Nope W2 w') ∧ Hid (∀ u ∈ v.kids.take k, PPlain u) ∧ Hid (Keys v.kids k)) (fun c _ => n - (RowKit.intOf c).toNat)
  case atStart => exact ⟨0, by omega, rfl, Lib.hid (Kept.refl _ _), Lib.hid (fun u hu => by simp at hu), Lib.hid (fun i x h => by omega)⟩
  case round =>
    obtain ⟨k, hk, rfl, HR, HP, HY⟩ := hrel
    by_cases hkn : k < n
    · have hkn' : (k : Int) < (n : Int) := by omega
      have hk0 : (0 : Int) ≤ (k : Int) := by omega
      have e1 : IntKind.i64.wrap ((k : Int) + 1) = (k : Int) + 1 := IntWalk.i64_in _ (by omega)
      obtain ⟨x, hx⟩ : ∃ u, v.kids[k]? = some u := ⟨v.kids[k]'(by rw [HL.out]; exact hkn), List.getElem?_eq_getElem _⟩
      obtain ⟨b2, off2, cap2, pk, ck, q2, -, -, y0, y1, y2, y3, y4, hvx⟩ := (HKA.out.keep (HW.out.1.trans' HR.out) (fun _ _ _ h => h)).agg hx
      injection q2 with q2 q3 q2'
      clear q3
      subst q2 q2'
      have HX := Lib.hid (And.intro hx hvx)
      have bA := fun (w1 : World) (h1 : Kept Nope (wr.alloc (.cells #[Value.int .i64 x.kind, .int .u64 x.num, .string x.text, .int .i64 x.of_, .slice pk x.kids.length ck] 26)) w1) => (((HW.out.2.kept HR.out (fun h => h)).alloc _).kept h1 (fun h => h)).cell 0
      have HB := Lib.hid bA
      clear hx hvx bA
      rcases Nat.mod_two_eq_zero_or_one k with h2 | h2
      · have t1 : (k : Int).tmod 2 = 0 := by rw [Int.tmod_eq_emod_of_nonneg hk0]; omega
        have bB := fun (w1 : World) (h1 : Kept Nope (wr.alloc (.cells #[Value.int .i64 x.kind, .int .u64 x.num, .string x.text, .int .i64 x.of_, .slice pk x.kids.length ck] 26)) w1) => (Blk.new wr 26 #[Value.int .i64 x.kind, .int .u64 x.num, .string x.text, .int .i64 x.of_, .slice pk x.kids.length ck]).kept h1 (fun h => h)
        have HB2 := Lib.hid bB
        clear bB
        by_cases h6 : x.kind = 6
        · have n6 : (x.kind != 6) = false := by simp [h6]
          have H6 := Lib.hid h6
          clear h6
          go_wp2_with (go_at_call 8; go_must (refine (HI.out x (List.mem_of_getElem? HX.out.1) _ _ (HX.out.2.nope ((Kept.refl _ _).alloc _))).mono ?_; rintro e w1 ⟨b, rfl, hb, hk1⟩; have c0 := HB.out w1 hk1; simp only [List.getElem?_toArray, List.getElem?_cons_zero] at c0; have d0 := HB2.out w1 hk1; have d0' := d0.cell 0; have d2' := d0.cell 2; simp only [List.getElem?_toArray, List.getElem?_cons_zero, List.getElem?_cons_succ] at d0' d2'; clear d0; have H1 := Lib.hid (And.intro hb hk1); clear hb hk1; rcases b))
          · go_ret
            exact ⟨false, rfl, (fun h => by cases h), (HW.out.1.trans' HR.out).trans' (((Kept.refl Nope wr).alloc _).trans' H1.out.2)⟩
          · obtain ⟨wo, rfl⟩ : ∃ wo : World, wo = wr := ⟨_, rfl⟩
            have HD0 := Lib.hid d0'
            have HD2 := Lib.hid d2'
            have HC0 := Lib.hid c0
            clear d0' d2' c0
            go_loopw [5] (fun c w' => ∃ j : Nat, 2 * j ≤ k ∧ c = .int .i64 (2 * (j : Int)) ∧ Hid (Kept Nope w1 w') ∧ Hid (∀ (j' : Nat) (y : V), j' < j → v.kids[2 * j']? = some y → y.text ≠ x.text)) (fun c _ => k - (RowKit.intOf c).toNat)
            case atStart => exact ⟨0, by omega, rfl, Lib.hid (Kept.refl _ _), Lib.hid (fun j' y h => by omega)⟩
            case round =>
              obtain ⟨j, hj, rfl, HJ, HU⟩ := hrel
              have d2' := HJ.out.cell HD2.out (fun h => h)
              have d4 := (((((HW.out.2.kept HR.out (fun h => h)).alloc _).kept H1.out.2 (fun h => h)).kept HJ.out (fun h => h))).cell 4
              simp only [List.getElem?_toArray, List.getElem?_cons_zero, List.getElem?_cons_succ] at d4
              by_cases hjk : 2 * j < k
              · have hj1 : 2 * (j : Int) < (k : Int) := by omega
                have hj0 : (0 : Int) ≤ 2 * (j : Int) := by omega
                have hjn : 2 * (j : Int) < (n : Int) := by omega
                have e2 : IntKind.i64.wrap (2 * (j : Int) + 2) = 2 * (j : Int) + 2 := IntWalk.i64_in _ (by omega)
                have t2 : (2 * (j : Int)).toNat = 2 * j := by omega
                obtain ⟨y, hy⟩ : ∃ u, v.kids[2 * j]? = some u := ⟨v.kids[2 * j]'(by rw [HL.out]; omega), List.getElem?_eq_getElem _⟩
                obtain ⟨b3, off3, cap3, pk3, ck3, q3, -, -, z0, z1, z2, z3, z4, hvy⟩ := (HKA.out.keep ((HW.out.1.trans' HR.out).trans' ((((Kept.refl Nope wo).alloc _).trans' H1.out.2).trans' HJ.out)) (fun _ _ _ h => h)).agg hy
                injection q3 with q3 q3m q3'
                injection q3 with q3
                injection q3 with q3a q3b
                subst q3a q3b
                clear q3m q3' hvy z0 z1 z3 z4
                have HZ := Lib.hid hy
                clear hy
                by_cases ht : y.text = x.text
                · have ht1 : (y.text.toList == x.text.toList) = true := by rw [ht]; simp
                  go_wp2_with (go_region_with (fail))
                  all_goals
                    go_ret
                    exact ⟨false, rfl, (fun h => by cases h), (HW.out.1.trans' HR.out).trans' ((((Kept.refl Nope wo).alloc _).trans' H1.out.2).trans' HJ.out.drew)⟩
                · have ht1 : (y.text.toList == x.text.toList) = false := by simpa using text_ne ht
                  have HT := Lib.hid ht
                  clear ht
                  go_wp2_with (go_region_with (fail))
                  all_goals
                    go_roundw
                    case rel =>
                      refine ⟨j + 1, by omega, by go_num, Lib.hid HJ.out.drew, Lib.hid fun j' y' hj' hy' => ?_⟩
                      rcases Nat.lt_or_ge j' j with hlt | hge
                      · exact HU.out j' y' hlt hy'
                      · obtain rfl : j' = j := by omega
                        have h1 := HZ.out
                        rw [hy'] at h1
                        cases h1
                        exact HT.out
                    case measure => simp [RowKit.intOf]; omega
              · have hj1 : ¬ 2 * (j : Int) < (k : Int) := by omega
                go_wp2
                go_roundw
                case rel =>
                  refine ⟨k + 1, by omega, by go_num, Lib.hid (HR.out.trans' ((((Kept.refl Nope wo).alloc _).trans' H1.out.2).trans' HJ.out)), Lib.hid fun u hu => ?_, Lib.hid fun i x' hi hx' => ?_⟩
                  · rw [List.take_add_one, HX.out.1] at hu
                    rcases List.mem_append.1 hu with h | h
                    · exact HP.out u h
                    · simp at h; subst h; exact H1.out.1 trivial
                  · rcases Nat.lt_or_ge (2 * i) k with hlt | hge
                    · exact HY.out i x' hlt hx'
                    · obtain rfl : 2 * i = k := by omega
                      have h1 := HX.out.1
                      rw [hx'] at h1
                      cases h1
                      exact ⟨H6.out, fun j' y hj' hy => HU.out j' y (by omega) hy⟩
                case measure => simp [RowKit.intOf]; omega
        · have n6 : (x.kind != 6) = true := by simpa using h6
          go_wp2_with (go_at_call 8; go_must (refine (HI.out x (List.mem_of_getElem? HX.out.1) _ _ (HX.out.2.nope ((Kept.refl _ _).alloc _))).mono ?_; rintro e w1 ⟨b, rfl, hb, hk1⟩; have c0 := HB.out w1 hk1; simp only [List.getElem?_toArray, List.getElem?_cons_zero] at c0; have d0 := HB2.out w1 hk1; have d0' := d0.cell 0; have d2' := d0.cell 2; simp only [List.getElem?_toArray, List.getElem?_cons_zero, List.getElem?_cons_succ] at d0' d2'; clear d0; have H1 := Lib.hid (And.intro hb hk1); clear hb hk1; rcases b))
          all_goals
            go_ret
            exact ⟨false, rfl, (fun h => by cases h), (HW.out.1.trans' HR.out).trans' (((Kept.refl Nope wr).alloc _).trans' H1.out.2)⟩
      · have t1 : (k : Int).tmod 2 = 1 := by rw [Int.tmod_eq_emod_of_nonneg hk0]; omega
        have HY1 : Hid (Keys v.kids (k + 1)) := Lib.hid fun i y hi hy => HY.out i y (by omega) hy
        go_wp2_with (go_at_call 8; go_must (refine (HI.out x (List.mem_of_getElem? HX.out.1) _ _ (HX.out.2.nope ((Kept.refl _ _).alloc _))).mono ?_; rintro e w1 ⟨b, rfl, hb, hk1⟩; have c0 := HB.out w1 hk1; simp only [List.getElem?_toArray, List.getElem?_cons_zero] at c0; have H1 := Lib.hid (And.intro hb hk1); clear hb hk1; rcases b))
        · go_ret
          exact ⟨false, rfl, (fun h => by cases h), (HW.out.1.trans' HR.out).trans' (((Kept.refl Nope wr).alloc _).trans' H1.out.2)⟩
        · go_roundw
          case rel =>
            refine ⟨k + 1, by omega, by go_num, Lib.hid (HR.out.trans' (((Kept.refl Nope wr).alloc _).trans' H1.out.2)), Lib.hid fun u hu => ?_, HY1⟩
            rw [List.take_add_one, HX.out.1] at hu
            rcases List.mem_append.1 hu with h | h
            · exact HP.out u h
            · simp at h; subst h; exact H1.out.1 trivial
          case measure => simp [RowKit.intOf]; omega
    · obtain rfl : k = n := by omega
      have hlt : ¬ (k : Int) < (k : Int) := by omega
      go_wp2
      go_ret
      refine ⟨true, rfl, fun _ => .mk (by rw [HKD.out]; decide) (fun u hu => HP.out u ?_) (fun _ i x hx => HY.out i x (by have := (List.getElem?_eq_some_iff.1 hx).1; rw [HL.out] at this; exact this) hx), HW.out.1.trans' HR.out⟩
      rw [List.take_of_length_le (by rw [HL.out]; exact Nat.le_refl _)]
      exact hu
theorem Plain_any : ∀ (n : Nat) (v : V), SizeOf.sizeOf v ≤ n → ∀ (W : World) (y : Value), KAgg Any_ W y v → Calls Tryz.prog 8 #[y] W (PlnP v W) := by
  intro n
  induction n using Nat.strongRecOn with
  | _ n ih =>
    intro v hn W y hy
    have hk : PlnIH v.kids := fun k hk => ih (SizeOf.sizeOf k) (by have := V.sizeOf_kid hk; omega) k (Nat.le_refl _)
    by_cases h9 : v.kind = 9
    · exact Plain_map v W y hy h9 hk
    · exact Plain_other v W y hy h9 hk
end Go.Proofs.YtapfahngeaojkaaGreatDoor
