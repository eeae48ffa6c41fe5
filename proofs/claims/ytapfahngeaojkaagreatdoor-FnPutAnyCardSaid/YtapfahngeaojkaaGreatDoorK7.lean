/- Package spec: fewPacks: how many values there are, taken away from a number; Packs: how many there are. Package spec: Packs: how many values there are. -/
import Derived.Test.YtapfahngeaojkaaGreatDoorK6
namespace Go.Proofs.YtapfahngeaojkaaGreatDoor
open Go Go.RowKit Go.Lib
def FewK (b : Nat) (L : Int) (v : V) (w : World) : Ending → World → Prop := fun e w' => Kept (Only b) w w' ∧
  ((e = .returned (.bool true) ∧ (v.count : Int) ≤ L ∧ Blk w' b 3 #[.int .i64 (L - v.count)]) ∨ (e = .returned (.bool false) ∧ ∃ x, Blk w' b 3 #[.int .i64 x]))
def FewKIH (l : List V) : Prop := ∀ k, k ∈ l → ∀ (b : Nat) (L : Int) (W : World) (y : Value), KAgg (fun c => c ≠ b) W y k → Blk W b 3 #[.int .i64 L] → 0 ≤ L → L ≤ 2000 → Calls Tryz.prog 15 #[y, .pointer (some ⟨b, 0, none⟩)] W (FewK b L k W)
theorem sum_take {l : List V} {k : Nat} {x : V} (h : l[k]? = some x) : sumOf V.count (l.take (k + 1)) = sumOf V.count (l.take k) + x.count := by
  rw [List.take_add_one, h, sumOf_append]
  simp [sumOf]
theorem KNum.count {v : V} (h : KNum v) : v.count = 1 + sumOf V.count v.kids := by rw [v.count_eq, h.2]; simp [sumOf]
set_option maxRecDepth 100000 in
set_option maxHeartbeats 3200000 in
theorem fewPacks_step (v : V) (b : Nat) (L : Int) (w : World) (xa : Value) (ha : KAgg (fun c => c ≠ b) w xa v) (hb : Blk w b 3 #[.int .i64 L]) (h0 : 0 ≤ L) (h1 : L ≤ 2000) (ih1 : FewKIH v.kids) :
    Calls Tryz.prog 15 #[xa, .pointer (some ⟨b, 0, none⟩)] w (FewK b L v w) := by
  obtain ⟨ka, rfl, hna, hka⟩ := ha
  have HCNT := Lib.hid hna.count
  have HKA := Lib.hid hka
  have HI := Lib.hid ih1
  have HB := Lib.hid hb
  obtain ⟨p1, c1, rfl, q1, m1⟩ := hka.form
  have hlm : v.kids.length ≤ maxLen := by omega
  have cba : ∀ o, (w.alloc o).cell? ⟨b, 0, none⟩ = some (.int .i64 L) := fun o => ((Kept.refl Nope w).alloc o).cell (hb.cell 0) (fun h => h)
  have fba : ∀ o, (w.alloc o).frozen? ⟨b, 0, none⟩ = false := fun o => by have h := (hb.alloc o).frozen 0; exact h
  have hbw := hb.lt
  clear hna hka ih1 q1 m1 hb
  unfold maxLen at hlm
  unfold kagg
  obtain ⟨n, hn⟩ : ∃ m, v.kids.length = m := ⟨_, rfl⟩
  rw [hn] at hlm ⊢
  have HL := Lib.hid hn
  clear hn
  have ew : IntKind.i64.wrap (L - 1) = L - 1 := IntWalk.i64_in _ (by omega)
  have hk0 : Kept (Only b) w (((w.alloc (.cells #[Value.int .i64 v.kind, .int .u64 v.num, .string v.text, .int .i64 v.of_, .slice p1 n c1] 26))).setCell ⟨b, 0, none⟩ (.int .i64 (L - 1))) := ((Kept.refl _ _).alloc _).set1 0 _
  have hbb : Blk (((w.alloc (.cells #[Value.int .i64 v.kind, .int .u64 v.num, .string v.text, .int .i64 v.of_, .slice p1 n c1] 26))).setCell ⟨b, 0, none⟩ (.int .i64 (L - 1))) b 3 #[.int .i64 (L - 1)] := by have h := (HB.out.alloc (.cells #[Value.int .i64 v.kind, .int .u64 v.num, .string v.text, .int .i64 v.of_, .slice p1 n c1] 26)).set_ 0 (.int .i64 (L - 1)); simpa using h
  have hbA : Blk (((w.alloc (.cells #[Value.int .i64 v.kind, .int .u64 v.num, .string v.text, .int .i64 v.of_, .slice p1 n c1] 26))).setCell ⟨b, 0, none⟩ (.int .i64 (L - 1))) w.heap.size 26 #[Value.int .i64 v.kind, .int .u64 v.num, .string v.text, .int .i64 v.of_, .slice p1 n c1] := (Blk.new w _ _).far (p := ⟨b, 0, none⟩) (show w.heap.size ≠ b by omega) _
  have HW := Lib.hid (And.intro hk0 (And.intro hbb hbA))
  clear hk0 hbb hbA
  have HBW := Lib.hid hbw
  clear hbw
  by_cases hneg : L - 1 < 0
  · go_enter Tryz.func15, Tryz.ntmps15
    go_wp2
    go_ret
    exact ⟨HW.out.1, .inr ⟨rfl, _, HW.out.2.1⟩⟩
  · have HNEG := Lib.hid hneg
    go_enter Tryz.func15, Tryz.ntmps15
    go_wp2
    generalize (w.alloc (.cells #[Value.int .i64 v.kind, .int .u64 v.num, .string v.text, .int .i64 v.of_, .slice p1 n c1] 26)).setCell ⟨b, 0, none⟩ (.int .i64 (L - 1)) = W2 at HW ⊢
    have HA := Lib.hid (show w.heap.size ≠ b by have := HBW.out; omega)
    generalize w.heap.size = A at HW HA ⊢
    clear hneg cba fba ew
    go_loopw [5] (fun c w' => ∃ k : Nat, k ≤ n ∧ c = .int .i64 k ∧ Hid (Kept (Only b) W2 w' ∧ Blk w' b 3 #[.int .i64 ((L - 1) - sumOf V.count (v.kids.take k))] ∧ (sumOf V.count (v.kids.take k) : Int) ≤ (L - 1))) (fun c _ => n - (RowKit.intOf c).toNat)
    case atStart => exact ⟨0, by omega, rfl, Lib.hid ⟨Kept.refl _ _, (by simpa [sumOf] using HW.out.2.1), (by have h := HNEG.out; simp [sumOf]; omega)⟩⟩
    case round =>
      obtain ⟨k, hk, rfl, HR⟩ := hrel
      have bA := (HW.out.2.2.kept (HR.out.1) (fun e => HA.out e)).cell 4
      simp only [List.getElem?_toArray, List.getElem?_cons_zero, List.getElem?_cons_succ] at bA
      have HKW := Lib.hid (HW.out.1.trans' (HR.out.1))
      by_cases hkn : k < n
      · have hkn' : (k : Int) < (n : Int) := by omega
        have hk0 : (0 : Int) ≤ (k : Int) := by omega
        have e1 : IntKind.i64.wrap ((k : Int) + 1) = (k : Int) + 1 := IntWalk.i64_in _ (by omega)
        obtain ⟨x, hx⟩ : ∃ u, v.kids[k]? = some u := ⟨v.kids[k]'(by rw [HL.out]; exact hkn), List.getElem?_eq_getElem _⟩
        obtain ⟨b2, off2, cap2, pk, ck, q2, -, -, y0, y1, y2, y3, y4, hvx⟩ := (HKA.out.keep HKW.out (fun _ _ h e => h e)).agg hx
        injection q2 with q2 q3 q2'
        clear q3
        subst q2 q2'
        have HX := Lib.hid (And.intro hx hvx)
        clear hx hvx
        go_wp2_with (go_at_call 15; go_must (refine (HI.out x (List.mem_of_getElem? HX.out.1) b _ _ _ HX.out.2 HR.out.2.1 (by have := HR.out.2.2; omega) (by omega)).mono ?_; rintro e w1 ⟨hk1, ⟨rfl, hb1, hb2⟩ | ⟨rfl, xx, hb2⟩⟩; all_goals have H1 := Lib.hid (And.intro hk1 hb2); all_goals clear hk1 hb2))
        · have HB1 := Lib.hid hb1
          clear hb1
          go_roundw
          case rel =>
            have hs := sum_take HX.out.1
            refine ⟨k + 1, by omega, by go_num, Lib.hid ⟨HR.out.1.trans' H1.out.1, ?_, ?_⟩⟩
            · have h := H1.out.2
              have he : (L - 1) - (sumOf V.count (v.kids.take (k + 1)) : Int) = (L - 1) - (sumOf V.count (v.kids.take k) : Int) - (x.count : Int) := by rw [hs]; omega
              rw [he]
              exact h
            · rw [hs]
              have := HB1.out
              omega
          case measure => simp [RowKit.intOf]; omega
        · go_ret
          exact ⟨HKW.out.trans' H1.out.1, .inr ⟨rfl, _, H1.out.2⟩⟩
      · obtain rfl : k = n := by omega
        have hlt : ¬ (k : Int) < (k : Int) := by omega
        go_wp2
        go_ret
        have h1 := HR.out
        rw [List.take_of_length_le (by rw [HL.out]; exact Nat.le_refl _)] at h1
        refine ⟨HKW.out, .inl ⟨rfl, ?_, ?_⟩⟩
        · rw [HCNT.out]; omega
        · have he : L - (v.count : Int) = L - 1 - (sumOf V.count v.kids : Int) := by rw [HCNT.out]; omega
          rw [he]
          exact h1.2.1
theorem fewPacks_any : ∀ (n : Nat) (v : V), SizeOf.sizeOf v ≤ n → ∀ (b : Nat) (L : Int) (W : World) (y : Value), KAgg (fun c => c ≠ b) W y v → Blk W b 3 #[.int .i64 L] → 0 ≤ L → L ≤ 2000 → Calls Tryz.prog 15 #[y, .pointer (some ⟨b, 0, none⟩)] W (FewK b L v W) := by
  intro n
  induction n using Nat.strongRecOn with
  | _ n ih =>
    intro v hn b L W y hy hb h0 h1
    exact fewPacks_step v b L W y hy hb h0 h1 (fun k hk => ih (SizeOf.sizeOf k) (by have := V.sizeOf_kid hk; omega) k (Nat.le_refl _))
end Go.Proofs.YtapfahngeaojkaaGreatDoor
namespace Go.Proofs.YtapfahngeaojkaaGreatDoor
open Go Go.RowKit Go.Lib
def CntP (v : V) (w : World) : Ending → World → Prop := fun e w' => e = .returned (.int .i64 v.count) ∧ Kept Nope w w'
def CntIH (l : List V) : Prop := ∀ k, k ∈ l → ∀ (W : World) (y : Value), KAgg Any_ W y k → k.count ≤ 2000 → Calls Tryz.prog 9 #[y] W (CntP k W)
theorem sum_take_le {l : List V} (k : Nat) : sumOf V.count (l.take k) ≤ sumOf V.count l := by
  have h := sumOf_append V.count (l.take k) (l.drop k)
  rw [List.take_append_drop] at h
  omega
set_option maxRecDepth 100000 in
set_option maxHeartbeats 3200000 in
theorem Packs_step (v : V) (w : World) (xa : Value) (ha : KAgg Any_ w xa v) (hc : v.count ≤ 2000) (ih1 : CntIH v.kids) : Calls Tryz.prog 9 #[xa] w (CntP v w) := by
  obtain ⟨ka, rfl, hna, hka⟩ := ha
  have hcnt := hna.count
  have HCNT := Lib.hid hcnt
  have hsum : sumOf V.count v.kids ≤ 2000 := by omega
  have HS := Lib.hid hsum
  have HKA := Lib.hid hka
  have HI := Lib.hid ih1
  obtain ⟨p1, c1, rfl, q1, m1⟩ := hka.form
  have hlm : v.kids.length ≤ maxLen := by omega
  clear hna hka ih1 q1 m1 hcnt hsum hc
  unfold maxLen at hlm
  unfold kagg
  obtain ⟨n, hn⟩ : ∃ m, v.kids.length = m := ⟨_, rfl⟩
  rw [hn] at hlm ⊢
  have HL := Lib.hid hn
  clear hn
  obtain ⟨A, hA⟩ : ∃ A, w.heap.size = A := ⟨_, rfl⟩
  obtain ⟨W2, hW2⟩ : ∃ W2, w.alloc (.cells #[Value.int .i64 v.kind, .int .u64 v.num, .string v.text, .int .i64 v.of_, .slice p1 n c1] 26) = W2 := ⟨_, rfl⟩
  have hbA := Blk.new w 26 #[Value.int .i64 v.kind, .int .u64 v.num, .string v.text, .int .i64 v.of_, .slice p1 n c1]
  have hk0 := (Kept.refl Nope w).alloc (.cells #[Value.int .i64 v.kind, .int .u64 v.num, .string v.text, .int .i64 v.of_, .slice p1 n c1] 26)
  rw [hW2] at hbA hk0
  rw [hA] at hbA
  have HW := Lib.hid (And.intro hk0 hbA)
  have bA := hbA.cell 4
  simp only [List.getElem?_toArray, List.getElem?_cons_zero, List.getElem?_cons_succ] at bA
  clear hbA hk0
  go_enter Tryz.func9, Tryz.ntmps9
  go_wp2_with fail
  clear hW2 hA bA
  go_loopw [3, 9] (fun t c w' => ∃ k : Nat, k ≤ n ∧ c = .int .i64 k ∧ t = .int .i64 ((1 + sumOf V.count (v.kids.take k) : Nat) : Int) ∧ Hid (Kept Nope W2 w')) (fun _ c _ => n - (RowKit.intOf c).toNat)
  case atStart => exact ⟨0, by omega, rfl, rfl, Lib.hid (Kept.refl _ _)⟩
  case round =>
    obtain ⟨k, hk, rfl, rfl, HR⟩ := hrel
    by_cases hkn : k < n
    · have hkn' : (k : Int) < (n : Int) := by omega
      have hk0 : (0 : Int) ≤ (k : Int) := by omega
      have e1 : IntKind.i64.wrap ((k : Int) + 1) = (k : Int) + 1 := IntWalk.i64_in _ (by omega)
      obtain ⟨x, hx⟩ : ∃ u, v.kids[k]? = some u := ⟨v.kids[k]'(by rw [HL.out]; exact hkn), List.getElem?_eq_getElem _⟩
      obtain ⟨b2, off2, cap2, pk, ck, q2, -, -, y0, y1, y2, y3, y4, hvx⟩ := (HKA.out.keep (HW.out.1.trans' HR.out) (fun _ _ _ h => h)).agg hx
      injection q2 with q2 q3 q2'
      clear q3
      subst q2 q2'
      have hs := sum_take hx
      have hle := sum_take_le (l := v.kids) (k + 1)
      have h2000 := HS.out
      obtain ⟨S, hS⟩ : ∃ S, 1 + sumOf V.count (v.kids.take k) = S := ⟨_, rfl⟩
      have hS1 : S + x.count = 1 + sumOf V.count (v.kids.take (k + 1)) := by omega
      have hS2 : S + x.count ≤ 2001 := by omega
      have hxc : x.count ≤ 2000 := by omega
      have e2 : IntKind.i64.wrap ((S : Int) + (x.count : Int)) = (S : Int) + (x.count : Int) := IntWalk.i64_in _ (by omega)
      rw [hS]
      have HX := Lib.hid (And.intro hx (And.intro hvx (And.intro hS1 hxc)))
      clear hx hvx hs hle h2000 hS hS1 hS2 hxc
      go_wp2_with (go_at_call 9; go_must (refine (HI.out x (List.mem_of_getElem? HX.out.1) _ _ (HX.out.2.1.nope ((Kept.refl _ _).alloc _)) HX.out.2.2.2).mono ?_; rintro e w1 ⟨rfl, hk1⟩; have H1 := Lib.hid hk1; clear hk1))
      go_roundw
      case rel => exact ⟨k + 1, by omega, by go_num, by rw [← HX.out.2.2.1]; go_num, Lib.hid (HR.out.trans' (((Kept.refl _ _).alloc _).trans' H1.out))⟩
      case measure => simp [RowKit.intOf]; omega
    · obtain rfl : k = n := by omega
      have hlt : ¬ (k : Int) < (k : Int) := by omega
      go_wp2
      go_ret
      rw [List.take_of_length_le (by rw [HL.out]; exact Nat.le_refl _)]
      exact ⟨congrArg (fun n : Int => Ending.returned (.int .i64 n)) (show 1 + (sumOf V.count v.kids : Int) = (v.count : Int) by have h := HCNT.out; omega), HW.out.1.trans' HR.out⟩
theorem Packs_any : ∀ (n : Nat) (v : V), SizeOf.sizeOf v ≤ n → ∀ (W : World) (y : Value), KAgg Any_ W y v → v.count ≤ 2000 → Calls Tryz.prog 9 #[y] W (CntP v W) := by
  intro n
  induction n using Nat.strongRecOn with
  | _ n ih =>
    intro v hn W y hy hc
    exact Packs_step v W y hy hc (fun k hk => ih (SizeOf.sizeOf k) (by have := V.sizeOf_kid hk; omega) k (Nat.le_refl _))
end Go.Proofs.YtapfahngeaojkaaGreatDoor
