/- Package encoding: the heads of lists, arrays and maps; a null. Package encoding: the heads of lists, arrays and maps; the long heads. Package encoding: heads of maps; an empty list; other codes; a null. -/
import Derived.Test.YtbckofjoancdjaaGreatDoorK9
namespace Go.Proofs.YtbckofjoancdjaaGreatDoor
open Go Go.RowKit Go.Lib
theorem At_.drew {w w' : World} {r : Nat} {s : Value} {D : List UInt8} {j : Nat} (h : At_ w w' r s D j) : At_ w w'.drew r s D j := h.drewN 1
section
variable (r : Nat) (s : Value) (D : List UInt8) (i : Nat) (w : World)
set_option maxRecDepth 100000 in
set_option maxHeartbeats 800000 in
theorem readListHeader_1 (x0 x1 : UInt8) (h : Buf w r s D i) (hc : D[i]? = some 192) (h0 : D[i + 1]? = some x0) (h1 : D[i + 2]? = some x1) (hl : i + 2 + x0.toNat ≤ D.length) (hm : x1.toNat + 1 ≤ x0.toNat) :
    Calls Tryz.prog 101 #[.pointer (some ⟨r, 0, none⟩)] w fun e w' => e = .returned (.tuple #[.int .i64 x1.toNat, .nilIface]) ∧ At_ w w' r s D (i + 3) := by
    have ht := readType_yes r s D i w _ h hc
    have HT := Lib.hid ht
    have hx0 := x0.toNat_lt
    have hx1 := x1.toNat_lt
    have HX := Lib.hid (And.intro h0 h1)
    have hle := h.le
    have hsm := h.small
    clear ht h hc h0 h1
    have e1 : IntKind.i64.wrap ((D.length : Int) - ↑(i + 1) - 1) = (D.length : Int) - ↑(i + 1) - 1 := IntWalk.i64_in _ (by omega)
    go_enter Tryz.func101, Tryz.ntmps101
    go_wp2_with ((go_at_call 99; go_must (refine HT.out.mono ?_; rintro e w1 ⟨rfl, hA1⟩; have H1 := Lib.hid hA1; clear hA1)))
    go_wp2_with ((go_at_call 45; go_must (refine (Len_any r s D (i + 1) _ H1.out.buf).mono ?_; rintro e w2 ⟨rfl, k2, rfl⟩; have H2 := Lib.hid (H1.out.drewN k2))))
    go_wp2_with ((go_at_call 142; go_must (refine (Next_at r s D (i + 1) _ 2 H2.out.buf (by omega) (by omega)).mono ?_; rintro e w3 ⟨v, b, rfl, rfl, ⟨g, off, c4, rfl, hg, hgc, hcm, hcell⟩, hA2⟩; have q0 := hcell 0 x0 (by omega) (by exact HX.out.1); have q1 := hcell 1 x1 (by omega) (by exact HX.out.2); rw [Nat.add_zero] at q0; clear hcell; have H3 := Lib.hid (H2.out.trans hA2); clear hA2 hg hcm)))
    go_ret2
    exact ⟨rfl, H3.out⟩
set_option maxRecDepth 100000 in
set_option maxHeartbeats 800000 in
theorem readListHeader_1_cut0 (h : Buf w r s D i) (hc : D[i]? = some 192) (hl : D.length < i + 3) :
    Calls Tryz.prog 101 #[.pointer (some ⟨r, 0, none⟩)] w (Fails w r) := by
    have ht := readType_yes r s D i w _ h hc
    have HT := Lib.hid ht
    clear ht h hc
    go_enter Tryz.func101, Tryz.ntmps101
    go_wp2_with ((go_at_call 99; go_must (refine HT.out.mono ?_; rintro e w1 ⟨rfl, hA1⟩; have H1 := Lib.hid hA1; clear hA1)))
    go_wp2_with ((go_at_call 45; go_must (refine (Len_any r s D (i + 1) _ H1.out.buf).mono ?_; rintro e w2 ⟨rfl, k2, rfl⟩; have H2 := Lib.hid (H1.out.drewN k2))))
    go_wp2_with ((go_at_call 142; go_must (refine (Next_no r s D (i + 1) _ 2 H2.out.buf (by omega) (by omega)).mono ?_; rintro e w3 ⟨v, b, rfl, rfl, hA3⟩; have H3 := Lib.hid (H2.out.trans hA3); clear hA3)))
    go_wp2_with ((go_at_call 46; go_must (refine (errorsNew_any _ _).mono ?_; rintro e w9 ⟨v9, rfl, ⟨T, z, rfl⟩, hK9⟩; have H9 := Lib.hid (H3.out.nope hK9); clear hK9)))
    go_ret2
    exact ⟨_, _, rfl, ⟨_, _, rfl⟩, H9.out.kept⟩
set_option maxRecDepth 100000 in
set_option maxHeartbeats 800000 in
theorem readListHeader_1_cut (x0 x1 : UInt8) (h : Buf w r s D i) (hc : D[i]? = some 192) (h0 : D[i + 1]? = some x0) (h1 : D[i + 2]? = some x1) (hl : D.length < i + 2 + x0.toNat) :
    Calls Tryz.prog 101 #[.pointer (some ⟨r, 0, none⟩)] w (Fails w r) := by
    have ht := readType_yes r s D i w _ h hc
    have HT := Lib.hid ht
    have hx0 := x0.toNat_lt
    have hx1 := x1.toNat_lt
    have hi2 := (List.getElem?_eq_some_iff.1 h1).1
    have HX := Lib.hid (And.intro h0 h1)
    have hsm := h.small
    clear ht h hc h0 h1
    have e1 : IntKind.i64.wrap ((D.length : Int) - ↑(i + 1) - 1) = (D.length : Int) - ↑(i + 1) - 1 := IntWalk.i64_in _ (by omega)
    go_enter Tryz.func101, Tryz.ntmps101
    go_wp2_with ((go_at_call 99; go_must (refine HT.out.mono ?_; rintro e w1 ⟨rfl, hA1⟩; have H1 := Lib.hid hA1; clear hA1)))
    go_wp2_with ((go_at_call 45; go_must (refine (Len_any r s D (i + 1) _ H1.out.buf).mono ?_; rintro e w2 ⟨rfl, k2, rfl⟩; have H2 := Lib.hid (H1.out.drewN k2))))
    go_wp2_with (first | (go_at_call 142; go_must (refine (Next_at r s D (i + 1) _ 2 H2.out.buf (by omega) (by omega)).mono ?_; rintro e w3 ⟨v, b, rfl, rfl, ⟨g, off, c4, rfl, hg, hgc, hcm, hcell⟩, hA2⟩; have q0 := hcell 0 x0 (by omega) (by exact HX.out.1); have q1 := hcell 1 x1 (by omega) (by exact HX.out.2); rw [Nat.add_zero] at q0; clear hcell; have H3 := Lib.hid (H2.out.trans hA2); clear hA2 hg hcm)) | (go_at_call 46; go_must (refine (errorsNew_any _ _).mono ?_; rintro e w9 ⟨v9, rfl, ⟨T, z, rfl⟩, hK9⟩; have H9 := Lib.hid (H3.out.nope hK9); clear hK9)))
    go_ret2
    exact ⟨_, _, rfl, ⟨_, _, rfl⟩, H9.out.kept⟩
set_option maxRecDepth 100000 in
set_option maxHeartbeats 800000 in
theorem readArrayHeader_1 (x0 x1 : UInt8) (h : Buf w r s D i) (hc : D[i]? = some 224) (h0 : D[i + 1]? = some x0) (h1 : D[i + 2]? = some x1) (hl : i + 2 + x0.toNat ≤ D.length) (hm : x1.toNat + 1 ≤ x0.toNat) :
    Calls Tryz.prog 150 #[.pointer (some ⟨r, 0, none⟩)] w fun e w' => e = .returned (.tuple #[.int .i64 x1.toNat, .nilIface]) ∧ At_ w w' r s D (i + 3) := by
    have ht := readType_yes r s D i w _ h hc
    have HT := Lib.hid ht
    have hx0 := x0.toNat_lt
    have hx1 := x1.toNat_lt
    have HX := Lib.hid (And.intro h0 h1)
    have hle := h.le
    have hsm := h.small
    clear ht h hc h0 h1
    have e1 : IntKind.i64.wrap ((D.length : Int) - ↑(i + 1) - 1) = (D.length : Int) - ↑(i + 1) - 1 := IntWalk.i64_in _ (by omega)
    go_enter Tryz.func150, Tryz.ntmps150
    go_wp2_with ((go_at_call 99; go_must (refine HT.out.mono ?_; rintro e w1 ⟨rfl, hA1⟩; have H1 := Lib.hid hA1; clear hA1)))
    go_wp2_with ((go_at_call 45; go_must (refine (Len_any r s D (i + 1) _ H1.out.buf).mono ?_; rintro e w2 ⟨rfl, k2, rfl⟩; have H2 := Lib.hid (H1.out.drewN k2))))
    go_wp2_with ((go_at_call 142; go_must (refine (Next_at r s D (i + 1) _ 2 H2.out.buf (by omega) (by omega)).mono ?_; rintro e w3 ⟨v, b, rfl, rfl, ⟨g, off, c4, rfl, hg, hgc, hcm, hcell⟩, hA2⟩; have q0 := hcell 0 x0 (by omega) (by exact HX.out.1); have q1 := hcell 1 x1 (by omega) (by exact HX.out.2); rw [Nat.add_zero] at q0; clear hcell; have H3 := Lib.hid (H2.out.trans hA2); clear hA2 hg hcm)))
    go_ret2
    exact ⟨rfl, H3.out⟩
set_option maxRecDepth 100000 in
set_option maxHeartbeats 800000 in
theorem readArrayHeader_1_cut0 (h : Buf w r s D i) (hc : D[i]? = some 224) (hl : D.length < i + 3) :
    Calls Tryz.prog 150 #[.pointer (some ⟨r, 0, none⟩)] w (Fails w r) := by
    have ht := readType_yes r s D i w _ h hc
    have HT := Lib.hid ht
    clear ht h hc
    go_enter Tryz.func150, Tryz.ntmps150
    go_wp2_with ((go_at_call 99; go_must (refine HT.out.mono ?_; rintro e w1 ⟨rfl, hA1⟩; have H1 := Lib.hid hA1; clear hA1)))
    go_wp2_with ((go_at_call 45; go_must (refine (Len_any r s D (i + 1) _ H1.out.buf).mono ?_; rintro e w2 ⟨rfl, k2, rfl⟩; have H2 := Lib.hid (H1.out.drewN k2))))
    go_wp2_with ((go_at_call 142; go_must (refine (Next_no r s D (i + 1) _ 2 H2.out.buf (by omega) (by omega)).mono ?_; rintro e w3 ⟨v, b, rfl, rfl, hA3⟩; have H3 := Lib.hid (H2.out.trans hA3); clear hA3)))
    go_wp2_with ((go_at_call 46; go_must (refine (errorsNew_any _ _).mono ?_; rintro e w9 ⟨v9, rfl, ⟨T, z, rfl⟩, hK9⟩; have H9 := Lib.hid (H3.out.nope hK9); clear hK9)))
    go_ret2
    exact ⟨_, _, rfl, ⟨_, _, rfl⟩, H9.out.kept⟩
set_option maxRecDepth 100000 in
set_option maxHeartbeats 800000 in
theorem readArrayHeader_1_cut (x0 x1 : UInt8) (h : Buf w r s D i) (hc : D[i]? = some 224) (h0 : D[i + 1]? = some x0) (h1 : D[i + 2]? = some x1) (hl : D.length < i + 2 + x0.toNat) :
    Calls Tryz.prog 150 #[.pointer (some ⟨r, 0, none⟩)] w (Fails w r) := by
    have ht := readType_yes r s D i w _ h hc
    have HT := Lib.hid ht
    have hx0 := x0.toNat_lt
    have hx1 := x1.toNat_lt
    have hi2 := (List.getElem?_eq_some_iff.1 h1).1
    have HX := Lib.hid (And.intro h0 h1)
    have hsm := h.small
    clear ht h hc h0 h1
    have e1 : IntKind.i64.wrap ((D.length : Int) - ↑(i + 1) - 1) = (D.length : Int) - ↑(i + 1) - 1 := IntWalk.i64_in _ (by omega)
    go_enter Tryz.func150, Tryz.ntmps150
    go_wp2_with ((go_at_call 99; go_must (refine HT.out.mono ?_; rintro e w1 ⟨rfl, hA1⟩; have H1 := Lib.hid hA1; clear hA1)))
    go_wp2_with ((go_at_call 45; go_must (refine (Len_any r s D (i + 1) _ H1.out.buf).mono ?_; rintro e w2 ⟨rfl, k2, rfl⟩; have H2 := Lib.hid (H1.out.drewN k2))))
    go_wp2_with (first | (go_at_call 142; go_must (refine (Next_at r s D (i + 1) _ 2 H2.out.buf (by omega) (by omega)).mono ?_; rintro e w3 ⟨v, b, rfl, rfl, ⟨g, off, c4, rfl, hg, hgc, hcm, hcell⟩, hA2⟩; have q0 := hcell 0 x0 (by omega) (by exact HX.out.1); have q1 := hcell 1 x1 (by omega) (by exact HX.out.2); rw [Nat.add_zero] at q0; clear hcell; have H3 := Lib.hid (H2.out.trans hA2); clear hA2 hg hcm)) | (go_at_call 46; go_must (refine (errorsNew_any _ _).mono ?_; rintro e w9 ⟨v9, rfl, ⟨T, z, rfl⟩, hK9⟩; have H9 := Lib.hid (H3.out.nope hK9); clear hK9)))
    go_ret2
    exact ⟨_, _, rfl, ⟨_, _, rfl⟩, H9.out.kept⟩
end
end Go.Proofs.YtbckofjoancdjaaGreatDoor
namespace Go.Proofs.YtbckofjoancdjaaGreatDoor
open Go Go.RowKit Go.Lib
section
variable (r : Nat) (s : Value) (D : List UInt8) (i : Nat) (w : World)
theorem eight {W : World} {g off k : Nat} {D : List UInt8} {x0 x1 x2 x3 x4 x5 x6 x7 : UInt8} (h : D[k]? = some x0 ∧ D[k + 1]? = some x1 ∧ D[k + 2]? = some x2 ∧ D[k + 3]? = some x3 ∧ D[k + 4]? = some x4 ∧ D[k + 5]? = some x5 ∧ D[k + 6]? = some x6 ∧ D[k + 7]? = some x7)
    (hc : ∀ j x, j < 8 → D[k + j]? = some x → W.cell? ⟨g, off + j, none⟩ = some (.int .u8 x.toNat)) :
    (∀ j x, [x0, x1, x2, x3][j]? = some x → W.cell? ⟨g, off + j, none⟩ = some (.int .u8 x.toNat)) ∧ (∀ j x, [x4, x5, x6, x7][j]? = some x → W.cell? ⟨g, off + 4 + j, none⟩ = some (.int .u8 x.toNat)) ∧ W.cell? ⟨g, off + 7, none⟩ = some (.int .u8 x7.toNat) := by
  obtain ⟨h0, h1, h2, h3, h4, h5, h6, h7⟩ := h
  refine ⟨four (n := 4) h0 h1 h2 h3 hc, ?_, hc 7 x7 (by omega) h7⟩
  refine four (k := k + 4) (D := D) (n := 0) h4 h5 h6 h7 (fun j x hj hx => ?_)
  rw [Nat.add_assoc]
  exact hc _ _ (by omega) (by rw [← Nat.add_assoc]; exact hx)
set_option maxRecDepth 100000 in
set_option maxHeartbeats 800000 in
theorem readListHeader_4 (x0 x1 x2 x3 x4 x5 x6 x7 : UInt8) (h : Buf w r s D i) (hc : D[i]? = some 208) (h0 : D[i + 1]? = some x0 ∧ D[i + 2]? = some x1 ∧ D[i + 3]? = some x2 ∧ D[i + 4]? = some x3 ∧ D[i + 5]? = some x4 ∧ D[i + 6]? = some x5 ∧ D[i + 7]? = some x6 ∧ D[i + 8]? = some x7) (hl : i + 5 + Lib.beNat [x0, x1, x2, x3] ≤ D.length) (hm : Lib.beNat [x4, x5, x6, x7] + 4 ≤ Lib.beNat [x0, x1, x2, x3]) (hk : Lib.beNat [x4, x5, x6, x7] ≤ 65536) :
    Calls Tryz.prog 101 #[.pointer (some ⟨r, 0, none⟩)] w fun e w' => e = .returned (.tuple #[.int .i64 (Lib.beNat [x4, x5, x6, x7]), .nilIface]) ∧ At_ w w' r s D (i + 9) := by
    have ht := readType_yes r s D i w _ h hc
    have HT := Lib.hid ht
    have hb := beNat4_lt x0 x1 x2 x3
    have hb' := beNat4_lt x4 x5 x6 x7
    generalize hN : Lib.beNat [x0, x1, x2, x3] = N at *
    generalize hM : Lib.beNat [x4, x5, x6, x7] = M at *
    have HN := Lib.hid (And.intro hN hM)
    have hx1 : (N : Int) ≤ 4294967295 := by omega
    have hx2 : (0 : Int) ≤ N := by omega
    have hx3 : (M : Int) ≤ 4294967295 := by omega
    have hx4 : (0 : Int) ≤ M := by omega
    have HX := Lib.hid h0
    have hle := h.le
    have hsm := h.small
    have hi9 := (List.getElem?_eq_some_iff.1 h0.2.2.2.2.2.2.2).1
    clear ht h hc h0 hN hM hb hb'
    have e1 : IntKind.i64.wrap ((D.length : Int) - ↑(i + 1) - 4) = (D.length : Int) - ↑(i + 1) - 4 := IntWalk.i64_in _ (by omega)
    have e2 : IntKind.i64.wrap ((N : Int) - 4) = (N : Int) - 4 := IntWalk.i64_in _ (by omega)
    go_enter Tryz.func101, Tryz.ntmps101
    go_wp2_with ((go_at_call 99; go_must (refine HT.out.mono ?_; rintro e w1 ⟨rfl, hA1⟩; have H1 := Lib.hid hA1; clear hA1)))
    go_wp2_with ((go_at_call 45; go_must (refine (Len_any r s D (i + 1) _ H1.out.buf).mono ?_; rintro e w2 ⟨rfl, k2, rfl⟩; have H2 := Lib.hid (H1.out.drewN k2))))
    go_wp2_with ((go_at_call 142; go_must (refine (Next_at r s D (i + 1) _ 8 H2.out.buf (by omega) (by omega)).mono ?_; rintro e w3 ⟨v, b, rfl, rfl, ⟨g, off, c4, rfl, hg, hgc, hcm, hcell⟩, hA2⟩; have HQ := Lib.hid (eight HX.out hcell); have q7 := HQ.out.2.2; have hc48 : ¬ c4 = 4 := (by omega); have hc8 : (8 : Int) ≤ (c4 : Int) := (by omega); have hc44 : (4 : Int) ≤ (c4 : Int) := (by omega); clear hcell; have H3 := Lib.hid (H2.out.trans hA2); clear hA2 hg hcm)))
    refine wp_region_tail 3 (by kernel_rfl) (by kernel_rfl) (fun K hK => ?_)
    simp only [List.take_succ_cons, List.take_zero, List.drop_succ_cons, List.drop_zero] at hK ⊢
    repeat still_step
    refine wpStill_nil (hK _ ?_)
    clear hK K
    go_wp2_with ((go_at_call 143; go_must (refine (beU32 _ g off 4 c4 x0 x1 x2 x3 (by omega) (by exact HQ.out.1)).mono ?_; rw [HN.out.1]; rintro e w5 ⟨rfl, hK5⟩; have HQ5 := Lib.hid (fun j x hx => hK5.cell (HQ.out.2.1 j x hx) (fun h => h)); have H5 := Lib.hid (H3.out.drew.nope hK5); clear hK5)))
    refine wp_region_tail 3 (by kernel_rfl) (by kernel_rfl) (fun K hK => ?_)
    simp only [List.take_succ_cons, List.take_zero, List.drop_succ_cons, List.drop_zero] at hK ⊢
    repeat still_step
    refine wpStill_nil (hK _ ?_)
    clear hK K
    go_wp2_with ((go_at_call 143; go_must (refine (beU32 _ g (off + 4) 4 (c4 - 4) x4 x5 x6 x7 (by omega) (by exact HQ5.out)).mono ?_; rw [HN.out.2]; rintro e w6 ⟨rfl, hK6⟩; have H6 := Lib.hid (H5.out.drew.nope hK6); clear hK6)))
    go_ret2
    exact ⟨rfl, H6.out⟩
set_option maxRecDepth 100000 in
set_option maxHeartbeats 800000 in
theorem readListHeader_4_cut0 (h : Buf w r s D i) (hc : D[i]? = some 208) (hl : D.length < i + 9) :
    Calls Tryz.prog 101 #[.pointer (some ⟨r, 0, none⟩)] w (Fails w r) := by
    have ht := readType_yes r s D i w _ h hc
    have HT := Lib.hid ht
    clear ht h hc
    go_enter Tryz.func101, Tryz.ntmps101
    go_wp2_with ((go_at_call 99; go_must (refine HT.out.mono ?_; rintro e w1 ⟨rfl, hA1⟩; have H1 := Lib.hid hA1; clear hA1)))
    go_wp2_with ((go_at_call 45; go_must (refine (Len_any r s D (i + 1) _ H1.out.buf).mono ?_; rintro e w2 ⟨rfl, k2, rfl⟩; have H2 := Lib.hid (H1.out.drewN k2))))
    go_wp2_with ((go_at_call 142; go_must (refine (Next_no r s D (i + 1) _ 8 H2.out.buf (by omega) (by omega)).mono ?_; rintro e w3 ⟨v, b, rfl, rfl, hA3⟩; have H3 := Lib.hid (H2.out.trans hA3); clear hA3)))
    go_wp2_with ((go_at_call 46; go_must (refine (errorsNew_any _ _).mono ?_; rintro e w9 ⟨v9, rfl, ⟨T, z, rfl⟩, hK9⟩; have H9 := Lib.hid (H3.out.nope hK9); clear hK9)))
    go_ret2
    exact ⟨_, _, rfl, ⟨_, _, rfl⟩, H9.out.kept⟩
set_option maxRecDepth 100000 in
set_option maxHeartbeats 800000 in
theorem readListHeader_4_cut (x0 x1 x2 x3 x4 x5 x6 x7 : UInt8) (h : Buf w r s D i) (hc : D[i]? = some 208) (h0 : D[i + 1]? = some x0 ∧ D[i + 2]? = some x1 ∧ D[i + 3]? = some x2 ∧ D[i + 4]? = some x3 ∧ D[i + 5]? = some x4 ∧ D[i + 6]? = some x5 ∧ D[i + 7]? = some x6 ∧ D[i + 8]? = some x7) (hl : D.length < i + 5 + Lib.beNat [x0, x1, x2, x3]) :
    Calls Tryz.prog 101 #[.pointer (some ⟨r, 0, none⟩)] w (Fails w r) := by
    have ht := readType_yes r s D i w _ h hc
    have HT := Lib.hid ht
    have hb := beNat4_lt x0 x1 x2 x3
    have hb' := beNat4_lt x4 x5 x6 x7
    generalize hN : Lib.beNat [x0, x1, x2, x3] = N at *
    generalize hM : Lib.beNat [x4, x5, x6, x7] = M at *
    have HN := Lib.hid (And.intro hN hM)
    have hx1 : (N : Int) ≤ 4294967295 := by omega
    have hx2 : (0 : Int) ≤ N := by omega
    have hx3 : (M : Int) ≤ 4294967295 := by omega
    have hx4 : (0 : Int) ≤ M := by omega
    have HX := Lib.hid h0
    have hle := h.le
    have hsm := h.small
    have hi9 := (List.getElem?_eq_some_iff.1 h0.2.2.2.2.2.2.2).1
    clear ht h hc h0 hN hM hb hb'
    have e1 : IntKind.i64.wrap ((D.length : Int) - ↑(i + 1) - 4) = (D.length : Int) - ↑(i + 1) - 4 := IntWalk.i64_in _ (by omega)
    go_enter Tryz.func101, Tryz.ntmps101
    go_wp2_with ((go_at_call 99; go_must (refine HT.out.mono ?_; rintro e w1 ⟨rfl, hA1⟩; have H1 := Lib.hid hA1; clear hA1)))
    go_wp2_with ((go_at_call 45; go_must (refine (Len_any r s D (i + 1) _ H1.out.buf).mono ?_; rintro e w2 ⟨rfl, k2, rfl⟩; have H2 := Lib.hid (H1.out.drewN k2))))
    go_wp2_with ((go_at_call 142; go_must (refine (Next_at r s D (i + 1) _ 8 H2.out.buf (by omega) (by omega)).mono ?_; rintro e w3 ⟨v, b, rfl, rfl, ⟨g, off, c4, rfl, hg, hgc, hcm, hcell⟩, hA2⟩; have HQ := Lib.hid (eight HX.out hcell); have q7 := HQ.out.2.2; have hc48 : ¬ c4 = 4 := (by omega); have hc8 : (8 : Int) ≤ (c4 : Int) := (by omega); have hc44 : (4 : Int) ≤ (c4 : Int) := (by omega); clear hcell; have H3 := Lib.hid (H2.out.trans hA2); clear hA2 hg hcm)))
    refine wp_region_tail 3 (by kernel_rfl) (by kernel_rfl) (fun K hK => ?_)
    simp only [List.take_succ_cons, List.take_zero, List.drop_succ_cons, List.drop_zero] at hK ⊢
    repeat still_step
    refine wpStill_nil (hK _ ?_)
    clear hK K
    go_wp2_with (first | (go_at_call 143; go_must (refine (beU32 _ g off 4 c4 x0 x1 x2 x3 (by omega) (by exact HQ.out.1)).mono ?_; rw [HN.out.1]; rintro e w5 ⟨rfl, hK5⟩; have HQ5 := Lib.hid (fun j x hx => hK5.cell (HQ.out.2.1 j x hx) (fun h => h)); have H5 := Lib.hid (H3.out.drew.nope hK5); clear hK5)) | (go_at_call 46; go_must (refine (errorsNew_any _ _).mono ?_; rintro e w9 ⟨v9, rfl, ⟨T, z, rfl⟩, hK9⟩; have H9 := Lib.hid (H5.out.nope hK9); clear hK9)))
    go_ret2
    exact ⟨_, _, rfl, ⟨_, _, rfl⟩, H9.out.kept⟩
set_option maxRecDepth 100000 in
set_option maxHeartbeats 800000 in
theorem readArrayHeader_4 (x0 x1 x2 x3 x4 x5 x6 x7 : UInt8) (h : Buf w r s D i) (hc : D[i]? = some 240) (h0 : D[i + 1]? = some x0 ∧ D[i + 2]? = some x1 ∧ D[i + 3]? = some x2 ∧ D[i + 4]? = some x3 ∧ D[i + 5]? = some x4 ∧ D[i + 6]? = some x5 ∧ D[i + 7]? = some x6 ∧ D[i + 8]? = some x7) (hl : i + 5 + Lib.beNat [x0, x1, x2, x3] ≤ D.length) (hm : Lib.beNat [x4, x5, x6, x7] + 4 ≤ Lib.beNat [x0, x1, x2, x3]) (hk : Lib.beNat [x4, x5, x6, x7] ≤ 65536) :
    Calls Tryz.prog 150 #[.pointer (some ⟨r, 0, none⟩)] w fun e w' => e = .returned (.tuple #[.int .i64 (Lib.beNat [x4, x5, x6, x7]), .nilIface]) ∧ At_ w w' r s D (i + 9) := by
    have ht := readType_yes r s D i w _ h hc
    have HT := Lib.hid ht
    have hb := beNat4_lt x0 x1 x2 x3
    have hb' := beNat4_lt x4 x5 x6 x7
    generalize hN : Lib.beNat [x0, x1, x2, x3] = N at *
    generalize hM : Lib.beNat [x4, x5, x6, x7] = M at *
    have HN := Lib.hid (And.intro hN hM)
    have hx1 : (N : Int) ≤ 4294967295 := by omega
    have hx2 : (0 : Int) ≤ N := by omega
    have hx3 : (M : Int) ≤ 4294967295 := by omega
    have hx4 : (0 : Int) ≤ M := by omega
    have HX := Lib.hid h0
    have hle := h.le
    have hsm := h.small
    have hi9 := (List.getElem?_eq_some_iff.1 h0.2.2.2.2.2.2.2).1
    clear ht h hc h0 hN hM hb hb'
    have e1 : IntKind.i64.wrap ((D.length : Int) - ↑(i + 1) - 4) = (D.length : Int) - ↑(i + 1) - 4 := IntWalk.i64_in _ (by omega)
    have e2 : IntKind.i64.wrap ((N : Int) - 4) = (N : Int) - 4 := IntWalk.i64_in _ (by omega)
    go_enter Tryz.func150, Tryz.ntmps150
    go_wp2_with ((go_at_call 99; go_must (refine HT.out.mono ?_; rintro e w1 ⟨rfl, hA1⟩; have H1 := Lib.hid hA1; clear hA1)))
    go_wp2_with ((go_at_call 45; go_must (refine (Len_any r s D (i + 1) _ H1.out.buf).mono ?_; rintro e w2 ⟨rfl, k2, rfl⟩; have H2 := Lib.hid (H1.out.drewN k2))))
    go_wp2_with ((go_at_call 142; go_must (refine (Next_at r s D (i + 1) _ 8 H2.out.buf (by omega) (by omega)).mono ?_; rintro e w3 ⟨v, b, rfl, rfl, ⟨g, off, c4, rfl, hg, hgc, hcm, hcell⟩, hA2⟩; have HQ := Lib.hid (eight HX.out hcell); have q7 := HQ.out.2.2; have hc48 : ¬ c4 = 4 := (by omega); have hc8 : (8 : Int) ≤ (c4 : Int) := (by omega); have hc44 : (4 : Int) ≤ (c4 : Int) := (by omega); clear hcell; have H3 := Lib.hid (H2.out.trans hA2); clear hA2 hg hcm)))
    refine wp_region_tail 3 (by kernel_rfl) (by kernel_rfl) (fun K hK => ?_)
    simp only [List.take_succ_cons, List.take_zero, List.drop_succ_cons, List.drop_zero] at hK ⊢
    repeat still_step
    refine wpStill_nil (hK _ ?_)
    clear hK K
    go_wp2_with ((go_at_call 143; go_must (refine (beU32 _ g off 4 c4 x0 x1 x2 x3 (by omega) (by exact HQ.out.1)).mono ?_; rw [HN.out.1]; rintro e w5 ⟨rfl, hK5⟩; have HQ5 := Lib.hid (fun j x hx => hK5.cell (HQ.out.2.1 j x hx) (fun h => h)); have H5 := Lib.hid (H3.out.drew.nope hK5); clear hK5)))
    refine wp_region_tail 3 (by kernel_rfl) (by kernel_rfl) (fun K hK => ?_)
    simp only [List.take_succ_cons, List.take_zero, List.drop_succ_cons, List.drop_zero] at hK ⊢
    repeat still_step
    refine wpStill_nil (hK _ ?_)
    clear hK K
    go_wp2_with ((go_at_call 143; go_must (refine (beU32 _ g (off + 4) 4 (c4 - 4) x4 x5 x6 x7 (by omega) (by exact HQ5.out)).mono ?_; rw [HN.out.2]; rintro e w6 ⟨rfl, hK6⟩; have H6 := Lib.hid (H5.out.drew.nope hK6); clear hK6)))
    go_ret2
    exact ⟨rfl, H6.out⟩
set_option maxRecDepth 100000 in
set_option maxHeartbeats 800000 in
theorem readArrayHeader_4_cut0 (h : Buf w r s D i) (hc : D[i]? = some 240) (hl : D.length < i + 9) :
    Calls Tryz.prog 150 #[.pointer (some ⟨r, 0, none⟩)] w (Fails w r) := by
    have ht := readType_yes r s D i w _ h hc
    have HT := Lib.hid ht
    clear ht h hc
    go_enter Tryz.func150, Tryz.ntmps150
    go_wp2_with ((go_at_call 99; go_must (refine HT.out.mono ?_; rintro e w1 ⟨rfl, hA1⟩; have H1 := Lib.hid hA1; clear hA1)))
    go_wp2_with ((go_at_call 45; go_must (refine (Len_any r s D (i + 1) _ H1.out.buf).mono ?_; rintro e w2 ⟨rfl, k2, rfl⟩; have H2 := Lib.hid (H1.out.drewN k2))))
    go_wp2_with ((go_at_call 142; go_must (refine (Next_no r s D (i + 1) _ 8 H2.out.buf (by omega) (by omega)).mono ?_; rintro e w3 ⟨v, b, rfl, rfl, hA3⟩; have H3 := Lib.hid (H2.out.trans hA3); clear hA3)))
    go_wp2_with ((go_at_call 46; go_must (refine (errorsNew_any _ _).mono ?_; rintro e w9 ⟨v9, rfl, ⟨T, z, rfl⟩, hK9⟩; have H9 := Lib.hid (H3.out.nope hK9); clear hK9)))
    go_ret2
    exact ⟨_, _, rfl, ⟨_, _, rfl⟩, H9.out.kept⟩
set_option maxRecDepth 100000 in
set_option maxHeartbeats 800000 in
theorem readArrayHeader_4_cut (x0 x1 x2 x3 x4 x5 x6 x7 : UInt8) (h : Buf w r s D i) (hc : D[i]? = some 240) (h0 : D[i + 1]? = some x0 ∧ D[i + 2]? = some x1 ∧ D[i + 3]? = some x2 ∧ D[i + 4]? = some x3 ∧ D[i + 5]? = some x4 ∧ D[i + 6]? = some x5 ∧ D[i + 7]? = some x6 ∧ D[i + 8]? = some x7) (hl : D.length < i + 5 + Lib.beNat [x0, x1, x2, x3]) :
    Calls Tryz.prog 150 #[.pointer (some ⟨r, 0, none⟩)] w (Fails w r) := by
    have ht := readType_yes r s D i w _ h hc
    have HT := Lib.hid ht
    have hb := beNat4_lt x0 x1 x2 x3
    have hb' := beNat4_lt x4 x5 x6 x7
    generalize hN : Lib.beNat [x0, x1, x2, x3] = N at *
    generalize hM : Lib.beNat [x4, x5, x6, x7] = M at *
    have HN := Lib.hid (And.intro hN hM)
    have hx1 : (N : Int) ≤ 4294967295 := by omega
    have hx2 : (0 : Int) ≤ N := by omega
    have hx3 : (M : Int) ≤ 4294967295 := by omega
    have hx4 : (0 : Int) ≤ M := by omega
    have HX := Lib.hid h0
    have hle := h.le
    have hsm := h.small
    have hi9 := (List.getElem?_eq_some_iff.1 h0.2.2.2.2.2.2.2).1
    clear ht h hc h0 hN hM hb hb'
    have e1 : IntKind.i64.wrap ((D.length : Int) - ↑(i + 1) - 4) = (D.length : Int) - ↑(i + 1) - 4 := IntWalk.i64_in _ (by omega)
    go_enter Tryz.func150, Tryz.ntmps150
    go_wp2_with ((go_at_call 99; go_must (refine HT.out.mono ?_; rintro e w1 ⟨rfl, hA1⟩; have H1 := Lib.hid hA1; clear hA1)))
    go_wp2_with ((go_at_call 45; go_must (refine (Len_any r s D (i + 1) _ H1.out.buf).mono ?_; rintro e w2 ⟨rfl, k2, rfl⟩; have H2 := Lib.hid (H1.out.drewN k2))))
    go_wp2_with ((go_at_call 142; go_must (refine (Next_at r s D (i + 1) _ 8 H2.out.buf (by omega) (by omega)).mono ?_; rintro e w3 ⟨v, b, rfl, rfl, ⟨g, off, c4, rfl, hg, hgc, hcm, hcell⟩, hA2⟩; have HQ := Lib.hid (eight HX.out hcell); have q7 := HQ.out.2.2; have hc48 : ¬ c4 = 4 := (by omega); have hc8 : (8 : Int) ≤ (c4 : Int) := (by omega); have hc44 : (4 : Int) ≤ (c4 : Int) := (by omega); clear hcell; have H3 := Lib.hid (H2.out.trans hA2); clear hA2 hg hcm)))
    refine wp_region_tail 3 (by kernel_rfl) (by kernel_rfl) (fun K hK => ?_)
    simp only [List.take_succ_cons, List.take_zero, List.drop_succ_cons, List.drop_zero] at hK ⊢
    repeat still_step
    refine wpStill_nil (hK _ ?_)
    clear hK K
    go_wp2_with (first | (go_at_call 143; go_must (refine (beU32 _ g off 4 c4 x0 x1 x2 x3 (by omega) (by exact HQ.out.1)).mono ?_; rw [HN.out.1]; rintro e w5 ⟨rfl, hK5⟩; have HQ5 := Lib.hid (fun j x hx => hK5.cell (HQ.out.2.1 j x hx) (fun h => h)); have H5 := Lib.hid (H3.out.drew.nope hK5); clear hK5)) | (go_at_call 46; go_must (refine (errorsNew_any _ _).mono ?_; rintro e w9 ⟨v9, rfl, ⟨T, z, rfl⟩, hK9⟩; have H9 := Lib.hid (H5.out.nope hK9); clear hK9)))
    go_ret2
    exact ⟨_, _, rfl, ⟨_, _, rfl⟩, H9.out.kept⟩
end
end Go.Proofs.YtbckofjoancdjaaGreatDoor
namespace Go.Proofs.YtbckofjoancdjaaGreatDoor
open Go Go.RowKit Go.Lib
section
variable (r : Nat) (s : Value) (D : List UInt8) (i : Nat) (w : World)
set_option maxRecDepth 100000 in
set_option maxHeartbeats 800000 in
theorem readListHeader_45 (h : Buf w r s D i) (hc : D[i]? = some 69) :
    Calls Tryz.prog 101 #[.pointer (some ⟨r, 0, none⟩)] w fun e w' => e = .returned (.tuple #[.int .i64 0, .nilIface]) ∧ At_ w w' r s D (i + 1) := by
    have ht := readType_yes r s D i w _ h hc
    have HT := Lib.hid ht
    have hle := h.le
    have hsm := h.small
    clear ht h hc
    go_enter Tryz.func101, Tryz.ntmps101
    go_wp2_with ((go_at_call 99; go_must (refine HT.out.mono ?_; rintro e w1 ⟨rfl, hA1⟩; have H1 := Lib.hid hA1; clear hA1)))
    go_wp2_with ((go_at_call 45; go_must (refine (Len_any r s D (i + 1) _ H1.out.buf).mono ?_; rintro e w2 ⟨rfl, k2, rfl⟩; have H2 := Lib.hid (H1.out.drewN k2))))
    go_ret2
    exact ⟨rfl, H2.out⟩
theorem readListHeader_none (h : Buf w r s D i) (hx : D.length ≤ i) :
    Calls Tryz.prog 101 #[.pointer (some ⟨r, 0, none⟩)] w (Fails w r) := by
    have ht := readType_no r s D i w h hx
    have HT := Lib.hid ht
    clear ht h hx
    go_enter Tryz.func101, Tryz.ntmps101
    go_wp2_with ((go_at_call 99; go_must (refine HT.out.mono ?_; rintro e w1 ⟨x, v, rfl, rfl, ⟨T, z, rfl⟩, hA1⟩; have H1 := Lib.hid hA1; clear hA1)))
    go_ret2
    exact ⟨_, _, rfl, ⟨_, _, rfl⟩, H1.out.kept⟩
theorem readArrayHeader_none (h : Buf w r s D i) (hx : D.length ≤ i) :
    Calls Tryz.prog 150 #[.pointer (some ⟨r, 0, none⟩)] w (Fails w r) := by
    have ht := readType_no r s D i w h hx
    have HT := Lib.hid ht
    clear ht h hx
    go_enter Tryz.func150, Tryz.ntmps150
    go_wp2_with ((go_at_call 99; go_must (refine HT.out.mono ?_; rintro e w1 ⟨x, v, rfl, rfl, ⟨T, z, rfl⟩, hA1⟩; have H1 := Lib.hid hA1; clear hA1)))
    go_ret2
    exact ⟨_, _, rfl, ⟨_, _, rfl⟩, H1.out.kept⟩
set_option maxRecDepth 100000 in
set_option maxHeartbeats 800000 in
theorem readListHeader_other (c : UInt8) (h : Buf w r s D i) (hc : D[i]? = some c) (hn : c ≠ 69 ∧ c ≠ 192 ∧ c ≠ 208) :
    Calls Tryz.prog 101 #[.pointer (some ⟨r, 0, none⟩)] w (Fails w r) := by
    have hn' : ¬ (c.toNat : Int) = 69 ∧ ¬ (c.toNat : Int) = 192 ∧ ¬ (c.toNat : Int) = 208 := by
      refine ⟨fun e => hn.1 (UInt8.toNat.inj (Int.ofNat.inj e)), fun e => hn.2.1 (UInt8.toNat.inj (Int.ofNat.inj e)), fun e => hn.2.2 (UInt8.toNat.inj (Int.ofNat.inj e))⟩
    obtain ⟨n0, n1, n2⟩ := hn'
    have ht := readType_yes r s D i w _ h hc
    have HT := Lib.hid ht
    have hle := h.le
    have hsm := h.small
    clear ht h hc hn
    go_enter Tryz.func101, Tryz.ntmps101
    go_wp2_with (first | (go_at_call 99; go_must (refine HT.out.mono ?_; rintro e w1 ⟨rfl, hA1⟩; have H1 := Lib.hid hA1; clear hA1)) | (go_at_call 45; go_must (refine (Len_any r s D (i + 1) _ H1.out.buf).mono ?_; rintro e w2 ⟨rfl, k2, rfl⟩; have H2 := Lib.hid (H1.out.drewN k2))) | (go_at_call 46; go_must (refine (errorsNew_any _ _).mono ?_; rintro e w9 ⟨v9, rfl, ⟨T, z, rfl⟩, hK9⟩; have H9 := Lib.hid (H2.out.nope hK9); clear hK9)))
    go_ret2
    exact ⟨_, _, rfl, ⟨_, _, rfl⟩, H9.out.kept⟩
set_option maxRecDepth 100000 in
set_option maxHeartbeats 800000 in
theorem readArrayHeader_other (c : UInt8) (h : Buf w r s D i) (hc : D[i]? = some c) (hn : c ≠ 224 ∧ c ≠ 240) :
    Calls Tryz.prog 150 #[.pointer (some ⟨r, 0, none⟩)] w (Fails w r) := by
    have hn' : ¬ (c.toNat : Int) = 224 ∧ ¬ (c.toNat : Int) = 240 := by
      refine ⟨fun e => hn.1 (UInt8.toNat.inj (Int.ofNat.inj e)), fun e => hn.2 (UInt8.toNat.inj (Int.ofNat.inj e))⟩
    obtain ⟨n0, n1⟩ := hn'
    have ht := readType_yes r s D i w _ h hc
    have HT := Lib.hid ht
    have hle := h.le
    have hsm := h.small
    clear ht h hc hn
    go_enter Tryz.func150, Tryz.ntmps150
    go_wp2_with (first | (go_at_call 99; go_must (refine HT.out.mono ?_; rintro e w1 ⟨rfl, hA1⟩; have H1 := Lib.hid hA1; clear hA1)) | (go_at_call 45; go_must (refine (Len_any r s D (i + 1) _ H1.out.buf).mono ?_; rintro e w2 ⟨rfl, k2, rfl⟩; have H2 := Lib.hid (H1.out.drewN k2))) | (go_at_call 46; go_must (refine (errorsNew_any _ _).mono ?_; rintro e w9 ⟨v9, rfl, ⟨T, z, rfl⟩, hK9⟩; have H9 := Lib.hid (H2.out.nope hK9); clear hK9)))
    go_ret2
    exact ⟨_, _, rfl, ⟨_, _, rfl⟩, H9.out.kept⟩
set_option maxRecDepth 100000 in
set_option maxHeartbeats 800000 in
theorem readMap8Header_ok (x0 x1 : UInt8) (h : Buf w r s D i) (h0 : D[i]? = some x0) (h1 : D[i + 1]? = some x1) (hl : i + 1 + x0.toNat ≤ D.length) (hm : x1.toNat + 1 ≤ x0.toNat) :
    Calls Tryz.prog 169 #[.pointer (some ⟨r, 0, none⟩)] w fun e w' => e = .returned (.tuple #[.int .u32 x1.toNat, .nilIface]) ∧ At_ w w' r s D (i + 2) := by
    have HB := Lib.hid h
    have hx0 := x0.toNat_lt
    have hx1 := x1.toNat_lt
    have HX := Lib.hid (And.intro h0 h1)
    have hle := h.le
    have hsm := h.small
    clear h h0 h1
    have e1 : IntKind.i64.wrap ((D.length : Int) - ↑i - 1) = (D.length : Int) - ↑i - 1 := IntWalk.i64_in _ (by omega)
    go_enter Tryz.func169, Tryz.ntmps169
    go_wp2_with ((go_at_call 45; go_must (refine (Len_any r s D i _ HB.out).mono ?_; rintro e w2 ⟨rfl, k2, rfl⟩; have H2 := Lib.hid ((At_.refl HB.out).drewN k2))))
    go_wp2_with ((go_at_call 142; go_must (refine (Next_at r s D (i) _ 2 H2.out.buf (by omega) (by omega)).mono ?_; rintro e w3 ⟨v, b, rfl, rfl, ⟨g, off, c4, rfl, hg, hgc, hcm, hcell⟩, hA2⟩; have q0 := hcell 0 x0 (by omega) (by exact HX.out.1); have q1 := hcell 1 x1 (by omega) (by exact HX.out.2); rw [Nat.add_zero] at q0; clear hcell; have H3 := Lib.hid (H2.out.trans hA2); clear hA2 hg hcm)))
    go_wp2_with ((go_at_call 45; go_must (refine (Len_any r s D (i + 2) _ H3.out.buf).mono ?_; rintro e w7 ⟨rfl, k7, rfl⟩; have H7 := Lib.hid (H3.out.drewN k7))))
    go_ret2
    exact ⟨rfl, H7.out⟩
set_option maxRecDepth 100000 in
set_option maxHeartbeats 800000 in
theorem readMap8Header_cut0 (h : Buf w r s D i) (hl : D.length < i + 2) :
    Calls Tryz.prog 169 #[.pointer (some ⟨r, 0, none⟩)] w (Fails w r) := by
    have HB := Lib.hid h
    clear h
    go_enter Tryz.func169, Tryz.ntmps169
    go_wp2_with ((go_at_call 45; go_must (refine (Len_any r s D i _ HB.out).mono ?_; rintro e w2 ⟨rfl, k2, rfl⟩; have H2 := Lib.hid ((At_.refl HB.out).drewN k2))))
    go_wp2_with ((go_at_call 142; go_must (refine (Next_no r s D (i) _ 2 H2.out.buf (by omega) (by omega)).mono ?_; rintro e w3 ⟨v, b, rfl, rfl, hA3⟩; have H3 := Lib.hid (H2.out.trans hA3); clear hA3)))
    go_wp2_with ((go_at_call 46; go_must (refine (errorsNew_any _ _).mono ?_; rintro e w9 ⟨v9, rfl, ⟨T, z, rfl⟩, hK9⟩; have H9 := Lib.hid (H3.out.nope hK9); clear hK9)))
    go_ret2
    exact ⟨_, _, rfl, ⟨_, _, rfl⟩, H9.out.kept⟩
set_option maxRecDepth 100000 in
set_option maxHeartbeats 800000 in
theorem readMap8Header_cut (x0 x1 : UInt8) (h : Buf w r s D i) (h0 : D[i]? = some x0) (h1 : D[i + 1]? = some x1) (hl : D.length < i + 1 + x0.toNat) :
    Calls Tryz.prog 169 #[.pointer (some ⟨r, 0, none⟩)] w (Fails w r) := by
    have HB := Lib.hid h
    have hx0 := x0.toNat_lt
    have hx1 := x1.toNat_lt
    have hi2 := (List.getElem?_eq_some_iff.1 h1).1
    have HX := Lib.hid (And.intro h0 h1)
    have hsm := h.small
    clear h h0 h1
    have e1 : IntKind.i64.wrap ((D.length : Int) - ↑i - 1) = (D.length : Int) - ↑i - 1 := IntWalk.i64_in _ (by omega)
    go_enter Tryz.func169, Tryz.ntmps169
    go_wp2_with ((go_at_call 45; go_must (refine (Len_any r s D i _ HB.out).mono ?_; rintro e w2 ⟨rfl, k2, rfl⟩; have H2 := Lib.hid ((At_.refl HB.out).drewN k2))))
    go_wp2_with (first | (go_at_call 142; go_must (refine (Next_at r s D (i) _ 2 H2.out.buf (by omega) (by omega)).mono ?_; rintro e w3 ⟨v, b, rfl, rfl, ⟨g, off, c4, rfl, hg, hgc, hcm, hcell⟩, hA2⟩; have q0 := hcell 0 x0 (by omega) (by exact HX.out.1); have q1 := hcell 1 x1 (by omega) (by exact HX.out.2); rw [Nat.add_zero] at q0; clear hcell; have H3 := Lib.hid (H2.out.trans hA2); clear hA2 hg hcm)) | (go_at_call 46; go_must (refine (errorsNew_any _ _).mono ?_; rintro e w9 ⟨v9, rfl, ⟨T, z, rfl⟩, hK9⟩; have H9 := Lib.hid (H3.out.nope hK9); clear hK9)))
    go_ret2
    exact ⟨_, _, rfl, ⟨_, _, rfl⟩, H9.out.kept⟩
set_option maxRecDepth 100000 in
set_option maxHeartbeats 800000 in
theorem readMap32Header_ok (x0 x1 x2 x3 x4 x5 x6 x7 : UInt8) (h : Buf w r s D i) (h0 : D[i]? = some x0 ∧ D[i + 1]? = some x1 ∧ D[i + 2]? = some x2 ∧ D[i + 3]? = some x3 ∧ D[i + 4]? = some x4 ∧ D[i + 5]? = some x5 ∧ D[i + 6]? = some x6 ∧ D[i + 7]? = some x7) (hl : i + 4 + Lib.beNat [x0, x1, x2, x3] ≤ D.length) (hm : Lib.beNat [x4, x5, x6, x7] + 4 ≤ Lib.beNat [x0, x1, x2, x3]) (hk : Lib.beNat [x4, x5, x6, x7] ≤ 65536) :
    Calls Tryz.prog 170 #[.pointer (some ⟨r, 0, none⟩)] w fun e w' => e = .returned (.tuple #[.int .u32 (Lib.beNat [x4, x5, x6, x7]), .nilIface]) ∧ At_ w w' r s D (i + 8) := by
    have HB := Lib.hid h
    have hb := beNat4_lt x0 x1 x2 x3
    have hb' := beNat4_lt x4 x5 x6 x7
    generalize hN : Lib.beNat [x0, x1, x2, x3] = N at *
    generalize hM : Lib.beNat [x4, x5, x6, x7] = M at *
    have HN := Lib.hid (And.intro hN hM)
    have hx1 : (N : Int) ≤ 4294967295 := by omega
    have hx2 : (0 : Int) ≤ N := by omega
    have hx3 : (M : Int) ≤ 4294967295 := by omega
    have hx4 : (0 : Int) ≤ M := by omega
    have HX := Lib.hid h0
    have hle := h.le
    have hsm := h.small
    have hi9 := (List.getElem?_eq_some_iff.1 h0.2.2.2.2.2.2.2).1
    clear h h0 hN hM hb hb'
    have e1 : IntKind.i64.wrap ((D.length : Int) - ↑i - 4) = (D.length : Int) - ↑i - 4 := IntWalk.i64_in _ (by omega)
    go_enter Tryz.func170, Tryz.ntmps170
    go_wp2_with ((go_at_call 45; go_must (refine (Len_any r s D i _ HB.out).mono ?_; rintro e w2 ⟨rfl, k2, rfl⟩; have H2 := Lib.hid ((At_.refl HB.out).drewN k2))))
    go_wp2_with ((go_at_call 142; go_must (refine (Next_at r s D (i) _ 8 H2.out.buf (by omega) (by omega)).mono ?_; rintro e w3 ⟨v, b, rfl, rfl, ⟨g, off, c4, rfl, hg, hgc, hcm, hcell⟩, hA2⟩; have HQ := Lib.hid (eight HX.out hcell); have q7 := HQ.out.2.2; have hc48 : ¬ c4 = 4 := (by omega); have hc8 : (8 : Int) ≤ (c4 : Int) := (by omega); have hc44 : (4 : Int) ≤ (c4 : Int) := (by omega); clear hcell; have H3 := Lib.hid (H2.out.trans hA2); clear hA2 hg hcm)))
    refine wp_region_tail 3 (by kernel_rfl) (by kernel_rfl) (fun K hK => ?_)
    simp only [List.take_succ_cons, List.take_zero, List.drop_succ_cons, List.drop_zero] at hK ⊢
    repeat still_step
    refine wpStill_nil (hK _ ?_)
    clear hK K
    go_wp2_with ((go_at_call 143; go_must (refine (beU32 _ g off 4 c4 x0 x1 x2 x3 (by omega) (by exact HQ.out.1)).mono ?_; rw [HN.out.1]; rintro e w5 ⟨rfl, hK5⟩; have HQ5 := Lib.hid (fun j x hx => hK5.cell (HQ.out.2.1 j x hx) (fun h => h)); have H5 := Lib.hid (H3.out.drew.nope hK5); clear hK5)))
    refine wp_region_tail 3 (by kernel_rfl) (by kernel_rfl) (fun K hK => ?_)
    simp only [List.take_succ_cons, List.take_zero, List.drop_succ_cons, List.drop_zero] at hK ⊢
    repeat still_step
    refine wpStill_nil (hK _ ?_)
    clear hK K
    go_wp2_with (first | (go_at_call 143; go_must (refine (beU32 _ g (off + 4) 4 (c4 - 4) x4 x5 x6 x7 (by omega) (by exact HQ5.out)).mono ?_; rw [HN.out.2]; rintro e w6 ⟨rfl, hK6⟩; have H6 := Lib.hid (H5.out.drew.nope hK6); clear hK6)) | (go_at_call 45; go_must (refine (Len_any r s D (i + 8) _ H6.out.buf).mono ?_; rintro e w7 ⟨rfl, k7, rfl⟩; have H7 := Lib.hid (H6.out.drewN k7))))
    go_ret2
    exact ⟨rfl, H7.out⟩
set_option maxRecDepth 100000 in
set_option maxHeartbeats 800000 in
theorem readMap32Header_cut0 (h : Buf w r s D i) (hl : D.length < i + 8) :
    Calls Tryz.prog 170 #[.pointer (some ⟨r, 0, none⟩)] w (Fails w r) := by
    have HB := Lib.hid h
    clear h
    go_enter Tryz.func170, Tryz.ntmps170
    go_wp2_with ((go_at_call 45; go_must (refine (Len_any r s D i _ HB.out).mono ?_; rintro e w2 ⟨rfl, k2, rfl⟩; have H2 := Lib.hid ((At_.refl HB.out).drewN k2))))
    go_wp2_with ((go_at_call 142; go_must (refine (Next_no r s D (i) _ 8 H2.out.buf (by omega) (by omega)).mono ?_; rintro e w3 ⟨v, b, rfl, rfl, hA3⟩; have H3 := Lib.hid (H2.out.trans hA3); clear hA3)))
    go_wp2_with ((go_at_call 46; go_must (refine (errorsNew_any _ _).mono ?_; rintro e w9 ⟨v9, rfl, ⟨T, z, rfl⟩, hK9⟩; have H9 := Lib.hid (H3.out.nope hK9); clear hK9)))
    go_ret2
    exact ⟨_, _, rfl, ⟨_, _, rfl⟩, H9.out.kept⟩
set_option maxRecDepth 100000 in
set_option maxHeartbeats 800000 in
theorem readMap32Header_cut (x0 x1 x2 x3 x4 x5 x6 x7 : UInt8) (h : Buf w r s D i) (h0 : D[i]? = some x0 ∧ D[i + 1]? = some x1 ∧ D[i + 2]? = some x2 ∧ D[i + 3]? = some x3 ∧ D[i + 4]? = some x4 ∧ D[i + 5]? = some x5 ∧ D[i + 6]? = some x6 ∧ D[i + 7]? = some x7) (hl : D.length < i + 4 + Lib.beNat [x0, x1, x2, x3]) :
    Calls Tryz.prog 170 #[.pointer (some ⟨r, 0, none⟩)] w (Fails w r) := by
    have HB := Lib.hid h
    have hb := beNat4_lt x0 x1 x2 x3
    have hb' := beNat4_lt x4 x5 x6 x7
    generalize hN : Lib.beNat [x0, x1, x2, x3] = N at *
    generalize hM : Lib.beNat [x4, x5, x6, x7] = M at *
    have HN := Lib.hid (And.intro hN hM)
    have hx1 : (N : Int) ≤ 4294967295 := by omega
    have hx2 : (0 : Int) ≤ N := by omega
    have hx3 : (M : Int) ≤ 4294967295 := by omega
    have hx4 : (0 : Int) ≤ M := by omega
    have HX := Lib.hid h0
    have hle := h.le
    have hsm := h.small
    have hi9 := (List.getElem?_eq_some_iff.1 h0.2.2.2.2.2.2.2).1
    clear h h0 hN hM hb hb'
    have e1 : IntKind.i64.wrap ((D.length : Int) - ↑i - 4) = (D.length : Int) - ↑i - 4 := IntWalk.i64_in _ (by omega)
    go_enter Tryz.func170, Tryz.ntmps170
    go_wp2_with ((go_at_call 45; go_must (refine (Len_any r s D i _ HB.out).mono ?_; rintro e w2 ⟨rfl, k2, rfl⟩; have H2 := Lib.hid ((At_.refl HB.out).drewN k2))))
    go_wp2_with ((go_at_call 142; go_must (refine (Next_at r s D (i) _ 8 H2.out.buf (by omega) (by omega)).mono ?_; rintro e w3 ⟨v, b, rfl, rfl, ⟨g, off, c4, rfl, hg, hgc, hcm, hcell⟩, hA2⟩; have HQ := Lib.hid (eight HX.out hcell); have q7 := HQ.out.2.2; have hc48 : ¬ c4 = 4 := (by omega); have hc8 : (8 : Int) ≤ (c4 : Int) := (by omega); have hc44 : (4 : Int) ≤ (c4 : Int) := (by omega); clear hcell; have H3 := Lib.hid (H2.out.trans hA2); clear hA2 hg hcm)))
    refine wp_region_tail 3 (by kernel_rfl) (by kernel_rfl) (fun K hK => ?_)
    simp only [List.take_succ_cons, List.take_zero, List.drop_succ_cons, List.drop_zero] at hK ⊢
    repeat still_step
    refine wpStill_nil (hK _ ?_)
    clear hK K
    go_wp2_with (first | (go_at_call 143; go_must (refine (beU32 _ g off 4 c4 x0 x1 x2 x3 (by omega) (by exact HQ.out.1)).mono ?_; rw [HN.out.1]; rintro e w5 ⟨rfl, hK5⟩; have HQ5 := Lib.hid (fun j x hx => hK5.cell (HQ.out.2.1 j x hx) (fun h => h)); have H5 := Lib.hid (H3.out.drew.nope hK5); clear hK5)) | (go_at_call 46; go_must (refine (errorsNew_any _ _).mono ?_; rintro e w9 ⟨v9, rfl, ⟨T, z, rfl⟩, hK9⟩; have H9 := Lib.hid (H5.out.nope hK9); clear hK9)))
    go_ret2
    exact ⟨_, _, rfl, ⟨_, _, rfl⟩, H9.out.kept⟩
theorem readMapHeader_8_ok (n j : Nat) (h : Buf w r s D i) (hc : D[i]? = some 193)
    (hh : ∀ W, Buf W r s D (i + 1) → Calls Tryz.prog 169 #[.pointer (some ⟨r, 0, none⟩)] W fun e W' => e = .returned (.tuple #[.int .u32 n, .nilIface]) ∧ At_ W W' r s D j) :
    Calls Tryz.prog 157 #[.pointer (some ⟨r, 0, none⟩)] w fun e w' => e = .returned (.tuple #[.int .u32 n, .nilIface]) ∧ At_ w w' r s D j := by
    have ht := peekType_yes r s D i w _ h hc
    have HT := Lib.hid ht
    have HB := Lib.hid h
    have HC := Lib.hid hc
    have HH := Lib.hid hh
    clear ht h hc hh
    go_enter Tryz.func157, Tryz.ntmps157
    go_wp2_with (first | (go_at_call 144; go_must (refine HT.out.mono ?_; rintro e w1 ⟨rfl, k1, rfl⟩; have H1 := Lib.hid ((At_.refl HB.out).drewN k1))) | (go_at_call 140; go_must (refine (ReadByte_yes r s D i _ _ H1.out.buf (by exact HC.out)).mono ?_; rintro e w2 ⟨rfl, hA2⟩; have H2 := Lib.hid (H1.out.trans hA2); clear hA2)) | (go_at_call 169; go_must (refine (HH.out _ H2.out.buf).mono ?_; rintro e w3 ⟨rfl, hA3⟩; have H3 := Lib.hid (H2.out.trans hA3); clear hA3)))
    go_ret2
    exact ⟨rfl, H3.out⟩
theorem readMapHeader_8_bad (h : Buf w r s D i) (hc : D[i]? = some 193)
    (hh : ∀ W, Buf W r s D (i + 1) → Calls Tryz.prog 169 #[.pointer (some ⟨r, 0, none⟩)] W (Fails W r)) :
    Calls Tryz.prog 157 #[.pointer (some ⟨r, 0, none⟩)] w (Gives2 fun _ v w' => IsErr v ∧ Kept (Only r) w w') := by
    have ht := peekType_yes r s D i w _ h hc
    have HT := Lib.hid ht
    have HB := Lib.hid h
    have HC := Lib.hid hc
    have HH := Lib.hid hh
    clear ht h hc hh
    go_enter Tryz.func157, Tryz.ntmps157
    go_wp2_with (first | (go_at_call 144; go_must (refine HT.out.mono ?_; rintro e w1 ⟨rfl, k1, rfl⟩; have H1 := Lib.hid ((At_.refl HB.out).drewN k1))) | (go_at_call 140; go_must (refine (ReadByte_yes r s D i _ _ H1.out.buf (by exact HC.out)).mono ?_; rintro e w2 ⟨rfl, hA2⟩; have H2 := Lib.hid (H1.out.trans hA2); clear hA2)) | (go_at_call 169; go_must (refine (HH.out _ H2.out.buf).mono ?_; rintro e w3 ⟨x, v, rfl, ⟨T, z, rfl⟩, hK3⟩; have H3 := Lib.hid (H2.out.kept.trans' hK3); clear hK3)))
    go_ret2
    exact ⟨_, _, rfl, ⟨_, _, rfl⟩, H3.out⟩
theorem readMapHeader_32_ok (n j : Nat) (h : Buf w r s D i) (hc : D[i]? = some 209)
    (hh : ∀ W, Buf W r s D (i + 1) → Calls Tryz.prog 170 #[.pointer (some ⟨r, 0, none⟩)] W fun e W' => e = .returned (.tuple #[.int .u32 n, .nilIface]) ∧ At_ W W' r s D j) :
    Calls Tryz.prog 157 #[.pointer (some ⟨r, 0, none⟩)] w fun e w' => e = .returned (.tuple #[.int .u32 n, .nilIface]) ∧ At_ w w' r s D j := by
    have ht := peekType_yes r s D i w _ h hc
    have HT := Lib.hid ht
    have HB := Lib.hid h
    have HC := Lib.hid hc
    have HH := Lib.hid hh
    clear ht h hc hh
    go_enter Tryz.func157, Tryz.ntmps157
    go_wp2_with (first | (go_at_call 144; go_must (refine HT.out.mono ?_; rintro e w1 ⟨rfl, k1, rfl⟩; have H1 := Lib.hid ((At_.refl HB.out).drewN k1))) | (go_at_call 140; go_must (refine (ReadByte_yes r s D i _ _ H1.out.buf (by exact HC.out)).mono ?_; rintro e w2 ⟨rfl, hA2⟩; have H2 := Lib.hid (H1.out.trans hA2); clear hA2)) | (go_at_call 170; go_must (refine (HH.out _ H2.out.buf).mono ?_; rintro e w3 ⟨rfl, hA3⟩; have H3 := Lib.hid (H2.out.trans hA3); clear hA3)))
    go_ret2
    exact ⟨rfl, H3.out⟩
theorem readMapHeader_32_bad (h : Buf w r s D i) (hc : D[i]? = some 209)
    (hh : ∀ W, Buf W r s D (i + 1) → Calls Tryz.prog 170 #[.pointer (some ⟨r, 0, none⟩)] W (Fails W r)) :
    Calls Tryz.prog 157 #[.pointer (some ⟨r, 0, none⟩)] w (Gives2 fun _ v w' => IsErr v ∧ Kept (Only r) w w') := by
    have ht := peekType_yes r s D i w _ h hc
    have HT := Lib.hid ht
    have HB := Lib.hid h
    have HC := Lib.hid hc
    have HH := Lib.hid hh
    clear ht h hc hh
    go_enter Tryz.func157, Tryz.ntmps157
    go_wp2_with (first | (go_at_call 144; go_must (refine HT.out.mono ?_; rintro e w1 ⟨rfl, k1, rfl⟩; have H1 := Lib.hid ((At_.refl HB.out).drewN k1))) | (go_at_call 140; go_must (refine (ReadByte_yes r s D i _ _ H1.out.buf (by exact HC.out)).mono ?_; rintro e w2 ⟨rfl, hA2⟩; have H2 := Lib.hid (H1.out.trans hA2); clear hA2)) | (go_at_call 170; go_must (refine (HH.out _ H2.out.buf).mono ?_; rintro e w3 ⟨x, v, rfl, ⟨T, z, rfl⟩, hK3⟩; have H3 := Lib.hid (H2.out.kept.trans' hK3); clear hK3)))
    go_ret2
    exact ⟨_, _, rfl, ⟨_, _, rfl⟩, H3.out⟩
theorem readMapHeader_none (h : Buf w r s D i) (hx : D.length ≤ i) :
    Calls Tryz.prog 157 #[.pointer (some ⟨r, 0, none⟩)] w (Fails w r) := by
    have ht := peekType_no r s D i w h hx
    have HT := Lib.hid ht
    have HB := Lib.hid h
    clear ht h hx
    go_enter Tryz.func157, Tryz.ntmps157
    go_wp2_with ((go_at_call 144; go_must (refine HT.out.mono ?_; rintro e w1 ⟨x, v, rfl, rfl, ⟨T, z, rfl⟩, k1, rfl⟩; have H1 := Lib.hid ((At_.refl HB.out).drewN k1))))
    go_ret2
    exact ⟨_, _, rfl, ⟨_, _, rfl⟩, H1.out.kept⟩
theorem readMapHeader_other (c : UInt8) (h : Buf w r s D i) (hc : D[i]? = some c) (hn : c ≠ 193 ∧ c ≠ 209) :
    Calls Tryz.prog 157 #[.pointer (some ⟨r, 0, none⟩)] w (Fails w r) := by
    have n0 : ¬ (c.toNat : Int) = 193 := fun e => hn.1 (UInt8.toNat.inj (Int.ofNat.inj e))
    have n1 : ¬ (c.toNat : Int) = 209 := fun e => hn.2 (UInt8.toNat.inj (Int.ofNat.inj e))
    have ht := peekType_yes r s D i w _ h hc
    have HT := Lib.hid ht
    have HB := Lib.hid h
    clear ht h hc hn
    go_enter Tryz.func157, Tryz.ntmps157
    go_wp2_with (first | (go_at_call 144; go_must (refine HT.out.mono ?_; rintro e w1 ⟨rfl, k1, rfl⟩; have H1 := Lib.hid ((At_.refl HB.out).drewN k1))) | (go_at_call 46; go_must (refine (errorsNew_any _ _).mono ?_; rintro e w9 ⟨v9, rfl, ⟨T, z, rfl⟩, hK9⟩; have H9 := Lib.hid (H1.out.nope hK9); clear hK9)))
    go_ret2
    exact ⟨_, _, rfl, ⟨_, _, rfl⟩, H9.out.kept⟩
theorem tryReadNull_yes (h : Buf w r s D i) (hc : D[i]? = some 64) :
    Calls Tryz.prog 94 #[.pointer (some ⟨r, 0, none⟩)] w fun e w' => e = .returned (.bool true) ∧ At_ w w' r s D (i + 1) := by
    have hlt := (List.getElem?_eq_some_iff.1 hc).1
    have h0 : (D.drop i)[0]? = some 64 := by simpa using hc
    have HX := Lib.hid h0
    have HB := Lib.hid h
    have hlt' : (i : Int) < (D.length : Int) := by omega
    clear h hc h0
    go_enter Tryz.func94, Tryz.ntmps94
    go_wp2_with (first | (go_at_call 45; go_must (refine (Len_any r s D i _ HB.out).mono ?_; rintro e w1 ⟨rfl, k1, rfl⟩; have H1 := Lib.hid ((At_.refl HB.out).drewN k1))) | (go_at_call 44; go_must (refine (Bytes_any r s D i _ H1.out.buf).mono ?_; rintro e w2 ⟨v, rfl, hB, k2, rfl⟩; obtain ⟨g, off, c4, rfl, _, hgc, hcm, q0⟩ := hB.at_ HX.out; rw [Nat.add_zero] at q0; have q1 : w.cell? ⟨g, off, none⟩ = some (.int .u8 64) := q0; clear q0; have H2 := Lib.hid ((At_.refl HB.out).drewN (k1 + k2)); clear hB)) | (go_at_call 102; go_must (refine (Skip_any r s D i _ 1 H2.out.buf (by omega)).mono ?_; rintro e w3 ⟨rfl, hA3⟩; have H3 := Lib.hid (H2.out.trans hA3); clear hA3)))
    go_ret
    exact ⟨rfl, H3.out⟩
theorem tryReadNull_no (c : UInt8) (h : Buf w r s D i) (hc : D[i]? = some c) (hn : c ≠ 64) :
    Calls Tryz.prog 94 #[.pointer (some ⟨r, 0, none⟩)] w fun e w' => e = .returned (.bool false) ∧ At_ w w' r s D i := by
    have n0 : ¬ (c.toNat : Int) = 64 := fun e => hn (UInt8.toNat.inj (Int.ofNat.inj e))
    have hlt := (List.getElem?_eq_some_iff.1 hc).1
    have h0 : (D.drop i)[0]? = some c := by simpa using hc
    have HX := Lib.hid h0
    have HB := Lib.hid h
    have hlt' : (i : Int) < (D.length : Int) := by omega
    clear h hc h0 hn
    go_enter Tryz.func94, Tryz.ntmps94
    go_wp2_with (first | (go_at_call 45; go_must (refine (Len_any r s D i _ HB.out).mono ?_; rintro e w1 ⟨rfl, k1, rfl⟩; have H1 := Lib.hid ((At_.refl HB.out).drewN k1))) | (go_at_call 44; go_must (refine (Bytes_any r s D i _ H1.out.buf).mono ?_; rintro e w2 ⟨v, rfl, hB, k2, rfl⟩; obtain ⟨g, off, c4, rfl, _, hgc, hcm, q0⟩ := hB.at_ HX.out; rw [Nat.add_zero] at q0; have q1 : w.cell? ⟨g, off, none⟩ = some (.int .u8 c.toNat) := q0; clear q0; have H2 := Lib.hid ((At_.refl HB.out).drewN (k1 + k2)); clear hB)))
    go_ret
    exact ⟨rfl, H2.out⟩
theorem tryReadNull_none (h : Buf w r s D i) (hx : D.length ≤ i) :
    Calls Tryz.prog 94 #[.pointer (some ⟨r, 0, none⟩)] w fun e w' => e = .returned (.bool false) ∧ At_ w w' r s D i := by
    have hle := h.le
    have HB := Lib.hid h
    have hlt' : ¬ (i : Int) < (D.length : Int) := by omega
    have hlt2 : (D.length : Int) ≤ (i : Int) := by omega
    clear h
    go_enter Tryz.func94, Tryz.ntmps94
    go_wp2_with ((go_at_call 45; go_must (refine (Len_any r s D i _ HB.out).mono ?_; rintro e w1 ⟨rfl, k1, rfl⟩; have H1 := Lib.hid ((At_.refl HB.out).drewN k1))))
    go_ret
    exact ⟨rfl, H1.out⟩
end
end Go.Proofs.YtbckofjoancdjaaGreatDoor
