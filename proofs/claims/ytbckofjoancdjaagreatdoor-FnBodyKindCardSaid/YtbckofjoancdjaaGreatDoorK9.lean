/- Package encoding: texts and bytes. Package encoding: texts and bytes, on. -/
import Derived.Test.YtbckofjoancdjaaGreatDoorK8
import Derived.Lib.ConvBytes
import Derived.Deep.RegionWith
namespace Go.Proofs.YtbckofjoancdjaaGreatDoor
open Go Go.RowKit Go.Lib
theorem run_bytes_str {P : Program} {S : Nat → Prop} {w : World} {v : Value} {bs : List UInt8} (src dst e : TypeId) (hs : P.underlying src = some (.slice e)) (he : P.underlying e = some (.int .u8)) (hd : P.underlying dst = some .string)
    (h : BSl S w v bs) : (convert src dst v).run P w = .ok (.string ⟨bs.toArray⟩) w := by
  obtain ⟨a, c, rfl, _, _, h⟩ := h
  have hb : ∀ bs : List UInt8, strOfNums (bs.map fun x => (x.toNat : Int)) = ⟨bs.toArray⟩ := by
    intro bs
    unfold strOfNums
    congr 2
    rw [List.map_map]
    conv => rhs; rw [← List.map_id bs]
    apply List.map_congr_left
    intro x _
    simp
  rcases h with rfl | ⟨b, off, rfl, _, h⟩
  · rcases a with _ | a
    · rw [List.length_nil, run_convert_bytes_nil w src e hs he _ _ dst hd]; rfl
    · rw [List.length_nil, run_convert_bytes_string w src dst e _ _ _ hs he hd]; simp [Conv.bytesToString]; rfl
  · rw [run_convert_bytes_arg w src e hs he b off bs.length c (bs.map fun x => (x.toNat : Int)) (by simp) (fun i hi => ?_) dst hd, hb]
    have hx : bs[i]? = some bs[i] := List.getElem?_eq_getElem hi
    rw [h i _ hx]
    simp [u8, List.getD, hx]
def sub (D : List UInt8) (i n : Nat) : List UInt8 := (D.drop i).take n
theorem info_u8 : (Tryz.prog.info? 5).map (fun i => (i.zero, i.size, i.bytes)) = some (some (.int .u8 0), 1, 1) := by kernel_rfl
section
variable (r : Nat) (s : Value) (D : List UInt8) (i : Nat) (w : World)
theorem Next_at (n : Nat) (h : Buf w r s D i) (hn : i + n ≤ D.length) (h0 : 0 < n) :
    Calls Tryz.prog 142 #[.pointer (some ⟨r, 0, none⟩), .int .i64 n] w (Gives2 fun v b w' => b = .bool true ∧ (∃ g off c, v = .slice (some ⟨g, off, none⟩) n c ∧ g ≠ r ∧ n ≤ c ∧ c ≤ maxLen ∧
      ∀ j x, j < n → D[i + j]? = some x → w'.cell? ⟨g, off + j, none⟩ = some (.int .u8 x.toNat)) ∧ At_ w w' r s D (i + n)) :=
  (Next_yes r s D i w n h hn).mono fun e w' ⟨v, b, he, hb, hB, hA⟩ => ⟨v, b, he, hb, by
    have hl : ((D.drop i).take n).length = n := by simp; omega
    obtain ⟨a, c, rfl, hc, hm, hB⟩ := hB
    rcases hB with e | ⟨g, off, rfl, hg, hB⟩
    · rw [e] at hl; simp at hl; omega
    · refine ⟨g, off, c, by rw [hl], hg, by omega, hm, fun j x hj hx => hB j x ?_⟩
      rw [List.getElem?_take, if_pos hj, List.getElem?_drop]; exact hx, hA⟩
theorem beU32 (W : World) (g off n c : Nat) (x0 x1 x2 x3 : UInt8) (hn : 4 ≤ n) (hc : ∀ j x, [x0, x1, x2, x3][j]? = some x → W.cell? ⟨g, off + j, none⟩ = some (.int .u8 x.toNat)) :
    Calls Tryz.prog 143 #[.agg #[], .slice (some ⟨g, off, none⟩) n c] W fun e w' => e = .returned (.int .u32 (Lib.beNat [x0, x1, x2, x3])) ∧ Kept Nope W w' :=
  (Tryz.binary_BE_Uint32 g off n c x0 x1 x2 x3 W hn (hc 0 x0 rfl) (hc 1 x1 rfl) (hc 2 x2 rfl) (hc 3 x3 rfl)).mono fun _ _ ⟨he, hb⟩ => ⟨he, Kept.below hb rfl⟩
set_option maxRecDepth 100000 in
set_option maxHeartbeats 400000 in
theorem ReadString_1 (c x0 : UInt8) (hcc : c = 0xa1 ∨ c = 0xa3) (h : Buf w r s D i) (hc : D[i]? = some c) (h0 : D[i + 1]? = some x0) (hl : i + 2 + x0.toNat ≤ D.length) :
    Calls Tryz.prog 113 #[.pointer (some ⟨r, 0, none⟩)] w fun e w' => e = .returned (.tuple #[.string ⟨(sub D (i + 2) x0.toNat).toArray⟩, .nilIface]) ∧ At_ w w' r s D (i + 2 + x0.toNat) := by
  rcases hcc with rfl | rfl
  all_goals
    have ht := readType_yes r s D i w _ h hc
    have HT := Lib.hid ht
    have HX := Lib.hid (And.intro h0 hl)
    have hx0 := x0.toNat_lt
    have hx1 : (x0.toNat : Int) ≤ 255 := by omega
    have hx2 : (0 : Int) ≤ x0.toNat := by omega
    clear ht h hc h0 hl
    go_enter Tryz.func113, Tryz.ntmps113
    go_wp2_with (first | (go_at_call 99; go_must (refine HT.out.mono ?_; rintro e w1 ⟨rfl, hA1⟩; have H1 := Lib.hid hA1; clear hA1)) | (go_at_call 140; go_must (refine (ReadByte_yes r s D (i + 1) _ x0 H1.out.buf (by exact HX.out.1)).mono ?_; rintro e w2 ⟨rfl, hA2⟩; have H2 := Lib.hid (H1.out.trans hA2); clear hA2)) | (go_at_call 142; go_must (refine (Next_yes r s D (i + 1 + 1) _ x0.toNat H2.out.buf (by exact HX.out.2)).mono ?_; rintro e w3 ⟨v, b, rfl, rfl, hB, hA3⟩; have hcv := run_bytes_str 26 9 5 Tryz.underlying26 Tryz.underlying5 Tryz.underlying9 hB; have H3 := Lib.hid (H2.out.trans hA3); clear hA3 hB)))
    go_ret2
    exact ⟨rfl, H3.out⟩
end
end Go.Proofs.YtbckofjoancdjaaGreatDoor
namespace Go.Proofs.YtbckofjoancdjaaGreatDoor
open Go Go.RowKit Go.Lib
theorem BSl.len' {S : Nat → Prop} {w : World} {v : Value} {D : List UInt8} {i n : Nat} (_hb : BSl S w v ((D.drop i).take n)) : ((D.drop i).take n).length ≤ D.length := by simp; omega
section
variable (r : Nat) (s : Value) (D : List UInt8) (i : Nat) (w : World)
set_option maxRecDepth 100000 in
set_option maxHeartbeats 400000 in
theorem ReadString_1_cut0 (c : UInt8) (hcc : c = 0xa1 ∨ c = 0xa3) (h : Buf w r s D i) (hc : D[i]? = some c) (hl : D.length ≤ i + 1) :
    Calls Tryz.prog 113 #[.pointer (some ⟨r, 0, none⟩)] w (Fails w r) := by
  rcases hcc with rfl | rfl
  all_goals
    have ht := readType_yes r s D i w _ h hc
    have HT := Lib.hid ht
    have HX := Lib.hid hl
    clear ht h hc hl
    go_enter Tryz.func113, Tryz.ntmps113
    go_wp2_with (first | (go_at_call 99; go_must (refine HT.out.mono ?_; rintro e w1 ⟨rfl, hA1⟩; have H1 := Lib.hid hA1; clear hA1)) | (go_at_call 140; go_must (refine (ReadByte_no r s D (i + 1) _ H1.out.buf (by exact HX.out)).mono ?_; rintro e w2 ⟨x, v, rfl, rfl, ⟨T, z, rfl⟩, hA2⟩; have H2 := Lib.hid (H1.out.trans hA2); clear hA2)))
    go_ret2
    exact ⟨_, _, rfl, ⟨_, _, rfl⟩, H2.out.kept⟩
set_option maxRecDepth 100000 in
set_option maxHeartbeats 400000 in
theorem ReadString_1_cut (c x0 : UInt8) (hcc : c = 0xa1 ∨ c = 0xa3) (h : Buf w r s D i) (hc : D[i]? = some c) (h0 : D[i + 1]? = some x0) (hl : D.length < i + 2 + x0.toNat) :
    Calls Tryz.prog 113 #[.pointer (some ⟨r, 0, none⟩)] w (Fails w r) := by
  rcases hcc with rfl | rfl
  all_goals
    have ht := readType_yes r s D i w _ h hc
    have HT := Lib.hid ht
    have HX := Lib.hid (And.intro h0 hl)
    have hx0 := x0.toNat_lt
    have hx1 : (x0.toNat : Int) ≤ 255 := by omega
    have hx2 : (0 : Int) ≤ x0.toNat := by omega
    clear ht h hc h0 hl
    go_enter Tryz.func113, Tryz.ntmps113
    go_wp2_with (first | (go_at_call 99; go_must (refine HT.out.mono ?_; rintro e w1 ⟨rfl, hA1⟩; have H1 := Lib.hid hA1; clear hA1)) | (go_at_call 140; go_must (refine (ReadByte_yes r s D (i + 1) _ x0 H1.out.buf (by exact HX.out.1)).mono ?_; rintro e w2 ⟨rfl, hA2⟩; have H2 := Lib.hid (H1.out.trans hA2); clear hA2)) | (go_at_call 142; go_must (refine (Next_no r s D (i + 1 + 1) _ x0.toNat H2.out.buf (by have := HX.out; omega) (by omega)).mono ?_; rintro e w3 ⟨v, b, rfl, rfl, hA3⟩; have H3 := Lib.hid (H2.out.trans hA3); clear hA3)) | (go_at_call 46; go_must (refine (errorsNew_any _ _).mono ?_; rintro e w9 ⟨v9, rfl, ⟨T, z, rfl⟩, hK9⟩; have H9 := Lib.hid (H3.out.nope hK9); clear hK9)))
    go_ret2
    exact ⟨_, _, rfl, ⟨_, _, rfl⟩, H9.out.kept⟩
theorem four {W : World} {g off k : Nat} {D : List UInt8} {x0 x1 x2 x3 : UInt8} {n : Nat} (h0 : D[k]? = some x0) (h1 : D[k + 1]? = some x1) (h2 : D[k + 2]? = some x2) (h3 : D[k + 3]? = some x3)
    (hc : ∀ j x, j < n + 4 → D[k + j]? = some x → W.cell? ⟨g, off + j, none⟩ = some (.int .u8 x.toNat)) : ∀ j x, [x0, x1, x2, x3][j]? = some x → W.cell? ⟨g, off + j, none⟩ = some (.int .u8 x.toNat) := by
  intro j x hx
  match j, hx with
  | 0, hx => exact hc 0 x (by omega) (by simpa using h0.trans hx)
  | 1, hx => exact hc 1 x (by omega) (h1.trans hx)
  | 2, hx => exact hc 2 x (by omega) (h2.trans hx)
  | 3, hx => exact hc 3 x (by omega) (h3.trans hx)
  | j + 4, hx => simp at hx
set_option maxRecDepth 100000 in
set_option maxHeartbeats 400000 in
theorem ReadString_4 (c x0 x1 x2 x3 : UInt8) (hcc : c = 0xb1 ∨ c = 0xb3) (h : Buf w r s D i) (hc : D[i]? = some c) (h0 : D[i + 1]? = some x0) (h1 : D[i + 2]? = some x1) (h2 : D[i + 3]? = some x2) (h3 : D[i + 4]? = some x3) (hl : i + 5 + Lib.beNat [x0, x1, x2, x3] ≤ D.length) :
    Calls Tryz.prog 113 #[.pointer (some ⟨r, 0, none⟩)] w fun e w' => e = .returned (.tuple #[.string ⟨(sub D (i + 5) (Lib.beNat [x0, x1, x2, x3])).toArray⟩, .nilIface]) ∧ At_ w w' r s D (i + 5 + Lib.beNat [x0, x1, x2, x3]) := by
  rcases hcc with rfl | rfl
  all_goals
    have ht := readType_yes r s D i w _ h hc
    have HT := Lib.hid ht
    have hb := beNat4_lt x0 x1 x2 x3
    generalize hN : Lib.beNat [x0, x1, x2, x3] = N at *
    have HN := Lib.hid hN
    have hx1 : (N : Int) ≤ 4294967295 := by omega
    have hx2 : (0 : Int) ≤ N := by omega
    have HX := Lib.hid (And.intro h0 (And.intro h1 (And.intro h2 (And.intro h3 hl))))
    clear ht h hc h0 h1 h2 h3 hl hN hb
    go_enter Tryz.func113, Tryz.ntmps113
    go_wp2_with ((go_at_call 99; go_must (refine HT.out.mono ?_; rintro e w1 ⟨rfl, hA1⟩; have H1 := Lib.hid hA1; clear hA1)))
    go_wp2_with ((go_at_call 142; go_must (refine (Next_at r s D (i + 1) _ 4 H1.out.buf (by have := HX.out.2.2.2.1; have := HX.out.2.2.2.2; have := (List.getElem?_eq_some_iff.1 HX.out.2.2.2.1).1; omega) (by omega)).mono ?_; rintro e w2 ⟨v, b, rfl, rfl, ⟨g, off, c4, rfl, hg, hgc, hcm, hcell⟩, hA2⟩; have HC4 := Lib.hid (And.intro hg (And.intro hgc (And.intro hcm hcell))); have H2 := Lib.hid (H1.out.trans hA2); clear hA2 hg hgc hcm hcell)))
    go_wp2_with ((go_at_call 143; go_must (refine (beU32 _ g off 4 c4 x0 x1 x2 x3 (by omega) (by exact four HX.out.1 HX.out.2.1 HX.out.2.2.1 HX.out.2.2.2.1 HC4.out.2.2.2)).mono ?_; rw [HN.out]; rintro e w5 ⟨rfl, hK5⟩; have H5 := Lib.hid (H2.out.nope hK5); clear hK5)))
    go_wp2_with ((go_at_call 142; go_must (refine (Next_yes r s D (i + 1 + 4) _ N H5.out.buf (by exact HX.out.2.2.2.2)).mono ?_; rintro e w3 ⟨v, b, rfl, rfl, hB, hA3⟩; have hcv := run_bytes_str 26 9 5 Tryz.underlying26 Tryz.underlying5 Tryz.underlying9 hB; have H3 := Lib.hid (H5.out.trans hA3); clear hA3 hB)))
    go_ret2
    exact ⟨rfl, H3.out⟩
set_option maxRecDepth 100000 in
set_option maxHeartbeats 400000 in
theorem ReadString_4_cut0 (c : UInt8) (hcc : c = 0xb1 ∨ c = 0xb3) (h : Buf w r s D i) (hc : D[i]? = some c) (hl : D.length < i + 5) :
    Calls Tryz.prog 113 #[.pointer (some ⟨r, 0, none⟩)] w (Fails w r) := by
  rcases hcc with rfl | rfl
  all_goals
    have ht := readType_yes r s D i w _ h hc
    have HT := Lib.hid ht
    have HX := Lib.hid hl
    clear ht h hc hl
    go_enter Tryz.func113, Tryz.ntmps113
    go_wp2_with ((go_at_call 99; go_must (refine HT.out.mono ?_; rintro e w1 ⟨rfl, hA1⟩; have H1 := Lib.hid hA1; clear hA1)))
    go_wp2_with ((go_at_call 142; go_must (refine (Next_no r s D (i + 1) _ 4 H1.out.buf (by have := HX.out; omega) (by omega)).mono ?_; rintro e w3 ⟨v, b, rfl, rfl, hA3⟩; have H3 := Lib.hid (H1.out.trans hA3); clear hA3)))
    go_wp2_with ((go_at_call 46; go_must (refine (errorsNew_any _ _).mono ?_; rintro e w9 ⟨v9, rfl, ⟨T, z, rfl⟩, hK9⟩; have H9 := Lib.hid (H3.out.nope hK9); clear hK9)))
    go_ret2
    exact ⟨_, _, rfl, ⟨_, _, rfl⟩, H9.out.kept⟩
set_option maxRecDepth 100000 in
set_option maxHeartbeats 400000 in
theorem ReadString_4_cut (c x0 x1 x2 x3 : UInt8) (hcc : c = 0xb1 ∨ c = 0xb3) (h : Buf w r s D i) (hc : D[i]? = some c) (h0 : D[i + 1]? = some x0) (h1 : D[i + 2]? = some x1) (h2 : D[i + 3]? = some x2) (h3 : D[i + 4]? = some x3) (hl : D.length < i + 5 + Lib.beNat [x0, x1, x2, x3]) :
    Calls Tryz.prog 113 #[.pointer (some ⟨r, 0, none⟩)] w (Fails w r) := by
  rcases hcc with rfl | rfl
  all_goals
    have ht := readType_yes r s D i w _ h hc
    have HT := Lib.hid ht
    have hb := beNat4_lt x0 x1 x2 x3
    generalize hN : Lib.beNat [x0, x1, x2, x3] = N at *
    have HN := Lib.hid hN
    have hx1 : (N : Int) ≤ 4294967295 := by omega
    have hx2 : (0 : Int) ≤ N := by omega
    have HX := Lib.hid (And.intro h0 (And.intro h1 (And.intro h2 (And.intro h3 hl))))
    clear ht h hc h0 h1 h2 h3 hl hN hb
    go_enter Tryz.func113, Tryz.ntmps113
    go_wp2_with ((go_at_call 99; go_must (refine HT.out.mono ?_; rintro e w1 ⟨rfl, hA1⟩; have H1 := Lib.hid hA1; clear hA1)))
    go_wp2_with ((go_at_call 142; go_must (refine (Next_at r s D (i + 1) _ 4 H1.out.buf (by have := HX.out.2.2.2.1; have := HX.out.2.2.2.2; have := (List.getElem?_eq_some_iff.1 HX.out.2.2.2.1).1; omega) (by omega)).mono ?_; rintro e w2 ⟨v, b, rfl, rfl, ⟨g, off, c4, rfl, hg, hgc, hcm, hcell⟩, hA2⟩; have HC4 := Lib.hid (And.intro hg (And.intro hgc (And.intro hcm hcell))); have H2 := Lib.hid (H1.out.trans hA2); clear hA2 hg hgc hcm hcell)))
    go_wp2_with ((go_at_call 143; go_must (refine (beU32 _ g off 4 c4 x0 x1 x2 x3 (by omega) (by exact four HX.out.1 HX.out.2.1 HX.out.2.2.1 HX.out.2.2.2.1 HC4.out.2.2.2)).mono ?_; rw [HN.out]; rintro e w5 ⟨rfl, hK5⟩; have H5 := Lib.hid (H2.out.nope hK5); clear hK5)))
    go_wp2_with ((go_at_call 142; go_must (refine (Next_no r s D (i + 1 + 4) _ N H5.out.buf (by have := HX.out.2.2.2.2; omega) (by omega)).mono ?_; rintro e w3 ⟨v, b, rfl, rfl, hA3⟩; have H3 := Lib.hid (H5.out.trans hA3); clear hA3)))
    go_wp2_with ((go_at_call 46; go_must (refine (errorsNew_any _ _).mono ?_; rintro e w9 ⟨v9, rfl, ⟨T, z, rfl⟩, hK9⟩; have H9 := Lib.hid (H3.out.nope hK9); clear hK9)))
    go_ret2
    exact ⟨_, _, rfl, ⟨_, _, rfl⟩, H9.out.kept⟩
theorem sub_length (D : List UInt8) (i n : Nat) (h : i + n ≤ D.length) : (sub D i n).length = n := by unfold sub; simp; omega
theorem copied_piece {r : Nat} {s : Value} {D : List UInt8} {j : Nat} {w w3 w4 : World} {v4 : Value} {bs : List UInt8} (hA : At_ w w3 r s D j) (hown : w4.ownsRow w.heap.size 5 1 v4 (0 + bs.length) ([] ++ bs.map u8)) (hg : w3.grownBy w4 none) :
    BSl (fun b => w.heap.size ≤ b) w4 v4 bs ∧ At_ w w4 r s D j := by
  have hk : Kept Nope w3 w4 := (Kept.refl Nope w3).grown hg (fun k hk => by cases hk)
  refine ⟨?_, hA.nope hk⟩
  have h1 : w4.ownsRow w.heap.size 5 1 v4 bs.length (bs.map u8) := by simpa using hown
  exact (BSl.ofOwn h1).mono fun b _ hb => (h1.lt b hb).1
set_option maxRecDepth 100000 in
set_option maxHeartbeats 400000 in
theorem readBinary_1 (c x0 : UInt8) (hcc : c = 0xa0) (h : Buf w r s D i) (hc : D[i]? = some c) (h0 : D[i + 1]? = some x0) (hl : i + 2 + x0.toNat ≤ D.length) (hz : 0 < x0.toNat) :
    Calls Tryz.prog 114 #[.pointer (some ⟨r, 0, none⟩)] w (Gives2 fun v e w' => e = .nilIface ∧ BSl (fun b => w.heap.size ≤ b) w' v (sub D (i + 2) x0.toNat) ∧ At_ w w' r s D (i + 2 + x0.toNat)) := by
  subst hcc
  have ht := readType_yes r s D i w _ h hc
  have HT := Lib.hid ht
  have hx0 := x0.toNat_lt
  have hx1 : (x0.toNat : Int) ≤ 255 := by omega
  have hx2 : (0 : Int) ≤ x0.toNat := by omega
  have hpos : ((x0.toNat : Int) == 0) = false := by rw [beq_eq_false_iff_ne]; omega
  have HX := Lib.hid hl
  have HZ := Lib.hid h0
  obtain ⟨i0, hi, hz0, hz1, hz2⟩ := info_parts info_u8
  clear ht h hc h0 hl hz
  go_enter Tryz.func114, Tryz.ntmps114
  go_wp2_with ((go_at_call 99; go_must (refine HT.out.mono ?_; rintro e w1 ⟨rfl, hA1⟩; have H1 := Lib.hid hA1; clear hA1)))
  go_wp2_with ((go_at_call 140; go_must (refine (ReadByte_yes r s D (i + 1) _ x0 H1.out.buf (by exact HZ.out)).mono ?_; rintro e w2 ⟨rfl, hA2⟩; have H2 := Lib.hid (H1.out.trans hA2); clear hA2)))
  go_wp2_with (first | (go_at_call 142; go_must (refine (Next_yes r s D (i + 1 + 1) _ x0.toNat H2.out.buf (by have := HX.out; omega)).mono ?_; rintro e w3 ⟨v, b, rfl, rfl, hB, hA3⟩; have HB3 := Lib.hid hB; have hL := hB.len'; have HL := Lib.hid hL; have H3 := Lib.hid (H2.out.trans hA3); clear hA3 hB hL)) | (at_builtin; go_must (refine wpList_append_c _ rfl (.const (.slice none 0 0)) (.tmp 61) _ rfl w.heap.size 5 i0 _ 1 1 Tryz.underlying26 hi hz0 hz1 hz2 rfl (by omega) (.slice none 0 0) 0 [] rfl ⟨by simp, .inl ⟨rfl, rfl⟩⟩ _ v _ _ rfl HB3.out.toC (by intro u hu; obtain ⟨x, _, rfl⟩ := List.mem_map.1 hu; rfl) (by have hl3 := H3.out.buf.small; have hl4 := HL.out; simp only [maxLen]; omega) (by have hl3 := H3.out.buf.small; have hl4 := HL.out; omega) H3.out.kept.size ?_; intro v4 w4 hown hg4 hl4; have H4 := Lib.hid (And.intro hown (And.intro hg4 hl4)); clear hown hg4 hl4)))
  go_ret2
  have h4 := copied_piece H3.out H4.out.1 (by simpa [Value.ownBlock] using H4.out.2.1)
  exact ⟨_, _, rfl, rfl, h4.1, h4.2⟩
set_option maxRecDepth 100000 in
set_option maxHeartbeats 400000 in
theorem readBinary_1_zero (c : UInt8) (hcc : c = 0xa0) (h : Buf w r s D i) (hc : D[i]? = some c) (h0 : D[i + 1]? = some 0) :
    Calls Tryz.prog 114 #[.pointer (some ⟨r, 0, none⟩)] w (Gives2 fun v e w' => e = .nilIface ∧ BSl (fun b => w.heap.size ≤ b) w' v [] ∧ At_ w w' r s D (i + 2)) := by
  subst hcc
  have ht := readType_yes r s D i w _ h hc
  have HT := Lib.hid ht
  have HZ := Lib.hid h0
  have hmk : ∀ W : World, (Instr.makeSlice 26 (.int .i64 0) (.int .i64 0)).run Tryz.prog W = .ok (.slice (some ⟨W.heap.size, 0, none⟩) 0 0) (W.alloc (.cells #[] 5)) := fun _ => by kernel_rfl
  clear ht h hc h0
  go_enter Tryz.func114, Tryz.ntmps114
  go_wp2_with ((go_at_call 99; go_must (refine HT.out.mono ?_; rintro e w1 ⟨rfl, hA1⟩; have H1 := Lib.hid hA1; clear hA1)))
  go_wp2_with ((go_at_call 140; go_must (refine (ReadByte_yes r s D (i + 1) _ 0 H1.out.buf (by exact HZ.out)).mono ?_; rintro e w2 ⟨rfl, hA2⟩; have H2 := Lib.hid (H1.out.trans hA2); clear hA2)))
  go_ret2
  refine ⟨_, _, rfl, rfl, ?_, H2.out.nope ((Kept.refl Nope _).alloc _)⟩
  exact BSl.nil _ _ (by simp [maxLen])
set_option maxRecDepth 100000 in
set_option maxHeartbeats 400000 in
theorem readBinary_1_cut0 (c : UInt8) (hcc : c = 0xa0) (h : Buf w r s D i) (hc : D[i]? = some c) (hl : D.length ≤ i + 1) :
    Calls Tryz.prog 114 #[.pointer (some ⟨r, 0, none⟩)] w (Fails w r) := by
  subst hcc
  have ht := readType_yes r s D i w _ h hc
  have HT := Lib.hid ht
  have HX := Lib.hid hl
  clear ht h hc hl
  go_enter Tryz.func114, Tryz.ntmps114
  go_wp2_with ((go_at_call 99; go_must (refine HT.out.mono ?_; rintro e w1 ⟨rfl, hA1⟩; have H1 := Lib.hid hA1; clear hA1)))
  go_wp2_with ((go_at_call 140; go_must (refine (ReadByte_no r s D (i + 1) _ H1.out.buf (by exact HX.out)).mono ?_; rintro e w2 ⟨x, v, rfl, rfl, ⟨T, z, rfl⟩, hA2⟩; have H2 := Lib.hid (H1.out.trans hA2); clear hA2)))
  go_ret2
  exact ⟨_, _, rfl, ⟨_, _, rfl⟩, H2.out.kept⟩
set_option maxRecDepth 100000 in
set_option maxHeartbeats 400000 in
theorem readBinary_1_cut (c x0 : UInt8) (hcc : c = 0xa0) (h : Buf w r s D i) (hc : D[i]? = some c) (h0 : D[i + 1]? = some x0) (hl : D.length < i + 2 + x0.toNat) :
    Calls Tryz.prog 114 #[.pointer (some ⟨r, 0, none⟩)] w (Fails w r) := by
  subst hcc
  have hz : 0 < x0.toNat := by have := (List.getElem?_eq_some_iff.1 h0).1; omega
  have ht := readType_yes r s D i w _ h hc
  have HT := Lib.hid ht
  have hx0 := x0.toNat_lt
  have hx1 : (x0.toNat : Int) ≤ 255 := by omega
  have hx2 : (0 : Int) ≤ x0.toNat := by omega
  have hpos : ((x0.toNat : Int) == 0) = false := by rw [beq_eq_false_iff_ne]; omega
  have HX := Lib.hid hl
  have HZ := Lib.hid h0
  clear ht h hc h0 hl hz
  go_enter Tryz.func114, Tryz.ntmps114
  go_wp2_with ((go_at_call 99; go_must (refine HT.out.mono ?_; rintro e w1 ⟨rfl, hA1⟩; have H1 := Lib.hid hA1; clear hA1)))
  go_wp2_with ((go_at_call 140; go_must (refine (ReadByte_yes r s D (i + 1) _ x0 H1.out.buf (by exact HZ.out)).mono ?_; rintro e w2 ⟨rfl, hA2⟩; have H2 := Lib.hid (H1.out.trans hA2); clear hA2)))
  go_wp2_with ((go_at_call 142; go_must (refine (Next_no r s D (i + 1 + 1) _ x0.toNat H2.out.buf (by have := HX.out; omega) (by omega)).mono ?_; rintro e w3 ⟨v, b, rfl, rfl, hA3⟩; have H3 := Lib.hid (H2.out.trans hA3); clear hA3)))
  go_wp2_with ((go_at_call 46; go_must (refine (errorsNew_any _ _).mono ?_; rintro e w9 ⟨v9, rfl, ⟨T, z, rfl⟩, hK9⟩; have H9 := Lib.hid (H3.out.nope hK9); clear hK9)))
  go_ret2
  exact ⟨_, _, rfl, ⟨_, _, rfl⟩, H9.out.kept⟩
set_option maxRecDepth 100000 in
set_option maxHeartbeats 400000 in
theorem readBinary_4 (c x0 x1 x2 x3 : UInt8) (hcc : c = 0xb0) (h : Buf w r s D i) (hc : D[i]? = some c) (h0 : D[i + 1]? = some x0) (h1 : D[i + 2]? = some x1) (h2 : D[i + 3]? = some x2) (h3 : D[i + 4]? = some x3) (hl : i + 5 + Lib.beNat [x0, x1, x2, x3] ≤ D.length) (hz : 0 < Lib.beNat [x0, x1, x2, x3]) :
    Calls Tryz.prog 114 #[.pointer (some ⟨r, 0, none⟩)] w (Gives2 fun v e w' => e = .nilIface ∧ BSl (fun b => w.heap.size ≤ b) w' v (sub D (i + 5) (Lib.beNat [x0, x1, x2, x3])) ∧ At_ w w' r s D (i + 5 + Lib.beNat [x0, x1, x2, x3])) := by
  subst hcc
  have ht := readType_yes r s D i w _ h hc
  have HT := Lib.hid ht
  have hb := beNat4_lt x0 x1 x2 x3
  generalize hN : Lib.beNat [x0, x1, x2, x3] = N at *
  have HN := Lib.hid hN
  have hx1 : (N : Int) ≤ 4294967295 := by omega
  have hx2 : (0 : Int) ≤ N := by omega
  have hpos : ((N : Int) == 0) = false := by rw [beq_eq_false_iff_ne]; omega
  have HX := Lib.hid (And.intro h0 (And.intro h1 (And.intro h2 (And.intro h3 hl))))
  obtain ⟨i0, hi, hz0, hz1, hz2⟩ := info_parts info_u8
  clear ht h hc h0 h1 h2 h3 hl hN hb hz
  go_enter Tryz.func114, Tryz.ntmps114
  go_wp2_with ((go_at_call 99; go_must (refine HT.out.mono ?_; rintro e w1 ⟨rfl, hA1⟩; have H1 := Lib.hid hA1; clear hA1)))
  go_wp2_with ((go_at_call 142; go_must (refine (Next_at r s D (i + 1) _ 4 H1.out.buf (by have := HX.out.2.2.2.1; have := HX.out.2.2.2.2; have := (List.getElem?_eq_some_iff.1 HX.out.2.2.2.1).1; omega) (by omega)).mono ?_; rintro e w2 ⟨v, b, rfl, rfl, ⟨g, off, c4, rfl, hg, hgc, hcm, hcell⟩, hA2⟩; have HC4 := Lib.hid (And.intro hg (And.intro hgc (And.intro hcm hcell))); have H2 := Lib.hid (H1.out.trans hA2); clear hA2 hg hgc hcm hcell)))
  go_wp2_with ((go_at_call 143; go_must (refine (beU32 _ g off 4 c4 x0 x1 x2 x3 (by omega) (by exact four HX.out.1 HX.out.2.1 HX.out.2.2.1 HX.out.2.2.2.1 HC4.out.2.2.2)).mono ?_; rw [HN.out]; rintro e w5 ⟨rfl, hK5⟩; have H5 := Lib.hid (H2.out.nope hK5); clear hK5)))
  go_wp2_with (first | (go_at_call 142; go_must (refine (Next_yes r s D (i + 1 + 4) _ N H5.out.buf (by exact HX.out.2.2.2.2)).mono ?_; rintro e w3 ⟨v, b, rfl, rfl, hB, hA3⟩; have HB3 := Lib.hid hB; have hL := hB.len'; have HL := Lib.hid hL; have H3 := Lib.hid (H5.out.trans hA3); clear hA3 hB hL)) | (at_builtin; go_must (refine wpList_append_c _ rfl (.const (.slice none 0 0)) (.tmp 61) _ rfl w.heap.size 5 i0 _ 1 1 Tryz.underlying26 hi hz0 hz1 hz2 rfl (by omega) (.slice none 0 0) 0 [] rfl ⟨by simp, .inl ⟨rfl, rfl⟩⟩ _ v _ _ rfl HB3.out.toC (by intro u hu; obtain ⟨x, _, rfl⟩ := List.mem_map.1 hu; rfl) (by have hl3 := H3.out.buf.small; have hl4 := HL.out; simp only [maxLen]; omega) (by have hl3 := H3.out.buf.small; have hl4 := HL.out; omega) H3.out.kept.size ?_; intro v4 w4 hown hg4 hl4; have H4 := Lib.hid (And.intro hown (And.intro hg4 hl4)); clear hown hg4 hl4)))
  go_ret2
  have h4 := copied_piece H3.out H4.out.1 (by simpa [Value.ownBlock] using H4.out.2.1)
  exact ⟨_, _, rfl, rfl, h4.1, h4.2⟩
set_option maxRecDepth 100000 in
set_option maxHeartbeats 400000 in
theorem readBinary_4_zero (c x0 x1 x2 x3 : UInt8) (hcc : c = 0xb0) (h : Buf w r s D i) (hc : D[i]? = some c) (h0 : D[i + 1]? = some x0) (h1 : D[i + 2]? = some x1) (h2 : D[i + 3]? = some x2) (h3 : D[i + 4]? = some x3) (hz : Lib.beNat [x0, x1, x2, x3] = 0) :
    Calls Tryz.prog 114 #[.pointer (some ⟨r, 0, none⟩)] w (Gives2 fun v e w' => e = .nilIface ∧ BSl (fun b => w.heap.size ≤ b) w' v [] ∧ At_ w w' r s D (i + 5)) := by
  subst hcc
  have ht := readType_yes r s D i w _ h hc
  have HT := Lib.hid ht
  have HN := Lib.hid hz
  have HX := Lib.hid (And.intro h0 (And.intro h1 (And.intro h2 (And.intro h3 trivial))))
  have hmk : ∀ W : World, (Instr.makeSlice 26 (.int .i64 0) (.int .i64 0)).run Tryz.prog W = .ok (.slice (some ⟨W.heap.size, 0, none⟩) 0 0) (W.alloc (.cells #[] 5)) := fun _ => by kernel_rfl
  clear ht h hc h0 h1 h2 h3 hz
  go_enter Tryz.func114, Tryz.ntmps114
  go_wp2_with ((go_at_call 99; go_must (refine HT.out.mono ?_; rintro e w1 ⟨rfl, hA1⟩; have H1 := Lib.hid hA1; clear hA1)))
  go_wp2_with ((go_at_call 142; go_must (refine (Next_at r s D (i + 1) _ 4 H1.out.buf (by have := (List.getElem?_eq_some_iff.1 HX.out.2.2.2.1).1; omega) (by omega)).mono ?_; rintro e w2 ⟨v, b, rfl, rfl, ⟨g, off, c4, rfl, hg, hgc, hcm, hcell⟩, hA2⟩; have HC4 := Lib.hid (And.intro hg (And.intro hgc (And.intro hcm hcell))); have H2 := Lib.hid (H1.out.trans hA2); clear hA2 hg hgc hcm hcell)))
  go_wp2_with ((go_at_call 143; go_must (refine (beU32 _ g off 4 c4 x0 x1 x2 x3 (by omega) (by exact four HX.out.1 HX.out.2.1 HX.out.2.2.1 HX.out.2.2.2.1 HC4.out.2.2.2)).mono ?_; rw [HN.out]; rintro e w5 ⟨rfl, hK5⟩; have H5 := Lib.hid (H2.out.nope hK5); clear hK5)))
  go_ret2
  refine ⟨_, _, rfl, rfl, ?_, H5.out.nope ((Kept.refl Nope _).alloc _)⟩
  exact BSl.nil _ _ (by simp [maxLen])
set_option maxRecDepth 100000 in
set_option maxHeartbeats 400000 in
theorem readBinary_4_cut0 (c : UInt8) (hcc : c = 0xb0) (h : Buf w r s D i) (hc : D[i]? = some c) (hl : D.length < i + 5) :
    Calls Tryz.prog 114 #[.pointer (some ⟨r, 0, none⟩)] w (Fails w r) := by
  subst hcc
  have ht := readType_yes r s D i w _ h hc
  have HT := Lib.hid ht
  have HX := Lib.hid hl
  clear ht h hc hl
  go_enter Tryz.func114, Tryz.ntmps114
  go_wp2_with ((go_at_call 99; go_must (refine HT.out.mono ?_; rintro e w1 ⟨rfl, hA1⟩; have H1 := Lib.hid hA1; clear hA1)))
  go_wp2_with ((go_at_call 142; go_must (refine (Next_no r s D (i + 1) _ 4 H1.out.buf (by have := HX.out; omega) (by omega)).mono ?_; rintro e w3 ⟨v, b, rfl, rfl, hA3⟩; have H3 := Lib.hid (H1.out.trans hA3); clear hA3)))
  go_wp2_with ((go_at_call 46; go_must (refine (errorsNew_any _ _).mono ?_; rintro e w9 ⟨v9, rfl, ⟨T, z, rfl⟩, hK9⟩; have H9 := Lib.hid (H3.out.nope hK9); clear hK9)))
  go_ret2
  exact ⟨_, _, rfl, ⟨_, _, rfl⟩, H9.out.kept⟩
set_option maxRecDepth 100000 in
set_option maxHeartbeats 400000 in
theorem readBinary_4_cut (c x0 x1 x2 x3 : UInt8) (hcc : c = 0xb0) (h : Buf w r s D i) (hc : D[i]? = some c) (h0 : D[i + 1]? = some x0) (h1 : D[i + 2]? = some x1) (h2 : D[i + 3]? = some x2) (h3 : D[i + 4]? = some x3) (hl : D.length < i + 5 + Lib.beNat [x0, x1, x2, x3]) :
    Calls Tryz.prog 114 #[.pointer (some ⟨r, 0, none⟩)] w (Fails w r) := by
  subst hcc
  have hz : 0 < Lib.beNat [x0, x1, x2, x3] := by have := (List.getElem?_eq_some_iff.1 h3).1; omega
  have ht := readType_yes r s D i w _ h hc
  have HT := Lib.hid ht
  have hb := beNat4_lt x0 x1 x2 x3
  generalize hN : Lib.beNat [x0, x1, x2, x3] = N at *
  have HN := Lib.hid hN
  have hx1 : (N : Int) ≤ 4294967295 := by omega
  have hx2 : (0 : Int) ≤ N := by omega
  have hpos : ((N : Int) == 0) = false := by rw [beq_eq_false_iff_ne]; omega
  have HX := Lib.hid (And.intro h0 (And.intro h1 (And.intro h2 (And.intro h3 hl))))
  clear ht h hc h0 h1 h2 h3 hl hN hb hz
  go_enter Tryz.func114, Tryz.ntmps114
  go_wp2_with ((go_at_call 99; go_must (refine HT.out.mono ?_; rintro e w1 ⟨rfl, hA1⟩; have H1 := Lib.hid hA1; clear hA1)))
  go_wp2_with ((go_at_call 142; go_must (refine (Next_at r s D (i + 1) _ 4 H1.out.buf (by have := HX.out.2.2.2.1; have := HX.out.2.2.2.2; have := (List.getElem?_eq_some_iff.1 HX.out.2.2.2.1).1; omega) (by omega)).mono ?_; rintro e w2 ⟨v, b, rfl, rfl, ⟨g, off, c4, rfl, hg, hgc, hcm, hcell⟩, hA2⟩; have HC4 := Lib.hid (And.intro hg (And.intro hgc (And.intro hcm hcell))); have H2 := Lib.hid (H1.out.trans hA2); clear hA2 hg hgc hcm hcell)))
  go_wp2_with ((go_at_call 143; go_must (refine (beU32 _ g off 4 c4 x0 x1 x2 x3 (by omega) (by exact four HX.out.1 HX.out.2.1 HX.out.2.2.1 HX.out.2.2.2.1 HC4.out.2.2.2)).mono ?_; rw [HN.out]; rintro e w5 ⟨rfl, hK5⟩; have H5 := Lib.hid (H2.out.nope hK5); clear hK5)))
  go_wp2_with ((go_at_call 142; go_must (refine (Next_no r s D (i + 1 + 4) _ N H5.out.buf (by have := HX.out.2.2.2.2; omega) (by omega)).mono ?_; rintro e w3 ⟨v, b, rfl, rfl, hA3⟩; have H3 := Lib.hid (H5.out.trans hA3); clear hA3)))
  go_wp2_with ((go_at_call 46; go_must (refine (errorsNew_any _ _).mono ?_; rintro e w9 ⟨v9, rfl, ⟨T, z, rfl⟩, hK9⟩; have H9 := Lib.hid (H3.out.nope hK9); clear hK9)))
  go_ret2
  exact ⟨_, _, rfl, ⟨_, _, rfl⟩, H9.out.kept⟩
end
end Go.Proofs.YtbckofjoancdjaaGreatDoor
