/- The performatives' own Unmarshals. The performatives' own Unmarshals. -/
import Derived.Test.YtbckofjoancdjaaGreatDoorK28
namespace Go.Proofs.YtbckofjoancdjaaGreatDoor
open Go Go.RowKit Go.Lib
abbrev kFlow : List V := [nulV, numV 4 1, numV 4 0, numV 4 0, nulV, nulV, nulV, nulV, nulV, nulV, nulV]
abbrev kDetach : List V := [numV 4 1, nulV, nulV]
abbrev kSASLMechanisms : List V := [txtV 20]
abbrev kSASLOutcome : List V := [numV 2 1, nulV]
section
variable (w0 w : World) (r : Nat) (s : Value) (D : List UInt8) (i0 i : Nat) (v : V) (T n : Nat)
set_option maxRecDepth 100000 in
set_option maxHeartbeats 4000000 in
theorem un_Flow (h : Task w0 r s D i0 i 19 v kFlow) (hA : At_ w0 w r s D i) (hT0 : w0.heap.size ≤ T) (hT : TAt T n w) (hn : 11 ≤ n) :
    Calls Tryz.prog 50 #[.pointer (some ⟨T, 0, none⟩), .pointer (some ⟨r, 0, none⟩)] w (PfPost w0 r s D T n w) := by
  have H := Lib.hid (And.intro h (And.intro hA (And.intro hT0 hT)))
  have HN := Lib.hid hn
  clear h hA hT0 hT hn
  go_enter Tryz.func50, Tryz.ntmps50
  go_wp2
  go_region_held3 (fun _ => True) (first | exact trivial) (first | (go_at_call 66; go_must (refine (New_u16 _ _).mono ?_; rintro e w1 ⟨⟨a1, b1, rfl⟩, rfl⟩)) | (go_at_call 74; go_must (refine (New_snd _ _).mono ?_; rintro e w1 ⟨⟨a1, b1, rfl⟩, rfl⟩)) | (go_at_call 75; go_must (refine (New_rcv _ _).mono ?_; rintro e w1 ⟨⟨a1, b1, rfl⟩, rfl⟩)) | (go_at_call 76; go_must (refine (New_src _ _).mono ?_; rintro e w1 ⟨⟨a1, b1, rfl⟩, rfl⟩)) | (go_at_call 77; go_must (refine (New_tgt _ _).mono ?_; rintro e w1 ⟨⟨a1, b1, rfl⟩, rfl⟩)) | (go_at_call 85; go_must (refine (New_err _ _).mono ?_; rintro e w1 ⟨⟨a1, b1, rfl⟩, rfl⟩)) | (go_at_call 62; go_must (refine (H.out.1.run _ T n [(_, _), (_, _), (_, _), (_, _), (_, _), (_, _), (_, _), (_, _), (_, _), (_, _), (_, _)] _ _ _ _ _ (H.out.2.1.nope ((Kept.refl Nope _).alloc _).drew) H.out.2.2.1 (H.out.2.2.2.keep ((Kept.refl Nope _).alloc _).drew (fun h => h)) (Nat.le_trans H.out.2.1.kept.size (Kept.refl Nope w).size) (Nat.ne_of_gt (Nat.lt_of_lt_of_le H.out.2.2.2.lt (Kept.refl Nope w).size)) (Blk.new _ _ _).drew rfl rfl rfl (by simp) (by simp) ⟨⟨⟨_, _, rfl⟩, .inl rfl⟩, ⟨⟨_, _, rfl⟩, .inr ⟨_, _, _, rfl⟩⟩, ⟨⟨_, _, rfl⟩, .inr ⟨_, _, _, rfl⟩⟩, ⟨⟨_, _, rfl⟩, .inr ⟨_, _, _, rfl⟩⟩, ⟨⟨_, _, rfl⟩, .inl rfl⟩, ⟨⟨_, _, rfl⟩, .inl rfl⟩, ⟨⟨_, _, rfl⟩, .inl rfl⟩, ⟨⟨_, _, rfl⟩, .inl rfl⟩, ⟨⟨_, _, rfl⟩, .inl rfl⟩, ⟨⟨_, _, rfl⟩, .inl rfl⟩, ⟨⟨_, _, rfl⟩, .inl rfl⟩, trivial⟩ ⟨fv_null rfl rfl, fv_uint (by have := HN.out; omega) rfl rfl, fv_uint (by have := HN.out; omega) rfl rfl, fv_uint (by have := HN.out; omega) rfl rfl, fv_null rfl rfl, fv_null rfl rfl, fv_null rfl rfl, fv_null rfl rfl, fv_null rfl rfl, fv_null rfl rfl, fv_null rfl rfl, trivial⟩).mono ?_; rintro e w3 ⟨_, rfl, rfl, hj, ht, hk⟩; have H3 := Lib.hid (And.intro hj (And.intro ht hk)); clear hj ht hk)))
  all_goals
    try go_wp2
    go_ret
    exact ⟨_, rfl, rfl, H3.out.1, H3.out.2.1, ((Kept.refl (Or2 r T) _).alloc _).drew.trans' H3.out.2.2⟩
set_option maxRecDepth 100000 in
set_option maxHeartbeats 4000000 in
theorem un_Detach (h : Task w0 r s D i0 i 22 v kDetach) (hA : At_ w0 w r s D i) (hT0 : w0.heap.size ≤ T) (hT : TAt T n w) (hn : 3 ≤ n) :
    Calls Tryz.prog 53 #[.pointer (some ⟨T, 0, none⟩), .pointer (some ⟨r, 0, none⟩)] w (PfPost w0 r s D T n w) := by
  have H := Lib.hid (And.intro h (And.intro hA (And.intro hT0 hT)))
  have HN := Lib.hid hn
  clear h hA hT0 hT hn
  go_enter Tryz.func53, Tryz.ntmps53
  go_wp2
  go_region_held3 (fun _ => True) (first | exact trivial) (first | (go_at_call 66; go_must (refine (New_u16 _ _).mono ?_; rintro e w1 ⟨⟨a1, b1, rfl⟩, rfl⟩)) | (go_at_call 74; go_must (refine (New_snd _ _).mono ?_; rintro e w1 ⟨⟨a1, b1, rfl⟩, rfl⟩)) | (go_at_call 75; go_must (refine (New_rcv _ _).mono ?_; rintro e w1 ⟨⟨a1, b1, rfl⟩, rfl⟩)) | (go_at_call 76; go_must (refine (New_src _ _).mono ?_; rintro e w1 ⟨⟨a1, b1, rfl⟩, rfl⟩)) | (go_at_call 77; go_must (refine (New_tgt _ _).mono ?_; rintro e w1 ⟨⟨a1, b1, rfl⟩, rfl⟩)) | (go_at_call 85; go_must (refine (New_err _ _).mono ?_; rintro e w1 ⟨⟨a1, b1, rfl⟩, rfl⟩)) | (go_at_call 62; go_must (refine (H.out.1.run _ T n [(_, _), (_, _), (_, _)] _ _ _ _ _ (H.out.2.1.nope ((Kept.refl Nope _).alloc _).drew) H.out.2.2.1 (H.out.2.2.2.keep ((Kept.refl Nope _).alloc _).drew (fun h => h)) (Nat.le_trans H.out.2.1.kept.size (Kept.refl Nope w).size) (Nat.ne_of_gt (Nat.lt_of_lt_of_le H.out.2.2.2.lt (Kept.refl Nope w).size)) (Blk.new _ _ _).drew rfl rfl rfl (by simp) (by simp) ⟨⟨⟨_, _, rfl⟩, .inr ⟨_, _, _, rfl⟩⟩, ⟨⟨_, _, rfl⟩, .inl rfl⟩, ⟨⟨_, _, rfl⟩, .inl rfl⟩, trivial⟩ ⟨fv_uint (by have := HN.out; omega) rfl rfl, fv_null rfl rfl, fv_null rfl rfl, trivial⟩).mono ?_; rintro e w3 ⟨_, rfl, rfl, hj, ht, hk⟩; have H3 := Lib.hid (And.intro hj (And.intro ht hk)); clear hj ht hk)))
  all_goals
    try go_wp2
    go_ret
    exact ⟨_, rfl, rfl, H3.out.1, H3.out.2.1, ((Kept.refl (Or2 r T) _).alloc _).drew.trans' H3.out.2.2⟩
set_option maxRecDepth 100000 in
set_option maxHeartbeats 4000000 in
theorem un_SASLMechanisms (h : Task w0 r s D i0 i 64 v kSASLMechanisms) (hA : At_ w0 w r s D i) (hT0 : w0.heap.size ≤ T) (hT : TAt T n w) (hn : 1 ≤ n) :
    Calls Tryz.prog 56 #[.pointer (some ⟨T, 0, none⟩), .pointer (some ⟨r, 0, none⟩)] w (PfPost w0 r s D T n w) := by
  have H := Lib.hid (And.intro h (And.intro hA (And.intro hT0 hT)))
  have HN := Lib.hid hn
  clear h hA hT0 hT hn
  go_enter Tryz.func56, Tryz.ntmps56
  go_wp2_with (first | (go_at_call 66; go_must (refine (New_u16 _ _).mono ?_; rintro e w1 ⟨⟨a1, b1, rfl⟩, rfl⟩)) | (go_at_call 74; go_must (refine (New_snd _ _).mono ?_; rintro e w1 ⟨⟨a1, b1, rfl⟩, rfl⟩)) | (go_at_call 75; go_must (refine (New_rcv _ _).mono ?_; rintro e w1 ⟨⟨a1, b1, rfl⟩, rfl⟩)) | (go_at_call 76; go_must (refine (New_src _ _).mono ?_; rintro e w1 ⟨⟨a1, b1, rfl⟩, rfl⟩)) | (go_at_call 77; go_must (refine (New_tgt _ _).mono ?_; rintro e w1 ⟨⟨a1, b1, rfl⟩, rfl⟩)) | (go_at_call 85; go_must (refine (New_err _ _).mono ?_; rintro e w1 ⟨⟨a1, b1, rfl⟩, rfl⟩)) | (go_at_call 62; go_must (refine (H.out.1.run _ T n [(_, _)] _ _ _ _ _ (H.out.2.1.nope ((Kept.refl Nope _).alloc _)) H.out.2.2.1 (H.out.2.2.2.keep ((Kept.refl Nope _).alloc _) (fun h => h)) (Nat.le_trans H.out.2.1.kept.size (Kept.refl Nope w).size) (Nat.ne_of_gt (Nat.lt_of_lt_of_le H.out.2.2.2.lt (Kept.refl Nope w).size)) (Blk.new _ _ _) rfl rfl rfl (by simp) (by simp) ⟨⟨⟨_, _, rfl⟩, .inr ⟨_, _, _, rfl⟩⟩, trivial⟩ ⟨fv_sym (by have := HN.out; omega) rfl rfl rfl, trivial⟩).mono ?_; rintro e w3 ⟨_, rfl, rfl, hj, ht, hk⟩; have H3 := Lib.hid (And.intro hj (And.intro ht hk)); clear hj ht hk)))
  all_goals
    try go_wp2
    go_ret
    exact ⟨_, rfl, rfl, H3.out.1, H3.out.2.1, ((Kept.refl (Or2 r T) _).alloc _).trans' H3.out.2.2⟩
set_option maxRecDepth 100000 in
set_option maxHeartbeats 4000000 in
theorem un_SASLOutcome (h : Task w0 r s D i0 i 68 v kSASLOutcome) (hA : At_ w0 w r s D i) (hT0 : w0.heap.size ≤ T) (hT : TAt T n w) (hn : 2 ≤ n) :
    Calls Tryz.prog 58 #[.pointer (some ⟨T, 0, none⟩), .pointer (some ⟨r, 0, none⟩)] w (PfPost w0 r s D T n w) := by
  have H := Lib.hid (And.intro h (And.intro hA (And.intro hT0 hT)))
  have HN := Lib.hid hn
  clear h hA hT0 hT hn
  go_enter Tryz.func58, Tryz.ntmps58
  go_wp2
  go_region_held3 (fun _ => True) (first | exact trivial) (first | (go_at_call 66; go_must (refine (New_u16 _ _).mono ?_; rintro e w1 ⟨⟨a1, b1, rfl⟩, rfl⟩)) | (go_at_call 74; go_must (refine (New_snd _ _).mono ?_; rintro e w1 ⟨⟨a1, b1, rfl⟩, rfl⟩)) | (go_at_call 75; go_must (refine (New_rcv _ _).mono ?_; rintro e w1 ⟨⟨a1, b1, rfl⟩, rfl⟩)) | (go_at_call 76; go_must (refine (New_src _ _).mono ?_; rintro e w1 ⟨⟨a1, b1, rfl⟩, rfl⟩)) | (go_at_call 77; go_must (refine (New_tgt _ _).mono ?_; rintro e w1 ⟨⟨a1, b1, rfl⟩, rfl⟩)) | (go_at_call 85; go_must (refine (New_err _ _).mono ?_; rintro e w1 ⟨⟨a1, b1, rfl⟩, rfl⟩)) | (go_at_call 62; go_must (refine (H.out.1.run _ T n [(_, _), (_, _)] _ _ _ _ _ (H.out.2.1.nope ((Kept.refl Nope _).alloc _).drew) H.out.2.2.1 (H.out.2.2.2.keep ((Kept.refl Nope _).alloc _).drew (fun h => h)) (Nat.le_trans H.out.2.1.kept.size (Kept.refl Nope w).size) (Nat.ne_of_gt (Nat.lt_of_lt_of_le H.out.2.2.2.lt (Kept.refl Nope w).size)) (Blk.new _ _ _).drew rfl rfl rfl (by simp) (by simp) ⟨⟨⟨_, _, rfl⟩, .inr ⟨_, _, _, rfl⟩⟩, ⟨⟨_, _, rfl⟩, .inl rfl⟩, trivial⟩ ⟨fv_code (by have := HN.out; omega) rfl rfl, fv_null rfl rfl, trivial⟩).mono ?_; rintro e w3 ⟨_, rfl, rfl, hj, ht, hk⟩; have H3 := Lib.hid (And.intro hj (And.intro ht hk)); clear hj ht hk)))
  all_goals
    try go_wp2
    go_ret
    exact ⟨_, rfl, rfl, H3.out.1, H3.out.2.1, ((Kept.refl (Or2 r T) _).alloc _).drew.trans' H3.out.2.2⟩
end
end Go.Proofs.YtbckofjoancdjaaGreatDoor
namespace Go.Proofs.YtbckofjoancdjaaGreatDoor
open Go Go.RowKit Go.Lib
abbrev kTransfer : List V := [numV 4 1, nulV, nulV, nulV, nulV, nulV, nulV, nulV, nulV, nulV, nulV]
theorem own_form {w : World} {base : Nat} {v : Value} {bs : List UInt8} (hown : w.ownsRow base 5 1 v (0 + bs.length) ([] ++ bs.map u8)) : ∃ a b d, v = .slice a b d := by
  have h1 : w.ownsRow base 5 1 v bs.length (bs.map u8) := by simpa using hown
  obtain ⟨a, c, rfl, _⟩ := BSl.ofOwn h1
  exact ⟨_, _, _, rfl⟩
section
variable (w0 w : World) (r : Nat) (s : Value) (D : List UInt8) (i0 i : Nat) (v : V) (T n : Nat)
set_option maxRecDepth 100000 in
set_option maxHeartbeats 4000000 in
theorem un_Transfer (h : Task w0 r s D i0 i 20 v kTransfer) (hA : At_ w0 w r s D i) (hT0 : w0.heap.size ≤ T) (hT : TAt T n w) (hn : 12 ≤ n) :
    Calls Tryz.prog 51 #[.pointer (some ⟨T, 0, none⟩), .pointer (some ⟨r, 0, none⟩)] w (PfPost w0 r s D T n w) := by
  have H := Lib.hid (And.intro h (And.intro hA (And.intro hT0 hT)))
  have HN := Lib.hid hn
  obtain ⟨i1, hi, hz0, hz1, hz2⟩ := info_parts info_u8
  clear h hA hT0 hT hn
  go_enter Tryz.func51, Tryz.ntmps51
  go_wp2
  go_region_held3 (fun _ => True) (first | exact trivial) (first | (go_at_call 66; go_must (refine (New_u16 _ _).mono ?_; rintro e w1 ⟨⟨a1, b1, rfl⟩, rfl⟩)) | (go_at_call 74; go_must (refine (New_snd _ _).mono ?_; rintro e w1 ⟨⟨a1, b1, rfl⟩, rfl⟩)) | (go_at_call 75; go_must (refine (New_rcv _ _).mono ?_; rintro e w1 ⟨⟨a1, b1, rfl⟩, rfl⟩)) | (go_at_call 76; go_must (refine (New_src _ _).mono ?_; rintro e w1 ⟨⟨a1, b1, rfl⟩, rfl⟩)) | (go_at_call 77; go_must (refine (New_tgt _ _).mono ?_; rintro e w1 ⟨⟨a1, b1, rfl⟩, rfl⟩)) | (go_at_call 85; go_must (refine (New_err _ _).mono ?_; rintro e w1 ⟨⟨a1, b1, rfl⟩, rfl⟩)) | (go_at_call 62; go_must (refine (H.out.1.run _ T n [(_, _), (_, _), (_, _), (_, _), (_, _), (_, _), (_, _), (_, _), (_, _), (_, _), (_, _)] _ _ _ _ _ (H.out.2.1.nope ((Kept.refl Nope _).alloc _).drew) H.out.2.2.1 (H.out.2.2.2.keep ((Kept.refl Nope _).alloc _).drew (fun h => h)) (Nat.le_trans H.out.2.1.kept.size (Kept.refl Nope w).size) (Nat.ne_of_gt (Nat.lt_of_lt_of_le H.out.2.2.2.lt (Kept.refl Nope w).size)) (Blk.new _ _ _).drew rfl rfl rfl (by simp) (by simp) ⟨⟨⟨_, _, rfl⟩, .inr ⟨_, _, _, rfl⟩⟩, ⟨⟨_, _, rfl⟩, .inl rfl⟩, ⟨⟨_, _, rfl⟩, .inl rfl⟩, ⟨⟨_, _, rfl⟩, .inl rfl⟩, ⟨⟨_, _, rfl⟩, .inl rfl⟩, ⟨⟨_, _, rfl⟩, .inl rfl⟩, ⟨⟨_, _, rfl⟩, .inl rfl⟩, ⟨⟨_, _, rfl⟩, .inl rfl⟩, ⟨⟨_, _, rfl⟩, .inl rfl⟩, ⟨⟨_, _, rfl⟩, .inl rfl⟩, ⟨⟨_, _, rfl⟩, .inl rfl⟩, trivial⟩ ⟨fv_uint (by have := HN.out; omega) rfl rfl, fv_null rfl rfl, fv_null rfl rfl, fv_null rfl rfl, fv_null rfl rfl, fv_null rfl rfl, fv_null rfl rfl, fv_null rfl rfl, fv_null rfl rfl, fv_null rfl rfl, fv_null rfl rfl, trivial⟩).mono ?_; rintro e w3 ⟨_, rfl, rfl, hj, ht, hk⟩; have H3 := Lib.hid (And.intro hj (And.intro ht hk)); clear hj ht hk)))
  go_wp2_with (first | (go_at_call 44; go_must (refine (Bytes_any r s D _ _ H3.out.1.choose_spec.buf).mono ?_; rintro e w4 ⟨v4, rfl, hB, k4, rfl⟩; have HB4 := Lib.hid hB; have hL : (D.drop H3.out.1.choose).length ≤ D.length := (by simp); have HL := Lib.hid hL; have hta := H3.out.2.1.keep ((Kept.refl Nope _).drewN k4) (fun h => h); have H4 := Lib.hid (And.intro (H3.out.1.choose_spec.drewN k4) hta); clear hB hL hta)) | (at_builtin; go_must (refine wpList_append_c _ rfl (.const (.slice none 0 0)) (.tmp 69) _ rfl w0.heap.size 5 i1 _ 1 1 Tryz.underlying26 hi hz0 hz1 hz2 rfl (by omega) (.slice none 0 0) 0 [] rfl ⟨by simp, .inl ⟨rfl, rfl⟩⟩ _ v4 _ _ rfl HB4.out.toC (by intro u hu; obtain ⟨x, _, rfl⟩ := List.mem_map.1 hu; rfl) (by have hl3 := H4.out.1.buf.small; have hl4 := HL.out; simp only [maxLen]; omega) (by have hl3 := H4.out.1.buf.small; have hl4 := HL.out; omega) H4.out.1.kept.size ?_; intro v5 w5 hown hg5 hl5; have hk5 : Kept Nope _ w5 := (Kept.refl Nope _).grown (row := none) (by simpa [Value.ownBlock] using hg5) (fun k hk => by cases hk); have hta := H4.out.2.keep hk5 (fun h => h); obtain ⟨u5, hu5⟩ := hta.cell (show 11 < n by have := HN.out; omega); have hf5 := hta.frozen 11; obtain ⟨a5, b5, d5, hv5⟩ : ∃ a b d, v5 = .slice a b d := own_form hown; subst hv5; have H5 := Lib.hid (And.intro (H4.out.1.nope hk5) (And.intro hta hk5)); clear hown hg5 hl5 hk5 hta)))
  go_outline
  go_ret
  exact ⟨_, rfl, rfl, ⟨_, H5.out.1.setNew H.out.1.buf H.out.2.2.1 _⟩, H5.out.2.1.set_ 11 _, (((Kept.refl _ _).alloc _).drew.trans' (H3.out.2.2.trans' (((Kept.refl _ _).drewN k4).trans' H5.out.2.2.nope))).setCell (p := ⟨T, 11, none⟩) (.inl (.inr rfl)) _⟩
end
end Go.Proofs.YtbckofjoancdjaaGreatDoor
