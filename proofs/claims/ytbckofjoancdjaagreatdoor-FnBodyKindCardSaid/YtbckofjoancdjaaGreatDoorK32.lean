/- ParseBody over what was written. The performatives' own Unmarshals. ParseBody over what was written. ParseBody over what was written. -/
import Derived.Test.YtbckofjoancdjaaGreatDoorK30
import Derived.Test.YtbckofjoancdjaaGreatDoorK31
import Derived.Test.YtbckofjoancdjaaGreatDoorK28
namespace Go.Proofs.YtbckofjoancdjaaGreatDoor
open Go Go.RowKit Go.Lib
set_option maxRecDepth 100000 in
set_option maxHeartbeats 4000000 in
theorem pb_Attach (w : World) (r : Nat) (s : Value) (D : List UInt8) (v : V) (h : Task w r s D 0 0 18 v kAttach) :
    Calls Tryz.prog 20 #[.pointer (some ⟨r, 0, none⟩)] w (Gives2 fun x e w' => e = .nilIface ∧ (∃ p, x = .iface 81 (.pointer p)) ∧ Kept (Only r) w w') := by
  obtain ⟨c, q, _, hl⟩ := h.lies
  have l0 : D[0]? = some 0 := hl 0 _ rfl
  have l1 : D[1]? = some 83 := hl 1 _ rfl
  have l2 : D[2]? = some 18 := hl 2 _ rfl
  have hl2 := (List.getElem?_eq_some_iff.1 l2).1
  have b0 : (0 : Int) < (D.length : Int) := by omega
  have b1 : (1 : Int) < (D.length : Int) := by omega
  have b2 : (2 : Int) < (D.length : Int) := by omega
  have b3 : ¬ (D.length : Int) < 3 := by omega
  have H := Lib.hid h
  have HL := Lib.hid (And.intro l0 (And.intro l1 l2))
  clear h hl l0 l1 l2 hl2
  go_enter Tryz.func20, Tryz.ntmps20
  go_wp2_with (first | (go_at_call 44; go_must (refine (Bytes_any r s D 0 _ H.out.buf).mono ?_; rintro e w1 ⟨v1, rfl, hB, k1, rfl⟩; rw [List.drop_zero] at hB; have H1 := Lib.hid (H.out.buf.drewN k1); have hba : ∃ g off cap, v1 = .slice (some ⟨g, off, none⟩) D.length cap ∧ D.length ≤ cap ∧ cap ≤ maxLen ∧ (w.drewN k1).cell? ⟨g, off, none⟩ = some (.int .u8 0) ∧ (w.drewN k1).cell? ⟨g, off + 1, none⟩ = some (.int .u8 83) ∧ (w.drewN k1).cell? ⟨g, off + 2, none⟩ = some (.int .u8 18) := (by obtain ⟨a, cap, e, hc, hm, hb⟩ := hB; rcases hb with hb | ⟨g, off, ea, _, hb⟩; (have := HL.out.1; rw [hb] at this; cases this); subst ea; exact ⟨g, off, cap, e, hc, hm, hb 0 _ HL.out.1, hb 1 _ HL.out.2.1, hb 2 _ HL.out.2.2⟩); obtain ⟨g, off, cap, rfl, hcc, hcm, q0, q1, q2⟩ := hba; clear hB)) | (go_at_call 45; go_must (refine (Len_any r s D 0 _ H1.out).mono ?_; rintro e w2 ⟨rfl, k2, rfl⟩; have H2 := Lib.hid (H.out.buf.drewN (k1 + k2)); have p0 : (w.drewN (k1 + k2)).cell? ⟨g, off, none⟩ = some (.int .u8 0) := q0; have p1 : (w.drewN (k1 + k2)).cell? ⟨g, off + 1, none⟩ = some (.int .u8 83) := q1; have p2 : (w.drewN (k1 + k2)).cell? ⟨g, off + 2, none⟩ = some (.int .u8 18) := q2; clear q0 q1 q2)) | (go_at_call 49; go_must (refine (un_Attach _ _ r s D 0 0 v _ _ H.out ((At_.mk H2.out ((Kept.refl _ _).drewN _)).nope ((Kept.refl _ _).alloc _)) (Nat.le_refl _) ⟨_, _, Blk.new _ _ _, rfl⟩ (by decide)).mono ?_; rintro e w4 ⟨_, rfl, rfl, hj, ht, hk⟩; have H4 := Lib.hid hj; clear hj ht hk)))
  go_ret2
  exact ⟨_, _, rfl, rfl, ⟨_, rfl⟩, H4.out.choose_spec.kept⟩
set_option maxRecDepth 100000 in
set_option maxHeartbeats 4000000 in
theorem pb_Flow (w : World) (r : Nat) (s : Value) (D : List UInt8) (v : V) (h : Task w r s D 0 0 19 v kFlow) :
    Calls Tryz.prog 20 #[.pointer (some ⟨r, 0, none⟩)] w (Gives2 fun x e w' => e = .nilIface ∧ (∃ p, x = .iface 82 (.pointer p)) ∧ Kept (Only r) w w') := by
  obtain ⟨c, q, _, hl⟩ := h.lies
  have l0 : D[0]? = some 0 := hl 0 _ rfl
  have l1 : D[1]? = some 83 := hl 1 _ rfl
  have l2 : D[2]? = some 19 := hl 2 _ rfl
  have hl2 := (List.getElem?_eq_some_iff.1 l2).1
  have b0 : (0 : Int) < (D.length : Int) := by omega
  have b1 : (1 : Int) < (D.length : Int) := by omega
  have b2 : (2 : Int) < (D.length : Int) := by omega
  have b3 : ¬ (D.length : Int) < 3 := by omega
  have H := Lib.hid h
  have HL := Lib.hid (And.intro l0 (And.intro l1 l2))
  clear h hl l0 l1 l2 hl2
  go_enter Tryz.func20, Tryz.ntmps20
  go_wp2_with (first | (go_at_call 44; go_must (refine (Bytes_any r s D 0 _ H.out.buf).mono ?_; rintro e w1 ⟨v1, rfl, hB, k1, rfl⟩; rw [List.drop_zero] at hB; have H1 := Lib.hid (H.out.buf.drewN k1); have hba : ∃ g off cap, v1 = .slice (some ⟨g, off, none⟩) D.length cap ∧ D.length ≤ cap ∧ cap ≤ maxLen ∧ (w.drewN k1).cell? ⟨g, off, none⟩ = some (.int .u8 0) ∧ (w.drewN k1).cell? ⟨g, off + 1, none⟩ = some (.int .u8 83) ∧ (w.drewN k1).cell? ⟨g, off + 2, none⟩ = some (.int .u8 19) := (by obtain ⟨a, cap, e, hc, hm, hb⟩ := hB; rcases hb with hb | ⟨g, off, ea, _, hb⟩; (have := HL.out.1; rw [hb] at this; cases this); subst ea; exact ⟨g, off, cap, e, hc, hm, hb 0 _ HL.out.1, hb 1 _ HL.out.2.1, hb 2 _ HL.out.2.2⟩); obtain ⟨g, off, cap, rfl, hcc, hcm, q0, q1, q2⟩ := hba; clear hB)) | (go_at_call 45; go_must (refine (Len_any r s D 0 _ H1.out).mono ?_; rintro e w2 ⟨rfl, k2, rfl⟩; have H2 := Lib.hid (H.out.buf.drewN (k1 + k2)); have p0 : (w.drewN (k1 + k2)).cell? ⟨g, off, none⟩ = some (.int .u8 0) := q0; have p1 : (w.drewN (k1 + k2)).cell? ⟨g, off + 1, none⟩ = some (.int .u8 83) := q1; have p2 : (w.drewN (k1 + k2)).cell? ⟨g, off + 2, none⟩ = some (.int .u8 19) := q2; clear q0 q1 q2)) | (go_at_call 50; go_must (refine (un_Flow _ _ r s D 0 0 v _ _ H.out ((At_.mk H2.out ((Kept.refl _ _).drewN _)).nope ((Kept.refl _ _).alloc _)) (Nat.le_refl _) ⟨_, _, Blk.new _ _ _, rfl⟩ (by decide)).mono ?_; rintro e w4 ⟨_, rfl, rfl, hj, ht, hk⟩; have H4 := Lib.hid hj; clear hj ht hk)))
  go_ret2
  exact ⟨_, _, rfl, rfl, ⟨_, rfl⟩, H4.out.choose_spec.kept⟩
set_option maxRecDepth 100000 in
set_option maxHeartbeats 4000000 in
theorem pb_Transfer (w : World) (r : Nat) (s : Value) (D : List UInt8) (v : V) (h : Task w r s D 0 0 20 v kTransfer) :
    Calls Tryz.prog 20 #[.pointer (some ⟨r, 0, none⟩)] w (Gives2 fun x e w' => e = .nilIface ∧ (∃ p, x = .iface 83 (.pointer p)) ∧ Kept (Only r) w w') := by
  obtain ⟨c, q, _, hl⟩ := h.lies
  have l0 : D[0]? = some 0 := hl 0 _ rfl
  have l1 : D[1]? = some 83 := hl 1 _ rfl
  have l2 : D[2]? = some 20 := hl 2 _ rfl
  have hl2 := (List.getElem?_eq_some_iff.1 l2).1
  have b0 : (0 : Int) < (D.length : Int) := by omega
  have b1 : (1 : Int) < (D.length : Int) := by omega
  have b2 : (2 : Int) < (D.length : Int) := by omega
  have b3 : ¬ (D.length : Int) < 3 := by omega
  have H := Lib.hid h
  have HL := Lib.hid (And.intro l0 (And.intro l1 l2))
  clear h hl l0 l1 l2 hl2
  go_enter Tryz.func20, Tryz.ntmps20
  go_wp2_with (first | (go_at_call 44; go_must (refine (Bytes_any r s D 0 _ H.out.buf).mono ?_; rintro e w1 ⟨v1, rfl, hB, k1, rfl⟩; rw [List.drop_zero] at hB; have H1 := Lib.hid (H.out.buf.drewN k1); have hba : ∃ g off cap, v1 = .slice (some ⟨g, off, none⟩) D.length cap ∧ D.length ≤ cap ∧ cap ≤ maxLen ∧ (w.drewN k1).cell? ⟨g, off, none⟩ = some (.int .u8 0) ∧ (w.drewN k1).cell? ⟨g, off + 1, none⟩ = some (.int .u8 83) ∧ (w.drewN k1).cell? ⟨g, off + 2, none⟩ = some (.int .u8 20) := (by obtain ⟨a, cap, e, hc, hm, hb⟩ := hB; rcases hb with hb | ⟨g, off, ea, _, hb⟩; (have := HL.out.1; rw [hb] at this; cases this); subst ea; exact ⟨g, off, cap, e, hc, hm, hb 0 _ HL.out.1, hb 1 _ HL.out.2.1, hb 2 _ HL.out.2.2⟩); obtain ⟨g, off, cap, rfl, hcc, hcm, q0, q1, q2⟩ := hba; clear hB)) | (go_at_call 45; go_must (refine (Len_any r s D 0 _ H1.out).mono ?_; rintro e w2 ⟨rfl, k2, rfl⟩; have H2 := Lib.hid (H.out.buf.drewN (k1 + k2)); have p0 : (w.drewN (k1 + k2)).cell? ⟨g, off, none⟩ = some (.int .u8 0) := q0; have p1 : (w.drewN (k1 + k2)).cell? ⟨g, off + 1, none⟩ = some (.int .u8 83) := q1; have p2 : (w.drewN (k1 + k2)).cell? ⟨g, off + 2, none⟩ = some (.int .u8 20) := q2; clear q0 q1 q2)) | (go_at_call 51; go_must (refine (un_Transfer _ _ r s D 0 0 v _ _ H.out ((At_.mk H2.out ((Kept.refl _ _).drewN _)).nope ((Kept.refl _ _).alloc _)) (Nat.le_refl _) ⟨_, _, Blk.new _ _ _, rfl⟩ (by decide)).mono ?_; rintro e w4 ⟨_, rfl, rfl, hj, ht, hk⟩; have H4 := Lib.hid hj; clear hj ht hk)))
  go_ret2
  exact ⟨_, _, rfl, rfl, ⟨_, rfl⟩, H4.out.choose_spec.kept⟩
end Go.Proofs.YtbckofjoancdjaaGreatDoor
namespace Go.Proofs.YtbckofjoancdjaaGreatDoor
open Go Go.RowKit Go.Lib
abbrev kDisposition : List V := [numV 1 0, numV 4 1, nulV, nulV, nulV, nulV]
abbrev kClose : List V := [nulV]
abbrev kSASLChallenge : List V := [txtV 18]
section
variable (w0 w : World) (r : Nat) (s : Value) (D : List UInt8) (i0 i : Nat) (v : V) (T n : Nat)
set_option maxRecDepth 100000 in
set_option maxHeartbeats 4000000 in
theorem un_Disposition (h : Task w0 r s D i0 i 21 v kDisposition) (hA : At_ w0 w r s D i) (hT0 : w0.heap.size ≤ T) (hT : TAt T n w) (hn : 6 ≤ n) :
    Calls Tryz.prog 52 #[.pointer (some ⟨T, 0, none⟩), .pointer (some ⟨r, 0, none⟩)] w (PfPost w0 r s D T n w) := by
  have H := Lib.hid (And.intro h (And.intro hA (And.intro hT0 hT)))
  have HN := Lib.hid hn
  clear h hA hT0 hT hn
  go_enter Tryz.func52, Tryz.ntmps52
  go_wp2
  go_region_held3 (fun _ => True) (first | exact trivial) (first | (go_at_call 66; go_must (refine (New_u16 _ _).mono ?_; rintro e w1 ⟨⟨a1, b1, rfl⟩, rfl⟩)) | (go_at_call 74; go_must (refine (New_snd _ _).mono ?_; rintro e w1 ⟨⟨a1, b1, rfl⟩, rfl⟩)) | (go_at_call 75; go_must (refine (New_rcv _ _).mono ?_; rintro e w1 ⟨⟨a1, b1, rfl⟩, rfl⟩)) | (go_at_call 76; go_must (refine (New_src _ _).mono ?_; rintro e w1 ⟨⟨a1, b1, rfl⟩, rfl⟩)) | (go_at_call 77; go_must (refine (New_tgt _ _).mono ?_; rintro e w1 ⟨⟨a1, b1, rfl⟩, rfl⟩)) | (go_at_call 85; go_must (refine (New_err _ _).mono ?_; rintro e w1 ⟨⟨a1, b1, rfl⟩, rfl⟩)) | (go_at_call 62; go_must (refine (H.out.1.run _ T n [(_, _), (_, _), (_, _), (_, _), (_, _), (_, _)] _ _ _ _ _ (H.out.2.1.nope ((Kept.refl Nope _).alloc _).drew) H.out.2.2.1 (H.out.2.2.2.keep ((Kept.refl Nope _).alloc _).drew (fun h => h)) (Nat.le_trans H.out.2.1.kept.size (Kept.refl Nope w).size) (Nat.ne_of_gt (Nat.lt_of_lt_of_le H.out.2.2.2.lt (Kept.refl Nope w).size)) (Blk.new _ _ _).drew rfl rfl rfl (by simp) (by simp) ⟨⟨⟨_, _, rfl⟩, .inr ⟨_, _, _, rfl⟩⟩, ⟨⟨_, _, rfl⟩, .inr ⟨_, _, _, rfl⟩⟩, ⟨⟨_, _, rfl⟩, .inl rfl⟩, ⟨⟨_, _, rfl⟩, .inl rfl⟩, ⟨⟨_, _, rfl⟩, .inl rfl⟩, ⟨⟨_, _, rfl⟩, .inl rfl⟩, trivial⟩ ⟨fv_role (by have := HN.out; omega) rfl rfl rfl, fv_uint (by have := HN.out; omega) rfl rfl, fv_null rfl rfl, fv_null rfl rfl, fv_null rfl rfl, fv_null rfl rfl, trivial⟩).mono ?_; rintro e w3 ⟨_, rfl, rfl, hj, ht, hk⟩; have H3 := Lib.hid (And.intro hj (And.intro ht hk)); clear hj ht hk)))
  all_goals
    try go_wp2
    go_ret
    exact ⟨_, rfl, rfl, H3.out.1, H3.out.2.1, ((Kept.refl (Or2 r T) _).alloc _).drew.trans' H3.out.2.2⟩
set_option maxRecDepth 100000 in
set_option maxHeartbeats 4000000 in
theorem un_Close (h : Task w0 r s D i0 i 24 v kClose) (hA : At_ w0 w r s D i) (hT0 : w0.heap.size ≤ T) (hT : TAt T n w) (hn : 1 ≤ n) :
    Calls Tryz.prog 55 #[.pointer (some ⟨T, 0, none⟩), .pointer (some ⟨r, 0, none⟩)] w (PfPost w0 r s D T n w) := by
  have H := Lib.hid (And.intro h (And.intro hA (And.intro hT0 hT)))
  have HN := Lib.hid hn
  clear h hA hT0 hT hn
  go_enter Tryz.func55, Tryz.ntmps55
  go_wp2_with (first | (go_at_call 66; go_must (refine (New_u16 _ _).mono ?_; rintro e w1 ⟨⟨a1, b1, rfl⟩, rfl⟩)) | (go_at_call 74; go_must (refine (New_snd _ _).mono ?_; rintro e w1 ⟨⟨a1, b1, rfl⟩, rfl⟩)) | (go_at_call 75; go_must (refine (New_rcv _ _).mono ?_; rintro e w1 ⟨⟨a1, b1, rfl⟩, rfl⟩)) | (go_at_call 76; go_must (refine (New_src _ _).mono ?_; rintro e w1 ⟨⟨a1, b1, rfl⟩, rfl⟩)) | (go_at_call 77; go_must (refine (New_tgt _ _).mono ?_; rintro e w1 ⟨⟨a1, b1, rfl⟩, rfl⟩)) | (go_at_call 85; go_must (refine (New_err _ _).mono ?_; rintro e w1 ⟨⟨a1, b1, rfl⟩, rfl⟩)) | (go_at_call 62; go_must (refine (H.out.1.run _ T n [(_, _)] _ _ _ _ _ (H.out.2.1.nope ((Kept.refl Nope _).alloc _)) H.out.2.2.1 (H.out.2.2.2.keep ((Kept.refl Nope _).alloc _) (fun h => h)) (Nat.le_trans H.out.2.1.kept.size (Kept.refl Nope w).size) (Nat.ne_of_gt (Nat.lt_of_lt_of_le H.out.2.2.2.lt (Kept.refl Nope w).size)) (Blk.new _ _ _) rfl rfl rfl (by simp) (by simp) ⟨⟨⟨_, _, rfl⟩, .inl rfl⟩, trivial⟩ ⟨fv_null rfl rfl, trivial⟩).mono ?_; rintro e w3 ⟨_, rfl, rfl, hj, ht, hk⟩; have H3 := Lib.hid (And.intro hj (And.intro ht hk)); clear hj ht hk)))
  all_goals
    try go_wp2
    go_ret
    exact ⟨_, rfl, rfl, H3.out.1, H3.out.2.1, ((Kept.refl (Or2 r T) _).alloc _).trans' H3.out.2.2⟩
set_option maxRecDepth 100000 in
set_option maxHeartbeats 4000000 in
theorem un_SASLChallenge (h : Task w0 r s D i0 i 66 v kSASLChallenge) (hA : At_ w0 w r s D i) (hT0 : w0.heap.size ≤ T) (hT : TAt T n w) (hn : 1 ≤ n) :
    Calls Tryz.prog 57 #[.pointer (some ⟨T, 0, none⟩), .pointer (some ⟨r, 0, none⟩)] w (PfPost w0 r s D T n w) := by
  have H := Lib.hid (And.intro h (And.intro hA (And.intro hT0 hT)))
  have HN := Lib.hid hn
  clear h hA hT0 hT hn
  go_enter Tryz.func57, Tryz.ntmps57
  go_wp2_with (first | (go_at_call 66; go_must (refine (New_u16 _ _).mono ?_; rintro e w1 ⟨⟨a1, b1, rfl⟩, rfl⟩)) | (go_at_call 74; go_must (refine (New_snd _ _).mono ?_; rintro e w1 ⟨⟨a1, b1, rfl⟩, rfl⟩)) | (go_at_call 75; go_must (refine (New_rcv _ _).mono ?_; rintro e w1 ⟨⟨a1, b1, rfl⟩, rfl⟩)) | (go_at_call 76; go_must (refine (New_src _ _).mono ?_; rintro e w1 ⟨⟨a1, b1, rfl⟩, rfl⟩)) | (go_at_call 77; go_must (refine (New_tgt _ _).mono ?_; rintro e w1 ⟨⟨a1, b1, rfl⟩, rfl⟩)) | (go_at_call 85; go_must (refine (New_err _ _).mono ?_; rintro e w1 ⟨⟨a1, b1, rfl⟩, rfl⟩)) | (go_at_call 62; go_must (refine (H.out.1.run _ T n [(_, _)] _ _ _ _ _ (H.out.2.1.nope ((Kept.refl Nope _).alloc _)) H.out.2.2.1 (H.out.2.2.2.keep ((Kept.refl Nope _).alloc _) (fun h => h)) (Nat.le_trans H.out.2.1.kept.size (Kept.refl Nope w).size) (Nat.ne_of_gt (Nat.lt_of_lt_of_le H.out.2.2.2.lt (Kept.refl Nope w).size)) (Blk.new _ _ _) rfl rfl rfl (by simp) (by simp) ⟨⟨⟨_, _, rfl⟩, .inr ⟨_, _, _, rfl⟩⟩, trivial⟩ ⟨fv_bin (by have := HN.out; omega) rfl rfl rfl, trivial⟩).mono ?_; rintro e w3 ⟨_, rfl, rfl, hj, ht, hk⟩; have H3 := Lib.hid (And.intro hj (And.intro ht hk)); clear hj ht hk)))
  all_goals
    try go_wp2
    go_ret
    exact ⟨_, rfl, rfl, H3.out.1, H3.out.2.1, ((Kept.refl (Or2 r T) _).alloc _).trans' H3.out.2.2⟩
end
end Go.Proofs.YtbckofjoancdjaaGreatDoor
namespace Go.Proofs.YtbckofjoancdjaaGreatDoor
open Go Go.RowKit Go.Lib
set_option maxRecDepth 100000 in
set_option maxHeartbeats 4000000 in
theorem pb_Disposition (w : World) (r : Nat) (s : Value) (D : List UInt8) (v : V) (h : Task w r s D 0 0 21 v kDisposition) :
    Calls Tryz.prog 20 #[.pointer (some ⟨r, 0, none⟩)] w (Gives2 fun x e w' => e = .nilIface ∧ (∃ p, x = .iface 84 (.pointer p)) ∧ Kept (Only r) w w') := by
  obtain ⟨c, q, _, hl⟩ := h.lies
  have l0 : D[0]? = some 0 := hl 0 _ rfl
  have l1 : D[1]? = some 83 := hl 1 _ rfl
  have l2 : D[2]? = some 21 := hl 2 _ rfl
  have hl2 := (List.getElem?_eq_some_iff.1 l2).1
  have b0 : (0 : Int) < (D.length : Int) := by omega
  have b1 : (1 : Int) < (D.length : Int) := by omega
  have b2 : (2 : Int) < (D.length : Int) := by omega
  have b3 : ¬ (D.length : Int) < 3 := by omega
  have H := Lib.hid h
  have HL := Lib.hid (And.intro l0 (And.intro l1 l2))
  clear h hl l0 l1 l2 hl2
  go_enter Tryz.func20, Tryz.ntmps20
  go_wp2_with (first | (go_at_call 44; go_must (refine (Bytes_any r s D 0 _ H.out.buf).mono ?_; rintro e w1 ⟨v1, rfl, hB, k1, rfl⟩; rw [List.drop_zero] at hB; have H1 := Lib.hid (H.out.buf.drewN k1); have hba : ∃ g off cap, v1 = .slice (some ⟨g, off, none⟩) D.length cap ∧ D.length ≤ cap ∧ cap ≤ maxLen ∧ (w.drewN k1).cell? ⟨g, off, none⟩ = some (.int .u8 0) ∧ (w.drewN k1).cell? ⟨g, off + 1, none⟩ = some (.int .u8 83) ∧ (w.drewN k1).cell? ⟨g, off + 2, none⟩ = some (.int .u8 21) := (by obtain ⟨a, cap, e, hc, hm, hb⟩ := hB; rcases hb with hb | ⟨g, off, ea, _, hb⟩; (have := HL.out.1; rw [hb] at this; cases this); subst ea; exact ⟨g, off, cap, e, hc, hm, hb 0 _ HL.out.1, hb 1 _ HL.out.2.1, hb 2 _ HL.out.2.2⟩); obtain ⟨g, off, cap, rfl, hcc, hcm, q0, q1, q2⟩ := hba; clear hB)) | (go_at_call 45; go_must (refine (Len_any r s D 0 _ H1.out).mono ?_; rintro e w2 ⟨rfl, k2, rfl⟩; have H2 := Lib.hid (H.out.buf.drewN (k1 + k2)); have p0 : (w.drewN (k1 + k2)).cell? ⟨g, off, none⟩ = some (.int .u8 0) := q0; have p1 : (w.drewN (k1 + k2)).cell? ⟨g, off + 1, none⟩ = some (.int .u8 83) := q1; have p2 : (w.drewN (k1 + k2)).cell? ⟨g, off + 2, none⟩ = some (.int .u8 21) := q2; clear q0 q1 q2)) | (go_at_call 52; go_must (refine (un_Disposition _ _ r s D 0 0 v _ _ H.out ((At_.mk H2.out ((Kept.refl _ _).drewN _)).nope ((Kept.refl _ _).alloc _)) (Nat.le_refl _) ⟨_, _, Blk.new _ _ _, rfl⟩ (by decide)).mono ?_; rintro e w4 ⟨_, rfl, rfl, hj, ht, hk⟩; have H4 := Lib.hid hj; clear hj ht hk)))
  go_ret2
  exact ⟨_, _, rfl, rfl, ⟨_, rfl⟩, H4.out.choose_spec.kept⟩
set_option maxRecDepth 100000 in
set_option maxHeartbeats 4000000 in
theorem pb_Detach (w : World) (r : Nat) (s : Value) (D : List UInt8) (v : V) (h : Task w r s D 0 0 22 v kDetach) :
    Calls Tryz.prog 20 #[.pointer (some ⟨r, 0, none⟩)] w (Gives2 fun x e w' => e = .nilIface ∧ (∃ p, x = .iface 85 (.pointer p)) ∧ Kept (Only r) w w') := by
  obtain ⟨c, q, _, hl⟩ := h.lies
  have l0 : D[0]? = some 0 := hl 0 _ rfl
  have l1 : D[1]? = some 83 := hl 1 _ rfl
  have l2 : D[2]? = some 22 := hl 2 _ rfl
  have hl2 := (List.getElem?_eq_some_iff.1 l2).1
  have b0 : (0 : Int) < (D.length : Int) := by omega
  have b1 : (1 : Int) < (D.length : Int) := by omega
  have b2 : (2 : Int) < (D.length : Int) := by omega
  have b3 : ¬ (D.length : Int) < 3 := by omega
  have H := Lib.hid h
  have HL := Lib.hid (And.intro l0 (And.intro l1 l2))
  clear h hl l0 l1 l2 hl2
  go_enter Tryz.func20, Tryz.ntmps20
  go_wp2_with (first | (go_at_call 44; go_must (refine (Bytes_any r s D 0 _ H.out.buf).mono ?_; rintro e w1 ⟨v1, rfl, hB, k1, rfl⟩; rw [List.drop_zero] at hB; have H1 := Lib.hid (H.out.buf.drewN k1); have hba : ∃ g off cap, v1 = .slice (some ⟨g, off, none⟩) D.length cap ∧ D.length ≤ cap ∧ cap ≤ maxLen ∧ (w.drewN k1).cell? ⟨g, off, none⟩ = some (.int .u8 0) ∧ (w.drewN k1).cell? ⟨g, off + 1, none⟩ = some (.int .u8 83) ∧ (w.drewN k1).cell? ⟨g, off + 2, none⟩ = some (.int .u8 22) := (by obtain ⟨a, cap, e, hc, hm, hb⟩ := hB; rcases hb with hb | ⟨g, off, ea, _, hb⟩; (have := HL.out.1; rw [hb] at this; cases this); subst ea; exact ⟨g, off, cap, e, hc, hm, hb 0 _ HL.out.1, hb 1 _ HL.out.2.1, hb 2 _ HL.out.2.2⟩); obtain ⟨g, off, cap, rfl, hcc, hcm, q0, q1, q2⟩ := hba; clear hB)) | (go_at_call 45; go_must (refine (Len_any r s D 0 _ H1.out).mono ?_; rintro e w2 ⟨rfl, k2, rfl⟩; have H2 := Lib.hid (H.out.buf.drewN (k1 + k2)); have p0 : (w.drewN (k1 + k2)).cell? ⟨g, off, none⟩ = some (.int .u8 0) := q0; have p1 : (w.drewN (k1 + k2)).cell? ⟨g, off + 1, none⟩ = some (.int .u8 83) := q1; have p2 : (w.drewN (k1 + k2)).cell? ⟨g, off + 2, none⟩ = some (.int .u8 22) := q2; clear q0 q1 q2)) | (go_at_call 53; go_must (refine (un_Detach _ _ r s D 0 0 v _ _ H.out ((At_.mk H2.out ((Kept.refl _ _).drewN _)).nope ((Kept.refl _ _).alloc _)) (Nat.le_refl _) ⟨_, _, Blk.new _ _ _, rfl⟩ (by decide)).mono ?_; rintro e w4 ⟨_, rfl, rfl, hj, ht, hk⟩; have H4 := Lib.hid hj; clear hj ht hk)))
  go_ret2
  exact ⟨_, _, rfl, rfl, ⟨_, rfl⟩, H4.out.choose_spec.kept⟩
set_option maxRecDepth 100000 in
set_option maxHeartbeats 4000000 in
theorem pb_Close (w : World) (r : Nat) (s : Value) (D : List UInt8) (v : V) (h : Task w r s D 0 0 24 v kClose) :
    Calls Tryz.prog 20 #[.pointer (some ⟨r, 0, none⟩)] w (Gives2 fun x e w' => e = .nilIface ∧ (∃ p, x = .iface 87 (.pointer p)) ∧ Kept (Only r) w w') := by
  obtain ⟨c, q, _, hl⟩ := h.lies
  have l0 : D[0]? = some 0 := hl 0 _ rfl
  have l1 : D[1]? = some 83 := hl 1 _ rfl
  have l2 : D[2]? = some 24 := hl 2 _ rfl
  have hl2 := (List.getElem?_eq_some_iff.1 l2).1
  have b0 : (0 : Int) < (D.length : Int) := by omega
  have b1 : (1 : Int) < (D.length : Int) := by omega
  have b2 : (2 : Int) < (D.length : Int) := by omega
  have b3 : ¬ (D.length : Int) < 3 := by omega
  have H := Lib.hid h
  have HL := Lib.hid (And.intro l0 (And.intro l1 l2))
  clear h hl l0 l1 l2 hl2
  go_enter Tryz.func20, Tryz.ntmps20
  go_wp2_with (first | (go_at_call 44; go_must (refine (Bytes_any r s D 0 _ H.out.buf).mono ?_; rintro e w1 ⟨v1, rfl, hB, k1, rfl⟩; rw [List.drop_zero] at hB; have H1 := Lib.hid (H.out.buf.drewN k1); have hba : ∃ g off cap, v1 = .slice (some ⟨g, off, none⟩) D.length cap ∧ D.length ≤ cap ∧ cap ≤ maxLen ∧ (w.drewN k1).cell? ⟨g, off, none⟩ = some (.int .u8 0) ∧ (w.drewN k1).cell? ⟨g, off + 1, none⟩ = some (.int .u8 83) ∧ (w.drewN k1).cell? ⟨g, off + 2, none⟩ = some (.int .u8 24) := (by obtain ⟨a, cap, e, hc, hm, hb⟩ := hB; rcases hb with hb | ⟨g, off, ea, _, hb⟩; (have := HL.out.1; rw [hb] at this; cases this); subst ea; exact ⟨g, off, cap, e, hc, hm, hb 0 _ HL.out.1, hb 1 _ HL.out.2.1, hb 2 _ HL.out.2.2⟩); obtain ⟨g, off, cap, rfl, hcc, hcm, q0, q1, q2⟩ := hba; clear hB)) | (go_at_call 45; go_must (refine (Len_any r s D 0 _ H1.out).mono ?_; rintro e w2 ⟨rfl, k2, rfl⟩; have H2 := Lib.hid (H.out.buf.drewN (k1 + k2)); have p0 : (w.drewN (k1 + k2)).cell? ⟨g, off, none⟩ = some (.int .u8 0) := q0; have p1 : (w.drewN (k1 + k2)).cell? ⟨g, off + 1, none⟩ = some (.int .u8 83) := q1; have p2 : (w.drewN (k1 + k2)).cell? ⟨g, off + 2, none⟩ = some (.int .u8 24) := q2; clear q0 q1 q2)) | (go_at_call 55; go_must (refine (un_Close _ _ r s D 0 0 v _ _ H.out ((At_.mk H2.out ((Kept.refl _ _).drewN _)).nope ((Kept.refl _ _).alloc _)) (Nat.le_refl _) ⟨_, _, Blk.new _ _ _, rfl⟩ (by decide)).mono ?_; rintro e w4 ⟨_, rfl, rfl, hj, ht, hk⟩; have H4 := Lib.hid hj; clear hj ht hk)))
  go_ret2
  exact ⟨_, _, rfl, rfl, ⟨_, rfl⟩, H4.out.choose_spec.kept⟩
end Go.Proofs.YtbckofjoancdjaaGreatDoor
namespace Go.Proofs.YtbckofjoancdjaaGreatDoor
open Go Go.RowKit Go.Lib
set_option maxRecDepth 100000 in
set_option maxHeartbeats 4000000 in
theorem pb_SASLMechanisms (w : World) (r : Nat) (s : Value) (D : List UInt8) (v : V) (h : Task w r s D 0 0 64 v kSASLMechanisms) :
    Calls Tryz.prog 20 #[.pointer (some ⟨r, 0, none⟩)] w (Gives2 fun x e w' => e = .nilIface ∧ (∃ p, x = .iface 88 (.pointer p)) ∧ Kept (Only r) w w') := by
  obtain ⟨c, q, _, hl⟩ := h.lies
  have l0 : D[0]? = some 0 := hl 0 _ rfl
  have l1 : D[1]? = some 83 := hl 1 _ rfl
  have l2 : D[2]? = some 64 := hl 2 _ rfl
  have hl2 := (List.getElem?_eq_some_iff.1 l2).1
  have b0 : (0 : Int) < (D.length : Int) := by omega
  have b1 : (1 : Int) < (D.length : Int) := by omega
  have b2 : (2 : Int) < (D.length : Int) := by omega
  have b3 : ¬ (D.length : Int) < 3 := by omega
  have H := Lib.hid h
  have HL := Lib.hid (And.intro l0 (And.intro l1 l2))
  clear h hl l0 l1 l2 hl2
  go_enter Tryz.func20, Tryz.ntmps20
  go_wp2_with (first | (go_at_call 44; go_must (refine (Bytes_any r s D 0 _ H.out.buf).mono ?_; rintro e w1 ⟨v1, rfl, hB, k1, rfl⟩; rw [List.drop_zero] at hB; have H1 := Lib.hid (H.out.buf.drewN k1); have hba : ∃ g off cap, v1 = .slice (some ⟨g, off, none⟩) D.length cap ∧ D.length ≤ cap ∧ cap ≤ maxLen ∧ (w.drewN k1).cell? ⟨g, off, none⟩ = some (.int .u8 0) ∧ (w.drewN k1).cell? ⟨g, off + 1, none⟩ = some (.int .u8 83) ∧ (w.drewN k1).cell? ⟨g, off + 2, none⟩ = some (.int .u8 64) := (by obtain ⟨a, cap, e, hc, hm, hb⟩ := hB; rcases hb with hb | ⟨g, off, ea, _, hb⟩; (have := HL.out.1; rw [hb] at this; cases this); subst ea; exact ⟨g, off, cap, e, hc, hm, hb 0 _ HL.out.1, hb 1 _ HL.out.2.1, hb 2 _ HL.out.2.2⟩); obtain ⟨g, off, cap, rfl, hcc, hcm, q0, q1, q2⟩ := hba; clear hB)) | (go_at_call 45; go_must (refine (Len_any r s D 0 _ H1.out).mono ?_; rintro e w2 ⟨rfl, k2, rfl⟩; have H2 := Lib.hid (H.out.buf.drewN (k1 + k2)); have p0 : (w.drewN (k1 + k2)).cell? ⟨g, off, none⟩ = some (.int .u8 0) := q0; have p1 : (w.drewN (k1 + k2)).cell? ⟨g, off + 1, none⟩ = some (.int .u8 83) := q1; have p2 : (w.drewN (k1 + k2)).cell? ⟨g, off + 2, none⟩ = some (.int .u8 64) := q2; clear q0 q1 q2)) | (go_at_call 56; go_must (refine (un_SASLMechanisms _ _ r s D 0 0 v _ _ H.out ((At_.mk H2.out ((Kept.refl _ _).drewN _)).nope ((Kept.refl _ _).alloc _)) (Nat.le_refl _) ⟨_, _, Blk.new _ _ _, rfl⟩ (by decide)).mono ?_; rintro e w4 ⟨_, rfl, rfl, hj, ht, hk⟩; have H4 := Lib.hid hj; clear hj ht hk)))
  go_ret2
  exact ⟨_, _, rfl, rfl, ⟨_, rfl⟩, H4.out.choose_spec.kept⟩
set_option maxRecDepth 100000 in
set_option maxHeartbeats 4000000 in
theorem pb_SASLChallenge (w : World) (r : Nat) (s : Value) (D : List UInt8) (v : V) (h : Task w r s D 0 0 66 v kSASLChallenge) :
    Calls Tryz.prog 20 #[.pointer (some ⟨r, 0, none⟩)] w (Gives2 fun x e w' => e = .nilIface ∧ (∃ p, x = .iface 89 (.pointer p)) ∧ Kept (Only r) w w') := by
  obtain ⟨c, q, _, hl⟩ := h.lies
  have l0 : D[0]? = some 0 := hl 0 _ rfl
  have l1 : D[1]? = some 83 := hl 1 _ rfl
  have l2 : D[2]? = some 66 := hl 2 _ rfl
  have hl2 := (List.getElem?_eq_some_iff.1 l2).1
  have b0 : (0 : Int) < (D.length : Int) := by omega
  have b1 : (1 : Int) < (D.length : Int) := by omega
  have b2 : (2 : Int) < (D.length : Int) := by omega
  have b3 : ¬ (D.length : Int) < 3 := by omega
  have H := Lib.hid h
  have HL := Lib.hid (And.intro l0 (And.intro l1 l2))
  clear h hl l0 l1 l2 hl2
  go_enter Tryz.func20, Tryz.ntmps20
  go_wp2_with (first | (go_at_call 44; go_must (refine (Bytes_any r s D 0 _ H.out.buf).mono ?_; rintro e w1 ⟨v1, rfl, hB, k1, rfl⟩; rw [List.drop_zero] at hB; have H1 := Lib.hid (H.out.buf.drewN k1); have hba : ∃ g off cap, v1 = .slice (some ⟨g, off, none⟩) D.length cap ∧ D.length ≤ cap ∧ cap ≤ maxLen ∧ (w.drewN k1).cell? ⟨g, off, none⟩ = some (.int .u8 0) ∧ (w.drewN k1).cell? ⟨g, off + 1, none⟩ = some (.int .u8 83) ∧ (w.drewN k1).cell? ⟨g, off + 2, none⟩ = some (.int .u8 66) := (by obtain ⟨a, cap, e, hc, hm, hb⟩ := hB; rcases hb with hb | ⟨g, off, ea, _, hb⟩; (have := HL.out.1; rw [hb] at this; cases this); subst ea; exact ⟨g, off, cap, e, hc, hm, hb 0 _ HL.out.1, hb 1 _ HL.out.2.1, hb 2 _ HL.out.2.2⟩); obtain ⟨g, off, cap, rfl, hcc, hcm, q0, q1, q2⟩ := hba; clear hB)) | (go_at_call 45; go_must (refine (Len_any r s D 0 _ H1.out).mono ?_; rintro e w2 ⟨rfl, k2, rfl⟩; have H2 := Lib.hid (H.out.buf.drewN (k1 + k2)); have p0 : (w.drewN (k1 + k2)).cell? ⟨g, off, none⟩ = some (.int .u8 0) := q0; have p1 : (w.drewN (k1 + k2)).cell? ⟨g, off + 1, none⟩ = some (.int .u8 83) := q1; have p2 : (w.drewN (k1 + k2)).cell? ⟨g, off + 2, none⟩ = some (.int .u8 66) := q2; clear q0 q1 q2)) | (go_at_call 57; go_must (refine (un_SASLChallenge _ _ r s D 0 0 v _ _ H.out ((At_.mk H2.out ((Kept.refl _ _).drewN _)).nope ((Kept.refl _ _).alloc _)) (Nat.le_refl _) ⟨_, _, Blk.new _ _ _, rfl⟩ (by decide)).mono ?_; rintro e w4 ⟨_, rfl, rfl, hj, ht, hk⟩; have H4 := Lib.hid hj; clear hj ht hk)))
  go_ret2
  exact ⟨_, _, rfl, rfl, ⟨_, rfl⟩, H4.out.choose_spec.kept⟩
set_option maxRecDepth 100000 in
set_option maxHeartbeats 4000000 in
theorem pb_SASLOutcome (w : World) (r : Nat) (s : Value) (D : List UInt8) (v : V) (h : Task w r s D 0 0 68 v kSASLOutcome) :
    Calls Tryz.prog 20 #[.pointer (some ⟨r, 0, none⟩)] w (Gives2 fun x e w' => e = .nilIface ∧ (∃ p, x = .iface 90 (.pointer p)) ∧ Kept (Only r) w w') := by
  obtain ⟨c, q, _, hl⟩ := h.lies
  have l0 : D[0]? = some 0 := hl 0 _ rfl
  have l1 : D[1]? = some 83 := hl 1 _ rfl
  have l2 : D[2]? = some 68 := hl 2 _ rfl
  have hl2 := (List.getElem?_eq_some_iff.1 l2).1
  have b0 : (0 : Int) < (D.length : Int) := by omega
  have b1 : (1 : Int) < (D.length : Int) := by omega
  have b2 : (2 : Int) < (D.length : Int) := by omega
  have b3 : ¬ (D.length : Int) < 3 := by omega
  have H := Lib.hid h
  have HL := Lib.hid (And.intro l0 (And.intro l1 l2))
  clear h hl l0 l1 l2 hl2
  go_enter Tryz.func20, Tryz.ntmps20
  go_wp2_with (first | (go_at_call 44; go_must (refine (Bytes_any r s D 0 _ H.out.buf).mono ?_; rintro e w1 ⟨v1, rfl, hB, k1, rfl⟩; rw [List.drop_zero] at hB; have H1 := Lib.hid (H.out.buf.drewN k1); have hba : ∃ g off cap, v1 = .slice (some ⟨g, off, none⟩) D.length cap ∧ D.length ≤ cap ∧ cap ≤ maxLen ∧ (w.drewN k1).cell? ⟨g, off, none⟩ = some (.int .u8 0) ∧ (w.drewN k1).cell? ⟨g, off + 1, none⟩ = some (.int .u8 83) ∧ (w.drewN k1).cell? ⟨g, off + 2, none⟩ = some (.int .u8 68) := (by obtain ⟨a, cap, e, hc, hm, hb⟩ := hB; rcases hb with hb | ⟨g, off, ea, _, hb⟩; (have := HL.out.1; rw [hb] at this; cases this); subst ea; exact ⟨g, off, cap, e, hc, hm, hb 0 _ HL.out.1, hb 1 _ HL.out.2.1, hb 2 _ HL.out.2.2⟩); obtain ⟨g, off, cap, rfl, hcc, hcm, q0, q1, q2⟩ := hba; clear hB)) | (go_at_call 45; go_must (refine (Len_any r s D 0 _ H1.out).mono ?_; rintro e w2 ⟨rfl, k2, rfl⟩; have H2 := Lib.hid (H.out.buf.drewN (k1 + k2)); have p0 : (w.drewN (k1 + k2)).cell? ⟨g, off, none⟩ = some (.int .u8 0) := q0; have p1 : (w.drewN (k1 + k2)).cell? ⟨g, off + 1, none⟩ = some (.int .u8 83) := q1; have p2 : (w.drewN (k1 + k2)).cell? ⟨g, off + 2, none⟩ = some (.int .u8 68) := q2; clear q0 q1 q2)) | (go_at_call 58; go_must (refine (un_SASLOutcome _ _ r s D 0 0 v _ _ H.out ((At_.mk H2.out ((Kept.refl _ _).drewN _)).nope ((Kept.refl _ _).alloc _)) (Nat.le_refl _) ⟨_, _, Blk.new _ _ _, rfl⟩ (by decide)).mono ?_; rintro e w4 ⟨_, rfl, rfl, hj, ht, hk⟩; have H4 := Lib.hid hj; clear hj ht hk)))
  go_ret2
  exact ⟨_, _, rfl, rfl, ⟨_, rfl⟩, H4.out.choose_spec.kept⟩
end Go.Proofs.YtbckofjoancdjaaGreatDoor
