/- The performatives' own Unmarshals. The performatives' own Unmarshals. ParseBody over what was written. -/
import Derived.Test.YtbckofjoancdjaaGreatDoorK28
namespace Go.Proofs.YtbckofjoancdjaaGreatDoor
open Go Go.RowKit Go.Lib
abbrev kOpen : List V := [txtV 19, nulV, numV 4 512, numV 3 1, nulV, nulV, nulV, nulV, nulV, nulV]
section
variable (w0 w : World) (r : Nat) (s : Value) (D : List UInt8) (i0 i : Nat) (v : V) (T n : Nat)
set_option maxRecDepth 100000 in
set_option maxHeartbeats 4000000 in
theorem un_Open (h : Task w0 r s D i0 i 16 v kOpen) (hA : At_ w0 w r s D i) (hT0 : w0.heap.size ≤ T) (hT : TAt T n w) (hn : 10 ≤ n) :
    Calls Tryz.prog 47 #[.pointer (some ⟨T, 0, none⟩), .pointer (some ⟨r, 0, none⟩)] w (PfPost w0 r s D T n w) := by
  have H := Lib.hid (And.intro h (And.intro hA (And.intro hT0 hT)))
  have HN := Lib.hid hn
  have HBX := Lib.hid (Blk.new w 79 #[.pointer (some ⟨T, 0, none⟩)])
  clear h hA hT0 hT hn
  go_enter Tryz.func47, Tryz.ntmps47
  go_wp2
  have HM : Hid (∀ w', Kept Nope (w.alloc (.cells #[.pointer (some ⟨T, 0, none⟩)] 79)) w' → w'.cell? ⟨w.heap.size, 0, none⟩ = some (.pointer (some ⟨T, 0, none⟩))) := Lib.hid fun w' h => (HBX.out.kept h (fun h => h)).cell 0
  have HA : Hid (At_ w0 (w.alloc (.cells #[.pointer (some ⟨T, 0, none⟩)] 79)) r s D i ∧ TAt T n (w.alloc (.cells #[.pointer (some ⟨T, 0, none⟩)] 79)) ∧ Kept (Or2 r T) w (w.alloc (.cells #[.pointer (some ⟨T, 0, none⟩)] 79)) ∧ (∀ w', Kept (Or2 r T) (w.alloc (.cells #[.pointer (some ⟨T, 0, none⟩)] 79)) w' → w'.cell? ⟨w.heap.size, 0, none⟩ = some (.pointer (some ⟨T, 0, none⟩)))) := Lib.hid ⟨H.out.2.1.nope ((Kept.refl _ _).alloc _), H.out.2.2.2.keep ((Kept.refl Nope _).alloc _) (fun h => h), (Kept.refl _ _).alloc _, fun w' h => (HBX.out.kept h (fun e => by have h1 := H.out.1.buf.lt; have h2 := H.out.2.1.kept.size; have h3 := H.out.2.2.2.lt; rcases e with e | e <;> omega)).cell 0⟩
  clear HBX
  generalize w.alloc (.cells #[.pointer (some ⟨T, 0, none⟩)] 79) = W at HM HA ⊢
  generalize w.heap.size = gb at HM HA ⊢
  go_region_held3 (fun w' => w'.cell? ⟨gb, 0, none⟩ = some (.pointer (some ⟨T, 0, none⟩))) (first | exact HM.out _ (Kept.refl _ W).drew | exact HM.out _ (Kept.refl _ W) | exact HM.out _ ((Kept.refl _ W).alloc _).drew | exact HM.out _ ((Kept.refl _ W).alloc _) | exact HA.out.2.2.2 _ (((Kept.refl _ W).alloc _).drew.trans' H3.out.2.2)) (first | (go_at_call 66; go_must (refine (New_u16 _ _).mono ?_; rintro e w1 ⟨⟨a1, b1, rfl⟩, rfl⟩)) | (go_at_call 74; go_must (refine (New_snd _ _).mono ?_; rintro e w1 ⟨⟨a1, b1, rfl⟩, rfl⟩)) | (go_at_call 75; go_must (refine (New_rcv _ _).mono ?_; rintro e w1 ⟨⟨a1, b1, rfl⟩, rfl⟩)) | (go_at_call 76; go_must (refine (New_src _ _).mono ?_; rintro e w1 ⟨⟨a1, b1, rfl⟩, rfl⟩)) | (go_at_call 77; go_must (refine (New_tgt _ _).mono ?_; rintro e w1 ⟨⟨a1, b1, rfl⟩, rfl⟩)) | (go_at_call 85; go_must (refine (New_err _ _).mono ?_; rintro e w1 ⟨⟨a1, b1, rfl⟩, rfl⟩)) | (go_at_call 62; go_must (refine (H.out.1.run _ T n [(_, _), (_, _), (_, _), (_, _), (_, _), (_, _), (_, _), (_, _), (_, _), (_, _)] _ _ _ _ _ (HA.out.1.nope ((Kept.refl Nope _).alloc _).drew) H.out.2.2.1 (HA.out.2.1.keep ((Kept.refl Nope _).alloc _).drew (fun h => h)) HA.out.1.kept.size (Nat.ne_of_gt HA.out.2.1.lt) (Blk.new _ _ _).drew rfl rfl rfl (by simp) (by simp) ⟨⟨⟨_, _, rfl⟩, .inr ⟨_, _, _, rfl⟩⟩, ⟨⟨_, _, rfl⟩, .inl rfl⟩, ⟨⟨_, _, rfl⟩, .inr ⟨_, _, _, rfl⟩⟩, ⟨⟨_, _, rfl⟩, .inr ⟨_, _, _, rfl⟩⟩, ⟨⟨_, _, rfl⟩, .inl rfl⟩, ⟨⟨_, _, rfl⟩, .inl rfl⟩, ⟨⟨_, _, rfl⟩, .inl rfl⟩, ⟨⟨_, _, rfl⟩, .inl rfl⟩, ⟨⟨_, _, rfl⟩, .inl rfl⟩, ⟨⟨_, _, rfl⟩, .inl rfl⟩, trivial⟩ ⟨fv_str (by have := HN.out; omega) rfl rfl rfl, fv_null rfl rfl, fv_uint (by have := HN.out; omega) rfl rfl, fv_ushort (by have := HN.out; omega) rfl rfl, fv_null rfl rfl, fv_null rfl rfl, fv_null rfl rfl, fv_null rfl rfl, fv_null rfl rfl, fv_null rfl rfl, trivial⟩).mono ?_; rintro e w3 ⟨_, rfl, rfl, hj, ht, hk⟩; have H3 := Lib.hid (And.intro hj (And.intro ht hk)); clear hj ht hk)))
  all_goals
    try go_wp2
    go_ret
    exact ⟨_, rfl, rfl, H3.out.1, H3.out.2.1, HA.out.2.2.1.trans' (((Kept.refl (Or2 r T) _).alloc _).drew.trans' H3.out.2.2)⟩
end
end Go.Proofs.YtbckofjoancdjaaGreatDoor
namespace Go.Proofs.YtbckofjoancdjaaGreatDoor
open Go Go.RowKit Go.Lib
abbrev kBegin : List V := [nulV, numV 4 1, numV 4 0, numV 4 0, numV 4 1, nulV, nulV, nulV]
section
variable (w0 w : World) (r : Nat) (s : Value) (D : List UInt8) (i0 i : Nat) (v : V) (T n : Nat)
set_option maxRecDepth 100000 in
set_option maxHeartbeats 4000000 in
theorem un_Begin (h : Task w0 r s D i0 i 17 v kBegin) (hA : At_ w0 w r s D i) (hT0 : w0.heap.size ≤ T) (hT : TAt T n w) (hn : 8 ≤ n) :
    Calls Tryz.prog 48 #[.pointer (some ⟨T, 0, none⟩), .pointer (some ⟨r, 0, none⟩)] w (PfPost w0 r s D T n w) := by
  have H := Lib.hid (And.intro h (And.intro hA (And.intro hT0 hT)))
  have HN := Lib.hid hn
  have HBX := Lib.hid (Blk.new w 80 #[.pointer (some ⟨T, 0, none⟩)])
  clear h hA hT0 hT hn
  go_enter Tryz.func48, Tryz.ntmps48
  go_wp2
  have HM : Hid (∀ w', Kept Nope (w.alloc (.cells #[.pointer (some ⟨T, 0, none⟩)] 80)) w' → w'.cell? ⟨w.heap.size, 0, none⟩ = some (.pointer (some ⟨T, 0, none⟩))) := Lib.hid fun w' h => (HBX.out.kept h (fun h => h)).cell 0
  have HA : Hid (At_ w0 (w.alloc (.cells #[.pointer (some ⟨T, 0, none⟩)] 80)) r s D i ∧ TAt T n (w.alloc (.cells #[.pointer (some ⟨T, 0, none⟩)] 80)) ∧ Kept (Or2 r T) w (w.alloc (.cells #[.pointer (some ⟨T, 0, none⟩)] 80)) ∧ (∀ w', Kept (Or2 r T) (w.alloc (.cells #[.pointer (some ⟨T, 0, none⟩)] 80)) w' → w'.cell? ⟨w.heap.size, 0, none⟩ = some (.pointer (some ⟨T, 0, none⟩)))) := Lib.hid ⟨H.out.2.1.nope ((Kept.refl _ _).alloc _), H.out.2.2.2.keep ((Kept.refl Nope _).alloc _) (fun h => h), (Kept.refl _ _).alloc _, fun w' h => (HBX.out.kept h (fun e => by have h1 := H.out.1.buf.lt; have h2 := H.out.2.1.kept.size; have h3 := H.out.2.2.2.lt; rcases e with e | e <;> omega)).cell 0⟩
  clear HBX
  generalize w.alloc (.cells #[.pointer (some ⟨T, 0, none⟩)] 80) = W at HM HA ⊢
  generalize w.heap.size = gb at HM HA ⊢
  go_region_held3 (fun w' => w'.cell? ⟨gb, 0, none⟩ = some (.pointer (some ⟨T, 0, none⟩))) (first | exact HM.out _ (Kept.refl _ W).drew | exact HM.out _ (Kept.refl _ W) | exact HM.out _ ((Kept.refl _ W).alloc _).drew | exact HM.out _ ((Kept.refl _ W).alloc _) | exact HA.out.2.2.2 _ (((Kept.refl _ W).alloc _).drew.trans' H3.out.2.2)) (first | (go_at_call 66; go_must (refine (New_u16 _ _).mono ?_; rintro e w1 ⟨⟨a1, b1, rfl⟩, rfl⟩)) | (go_at_call 74; go_must (refine (New_snd _ _).mono ?_; rintro e w1 ⟨⟨a1, b1, rfl⟩, rfl⟩)) | (go_at_call 75; go_must (refine (New_rcv _ _).mono ?_; rintro e w1 ⟨⟨a1, b1, rfl⟩, rfl⟩)) | (go_at_call 76; go_must (refine (New_src _ _).mono ?_; rintro e w1 ⟨⟨a1, b1, rfl⟩, rfl⟩)) | (go_at_call 77; go_must (refine (New_tgt _ _).mono ?_; rintro e w1 ⟨⟨a1, b1, rfl⟩, rfl⟩)) | (go_at_call 85; go_must (refine (New_err _ _).mono ?_; rintro e w1 ⟨⟨a1, b1, rfl⟩, rfl⟩)) | (go_at_call 62; go_must (refine (H.out.1.run _ T n [(_, _), (_, _), (_, _), (_, _), (_, _), (_, _), (_, _), (_, _)] _ _ _ _ _ (HA.out.1.nope ((Kept.refl Nope _).alloc _).drew) H.out.2.2.1 (HA.out.2.1.keep ((Kept.refl Nope _).alloc _).drew (fun h => h)) HA.out.1.kept.size (Nat.ne_of_gt HA.out.2.1.lt) (Blk.new _ _ _).drew rfl rfl rfl (by simp) (by simp) ⟨⟨⟨_, _, rfl⟩, .inl rfl⟩, ⟨⟨_, _, rfl⟩, .inr ⟨_, _, _, rfl⟩⟩, ⟨⟨_, _, rfl⟩, .inr ⟨_, _, _, rfl⟩⟩, ⟨⟨_, _, rfl⟩, .inr ⟨_, _, _, rfl⟩⟩, ⟨⟨_, _, rfl⟩, .inr ⟨_, _, _, rfl⟩⟩, ⟨⟨_, _, rfl⟩, .inl rfl⟩, ⟨⟨_, _, rfl⟩, .inl rfl⟩, ⟨⟨_, _, rfl⟩, .inl rfl⟩, trivial⟩ ⟨fv_null rfl rfl, fv_uint (by have := HN.out; omega) rfl rfl, fv_uint (by have := HN.out; omega) rfl rfl, fv_uint (by have := HN.out; omega) rfl rfl, fv_uint (by have := HN.out; omega) rfl rfl, fv_null rfl rfl, fv_null rfl rfl, fv_null rfl rfl, trivial⟩).mono ?_; rintro e w3 ⟨_, rfl, rfl, hj, ht, hk⟩; have H3 := Lib.hid (And.intro hj (And.intro ht hk)); clear hj ht hk)))
  all_goals
    try go_wp2
    go_ret
    exact ⟨_, rfl, rfl, H3.out.1, H3.out.2.1, HA.out.2.2.1.trans' (((Kept.refl (Or2 r T) _).alloc _).drew.trans' H3.out.2.2)⟩
end
end Go.Proofs.YtbckofjoancdjaaGreatDoor
namespace Go.Proofs.YtbckofjoancdjaaGreatDoor
open Go Go.RowKit Go.Lib
set_option maxRecDepth 100000 in
set_option maxHeartbeats 4000000 in
theorem pb_Open (w : World) (r : Nat) (s : Value) (D : List UInt8) (v : V) (h : Task w r s D 0 0 16 v kOpen) :
    Calls Tryz.prog 20 #[.pointer (some ⟨r, 0, none⟩)] w (Gives2 fun x e w' => e = .nilIface ∧ (∃ p, x = .iface 79 (.pointer p)) ∧ Kept (Only r) w w') := by
  obtain ⟨c, q, _, hl⟩ := h.lies
  have l0 : D[0]? = some 0 := hl 0 _ rfl
  have l1 : D[1]? = some 83 := hl 1 _ rfl
  have l2 : D[2]? = some 16 := hl 2 _ rfl
  have hl2 := (List.getElem?_eq_some_iff.1 l2).1
  have b0 : (0 : Int) < (D.length : Int) := by omega
  have b1 : (1 : Int) < (D.length : Int) := by omega
  have b2 : (2 : Int) < (D.length : Int) := by omega
  have b3 : ¬ (D.length : Int) < 3 := by omega
  have H := Lib.hid h
  have HL := Lib.hid (And.intro l0 (And.intro l1 l2))
  clear h hl l0 l1 l2 hl2
  go_enter Tryz.func20, Tryz.ntmps20
  go_wp2_with (first | (go_at_call 44; go_must (refine (Bytes_any r s D 0 _ H.out.buf).mono ?_; rintro e w1 ⟨v1, rfl, hB, k1, rfl⟩; rw [List.drop_zero] at hB; have H1 := Lib.hid (H.out.buf.drewN k1); have hba : ∃ g off cap, v1 = .slice (some ⟨g, off, none⟩) D.length cap ∧ D.length ≤ cap ∧ cap ≤ maxLen ∧ (w.drewN k1).cell? ⟨g, off, none⟩ = some (.int .u8 0) ∧ (w.drewN k1).cell? ⟨g, off + 1, none⟩ = some (.int .u8 83) ∧ (w.drewN k1).cell? ⟨g, off + 2, none⟩ = some (.int .u8 16) := (by obtain ⟨a, cap, e, hc, hm, hb⟩ := hB; rcases hb with hb | ⟨g, off, ea, _, hb⟩; (have := HL.out.1; rw [hb] at this; cases this); subst ea; exact ⟨g, off, cap, e, hc, hm, hb 0 _ HL.out.1, hb 1 _ HL.out.2.1, hb 2 _ HL.out.2.2⟩); obtain ⟨g, off, cap, rfl, hcc, hcm, q0, q1, q2⟩ := hba; clear hB)) | (go_at_call 45; go_must (refine (Len_any r s D 0 _ H1.out).mono ?_; rintro e w2 ⟨rfl, k2, rfl⟩; have H2 := Lib.hid (H.out.buf.drewN (k1 + k2)); have p0 : (w.drewN (k1 + k2)).cell? ⟨g, off, none⟩ = some (.int .u8 0) := q0; have p1 : (w.drewN (k1 + k2)).cell? ⟨g, off + 1, none⟩ = some (.int .u8 83) := q1; have p2 : (w.drewN (k1 + k2)).cell? ⟨g, off + 2, none⟩ = some (.int .u8 16) := q2; clear q0 q1 q2)) | (go_at_call 47; go_must (refine (un_Open _ _ r s D 0 0 v _ _ H.out ((At_.mk H2.out ((Kept.refl _ _).drewN _)).nope ((Kept.refl _ _).alloc _)) (Nat.le_refl _) ⟨_, _, Blk.new _ _ _, rfl⟩ (by decide)).mono ?_; rintro e w4 ⟨_, rfl, rfl, hj, ht, hk⟩; have H4 := Lib.hid hj; clear hj ht hk)))
  go_ret2
  exact ⟨_, _, rfl, rfl, ⟨_, rfl⟩, H4.out.choose_spec.kept⟩
set_option maxRecDepth 100000 in
set_option maxHeartbeats 4000000 in
theorem pb_Begin (w : World) (r : Nat) (s : Value) (D : List UInt8) (v : V) (h : Task w r s D 0 0 17 v kBegin) :
    Calls Tryz.prog 20 #[.pointer (some ⟨r, 0, none⟩)] w (Gives2 fun x e w' => e = .nilIface ∧ (∃ p, x = .iface 80 (.pointer p)) ∧ Kept (Only r) w w') := by
  obtain ⟨c, q, _, hl⟩ := h.lies
  have l0 : D[0]? = some 0 := hl 0 _ rfl
  have l1 : D[1]? = some 83 := hl 1 _ rfl
  have l2 : D[2]? = some 17 := hl 2 _ rfl
  have hl2 := (List.getElem?_eq_some_iff.1 l2).1
  have b0 : (0 : Int) < (D.length : Int) := by omega
  have b1 : (1 : Int) < (D.length : Int) := by omega
  have b2 : (2 : Int) < (D.length : Int) := by omega
  have b3 : ¬ (D.length : Int) < 3 := by omega
  have H := Lib.hid h
  have HL := Lib.hid (And.intro l0 (And.intro l1 l2))
  clear h hl l0 l1 l2 hl2
  go_enter Tryz.func20, Tryz.ntmps20
  go_wp2_with (first | (go_at_call 44; go_must (refine (Bytes_any r s D 0 _ H.out.buf).mono ?_; rintro e w1 ⟨v1, rfl, hB, k1, rfl⟩; rw [List.drop_zero] at hB; have H1 := Lib.hid (H.out.buf.drewN k1); have hba : ∃ g off cap, v1 = .slice (some ⟨g, off, none⟩) D.length cap ∧ D.length ≤ cap ∧ cap ≤ maxLen ∧ (w.drewN k1).cell? ⟨g, off, none⟩ = some (.int .u8 0) ∧ (w.drewN k1).cell? ⟨g, off + 1, none⟩ = some (.int .u8 83) ∧ (w.drewN k1).cell? ⟨g, off + 2, none⟩ = some (.int .u8 17) := (by obtain ⟨a, cap, e, hc, hm, hb⟩ := hB; rcases hb with hb | ⟨g, off, ea, _, hb⟩; (have := HL.out.1; rw [hb] at this; cases this); subst ea; exact ⟨g, off, cap, e, hc, hm, hb 0 _ HL.out.1, hb 1 _ HL.out.2.1, hb 2 _ HL.out.2.2⟩); obtain ⟨g, off, cap, rfl, hcc, hcm, q0, q1, q2⟩ := hba; clear hB)) | (go_at_call 45; go_must (refine (Len_any r s D 0 _ H1.out).mono ?_; rintro e w2 ⟨rfl, k2, rfl⟩; have H2 := Lib.hid (H.out.buf.drewN (k1 + k2)); have p0 : (w.drewN (k1 + k2)).cell? ⟨g, off, none⟩ = some (.int .u8 0) := q0; have p1 : (w.drewN (k1 + k2)).cell? ⟨g, off + 1, none⟩ = some (.int .u8 83) := q1; have p2 : (w.drewN (k1 + k2)).cell? ⟨g, off + 2, none⟩ = some (.int .u8 17) := q2; clear q0 q1 q2)) | (go_at_call 48; go_must (refine (un_Begin _ _ r s D 0 0 v _ _ H.out ((At_.mk H2.out ((Kept.refl _ _).drewN _)).nope ((Kept.refl _ _).alloc _)) (Nat.le_refl _) ⟨_, _, Blk.new _ _ _, rfl⟩ (by decide)).mono ?_; rintro e w4 ⟨_, rfl, rfl, hj, ht, hk⟩; have H4 := Lib.hid hj; clear hj ht hk)))
  go_ret2
  exact ⟨_, _, rfl, rfl, ⟨_, rfl⟩, H4.out.choose_spec.kept⟩
set_option maxRecDepth 100000 in
set_option maxHeartbeats 4000000 in
theorem pb_End (w : World) (r : Nat) (s : Value) (D : List UInt8) (v : V) (h : Task w r s D 0 0 23 v [nulV]) :
    Calls Tryz.prog 20 #[.pointer (some ⟨r, 0, none⟩)] w (Gives2 fun x e w' => e = .nilIface ∧ (∃ p, x = .iface 86 (.pointer p)) ∧ Kept (Only r) w w') := by
  obtain ⟨c, q, _, hl⟩ := h.lies
  have l0 : D[0]? = some 0 := hl 0 _ rfl
  have l1 : D[1]? = some 83 := hl 1 _ rfl
  have l2 : D[2]? = some 23 := hl 2 _ rfl
  have hl2 := (List.getElem?_eq_some_iff.1 l2).1
  have b0 : (0 : Int) < (D.length : Int) := by omega
  have b1 : (1 : Int) < (D.length : Int) := by omega
  have b2 : (2 : Int) < (D.length : Int) := by omega
  have b3 : ¬ (D.length : Int) < 3 := by omega
  have H := Lib.hid h
  have HL := Lib.hid (And.intro l0 (And.intro l1 l2))
  clear h hl l0 l1 l2 hl2
  go_enter Tryz.func20, Tryz.ntmps20
  go_wp2_with (first | (go_at_call 44; go_must (refine (Bytes_any r s D 0 _ H.out.buf).mono ?_; rintro e w1 ⟨v1, rfl, hB, k1, rfl⟩; rw [List.drop_zero] at hB; have H1 := Lib.hid (H.out.buf.drewN k1); have hba : ∃ g off cap, v1 = .slice (some ⟨g, off, none⟩) D.length cap ∧ D.length ≤ cap ∧ cap ≤ maxLen ∧ (w.drewN k1).cell? ⟨g, off, none⟩ = some (.int .u8 0) ∧ (w.drewN k1).cell? ⟨g, off + 1, none⟩ = some (.int .u8 83) ∧ (w.drewN k1).cell? ⟨g, off + 2, none⟩ = some (.int .u8 23) := (by obtain ⟨a, cap, e, hc, hm, hb⟩ := hB; rcases hb with hb | ⟨g, off, ea, _, hb⟩; (have := HL.out.1; rw [hb] at this; cases this); subst ea; exact ⟨g, off, cap, e, hc, hm, hb 0 _ HL.out.1, hb 1 _ HL.out.2.1, hb 2 _ HL.out.2.2⟩); obtain ⟨g, off, cap, rfl, hcc, hcm, q0, q1, q2⟩ := hba; clear hB)) | (go_at_call 45; go_must (refine (Len_any r s D 0 _ H1.out).mono ?_; rintro e w2 ⟨rfl, k2, rfl⟩; have H2 := Lib.hid (H.out.buf.drewN (k1 + k2)); have p0 : (w.drewN (k1 + k2)).cell? ⟨g, off, none⟩ = some (.int .u8 0) := q0; have p1 : (w.drewN (k1 + k2)).cell? ⟨g, off + 1, none⟩ = some (.int .u8 83) := q1; have p2 : (w.drewN (k1 + k2)).cell? ⟨g, off + 2, none⟩ = some (.int .u8 23) := q2; clear q0 q1 q2)) | (go_at_call 54; go_must (refine (un_End _ _ r s D 0 0 v _ _ H.out ((At_.mk H2.out ((Kept.refl _ _).drewN _)).nope ((Kept.refl _ _).alloc _)) (Nat.le_refl _) ⟨_, _, Blk.new _ _ _, rfl⟩).mono ?_; rintro e w4 ⟨_, rfl, rfl, hj, ht, hk⟩; have H4 := Lib.hid hj; clear hj ht hk)))
  go_ret2
  exact ⟨_, _, rfl, rfl, ⟨_, rfl⟩, H4.out.choose_spec.kept⟩
end Go.Proofs.YtbckofjoancdjaaGreatDoor
