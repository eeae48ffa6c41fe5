/- The performatives' own Unmarshals. -/
import Derived.Test.YtbckofjoancdjaaGreatDoorK28
namespace Go.Proofs.YtbckofjoancdjaaGreatDoor
open Go Go.RowKit Go.Lib
abbrev kAttach : List V := [txtV 19, numV 4 1, numV 1 0, nulV, nulV, nulV, nulV, nulV, nulV, nulV, nulV, nulV, nulV, nulV]
section
variable (w0 w : World) (r : Nat) (s : Value) (D : List UInt8) (i0 i : Nat) (v : V) (T n : Nat)
set_option maxRecDepth 100000 in
set_option maxHeartbeats 4000000 in
theorem un_Attach (h : Task w0 r s D i0 i 18 v kAttach) (hA : At_ w0 w r s D i) (hT0 : w0.heap.size ≤ T) (hT : TAt T n w) (hn : 14 ≤ n) :
    Calls Tryz.prog 49 #[.pointer (some ⟨T, 0, none⟩), .pointer (some ⟨r, 0, none⟩)] w (PfPost w0 r s D T n w) := by
  have H := Lib.hid (And.intro h (And.intro hA (And.intro hT0 hT)))
  have HN := Lib.hid hn
  clear h hA hT0 hT hn
  go_enter Tryz.func49, Tryz.ntmps49
  go_wp2
  simp only [List.append]
  go_region_held3 (fun _ => True) (first | exact trivial) (first | (go_at_call 66; go_must (refine (New_u16 _ _).mono ?_; rintro e w1 ⟨⟨a1, b1, rfl⟩, rfl⟩)) | (go_at_call 74; go_must (refine (New_snd _ _).mono ?_; rintro e w1 ⟨⟨a1, b1, rfl⟩, rfl⟩)) | (go_at_call 75; go_must (refine (New_rcv _ _).mono ?_; rintro e w1 ⟨⟨a1, b1, rfl⟩, rfl⟩)) | (go_at_call 76; go_must (refine (New_src _ _).mono ?_; rintro e w1 ⟨⟨a1, b1, rfl⟩, rfl⟩)) | (go_at_call 77; go_must (refine (New_tgt _ _).mono ?_; rintro e w1 ⟨⟨a1, b1, rfl⟩, rfl⟩)) | (go_at_call 85; go_must (refine (New_err _ _).mono ?_; rintro e w1 ⟨⟨a1, b1, rfl⟩, rfl⟩)) | (go_at_call 62; go_must (refine (H.out.1.run _ T n [(_, _), (_, _), (_, _), (_, _), (_, _), (_, _), (_, _), (_, _), (_, _), (_, _), (_, _), (_, _), (_, _), (_, _)] _ _ _ _ _ (H.out.2.1.nope ((Kept.refl Nope _).alloc _).drew) H.out.2.2.1 (H.out.2.2.2.keep ((Kept.refl Nope _).alloc _).drew (fun h => h)) (Nat.le_trans H.out.2.1.kept.size (Kept.refl Nope w).size) (Nat.ne_of_gt (Nat.lt_of_lt_of_le H.out.2.2.2.lt (Kept.refl Nope w).size)) (Blk.new _ _ _).drew rfl rfl rfl (by simp) (by simp) ⟨⟨⟨_, _, rfl⟩, .inr ⟨_, _, _, rfl⟩⟩, ⟨⟨_, _, rfl⟩, .inr ⟨_, _, _, rfl⟩⟩, ⟨⟨_, _, rfl⟩, .inr ⟨_, _, _, rfl⟩⟩, ⟨⟨_, _, rfl⟩, .inl rfl⟩, ⟨⟨_, _, rfl⟩, .inl rfl⟩, ⟨⟨_, _, rfl⟩, .inl rfl⟩, ⟨⟨_, _, rfl⟩, .inl rfl⟩, ⟨⟨_, _, rfl⟩, .inl rfl⟩, ⟨⟨_, _, rfl⟩, .inl rfl⟩, ⟨⟨_, _, rfl⟩, .inl rfl⟩, ⟨⟨_, _, rfl⟩, .inl rfl⟩, ⟨⟨_, _, rfl⟩, .inl rfl⟩, ⟨⟨_, _, rfl⟩, .inl rfl⟩, ⟨⟨_, _, rfl⟩, .inl rfl⟩, trivial⟩ ⟨fv_str (by have := HN.out; omega) rfl rfl rfl, fv_uint (by have := HN.out; omega) rfl rfl, fv_role (by have := HN.out; omega) rfl rfl rfl, fv_null rfl rfl, fv_null rfl rfl, fv_null rfl rfl, fv_null rfl rfl, fv_null rfl rfl, fv_null rfl rfl, fv_null rfl rfl, fv_null rfl rfl, fv_null rfl rfl, fv_null rfl rfl, fv_null rfl rfl, trivial⟩).mono ?_; rintro e w3 ⟨_, rfl, rfl, hj, ht, hk⟩; have H3 := Lib.hid (And.intro hj (And.intro ht hk)); clear hj ht hk)))
  all_goals
    try go_wp2
    go_ret
    exact ⟨_, rfl, rfl, H3.out.1, H3.out.2.1, ((Kept.refl (Or2 r T) _).alloc _).drew.trans' H3.out.2.2⟩
end
end Go.Proofs.YtbckofjoancdjaaGreatDoor
