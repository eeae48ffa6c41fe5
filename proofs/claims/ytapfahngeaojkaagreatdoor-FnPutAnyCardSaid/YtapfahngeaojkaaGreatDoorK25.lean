/- Package spec: takeCoded: nil. -/
import Derived.Deep.DeepCutAuto
import Derived.Test.YtapfahngeaojkaaGreatDoorK24
import Derived.Test.YtapfahngeaojkaaGreatDoorK14
namespace Go.Proofs.YtapfahngeaojkaaGreatDoor
open Go Go.RowKit Go.Lib
def tcT : List (Int × Int) := [(196, 1), (197, 2), (198, 4), (199, 1), (200, 2), (201, 4), (202, 4), (203, 8), (204, 1), (205, 2), (206, 4), (207, 8), (208, 1), (209, 2), (210, 4), (211, 8), (217, 1), (218, 2), (219, 4), (220, 2), (221, 4), (222, 2), (223, 4)]
set_option maxRecDepth 100000 in
set_option maxHeartbeats 6400000 in
theorem tc_nil (S : Nat → Prop) (w : World) (s : Value) (D E : List UInt8) (b L : Int) (sz U : Nat) (hs : BSl S w s D) (hb : 192 ≤ b ∧ b ≤ 192) (hl : look tcT b = sz) (hk : sz ≤ D.length) (hk8 : sz ≤ 8) (hE : D.drop sz = E) (hU : Lib.beNat (D.take sz) = U) :
    Calls Tryz.prog 19 #[.int .i64 b, s, .int .i64 L] w (TakeP S (fun x _ => x = .agg #[.int .i64 0, .int .u64 0, .string ⟨#[]⟩, .int .i64 0, .slice none 0 0]) (E) w) := by
  obtain rfl : b = 192 := by omega
  have hs2 : BSl (fun i => S i ∧ i < w.heap.size) w s D := hs.mono fun i h1 h2 => ⟨h2, h1⟩
  have HT := Lib.hid (And.intro hs2 (And.intro hk hk8))
  have HLK := Lib.hid hl
  have HE := Lib.hid (And.intro hE hU)
  clear hs hs2 hk hk8 hl hb hE hU
  have hmk := fun W => run_makeMap (P := Tryz.prog) 97 W
  go_enter Tryz.func19, Tryz.ntmps19
  go_upto_region 2 with fail
  obtain ⟨P, hP⟩ : ∃ P, w.heap.size = P := ⟨_, rfl⟩
  obtain ⟨W2, hW2⟩ : ∃ W2, (w.alloc (.cells #[.int .i64 0, .int .u64 0, .string ⟨#[]⟩, .int .i64 0, .slice none 0 0] 26)).alloc (.cells #[.int .i64 0, .int .u64 0, .string ⟨#[]⟩, .int .i64 0, .slice none 0 0] 26) = W2 := ⟨_, rfl⟩
  have h2 := Blk.two w #[.int .i64 0, .int .u64 0, .string ⟨#[]⟩, .int .i64 0, .slice none 0 0] #[.int .i64 0, .int .u64 0, .string ⟨#[]⟩, .int .i64 0, .slice none 0 0] 26
  rw [hW2, hP] at h2 ⊢
  have H2 := Lib.hid (And.intro h2 hP)
  have HM := Lib.hid (show MapAt (W2.alloc (.map #[] 0)) W2.heap.size (([] : List (Int × Int)).map ip) from MapAt.new W2)
  have HK := Lib.hid (Kept.refl (Only W2.heap.size) (W2.alloc (.map #[] 0)))
  clear h2 hW2 hP
  go_wp2_with (first
    | (refine wpList_insert_int rfl (.tmp 17) _ _ rfl rfl rfl rfl HM.out (by decide) ?_; intro w2 hm2 hk2; replace HM := Lib.hid hm2; replace HK := Lib.hid (HK.out.trans' hk2); clear hm2 hk2)
    | (refine wpList_lookup_int rfl (.tmp 18) (.tmp 19) rfl rfl rfl (t := tcT) HM.out ?_; rw [HLK.out])
    | (go_at_call 47; go_must (refine (takeBig_ok _ _ s D sz (HT.out.1.keep (H2.out.1.2.2.trans' (((Kept.refl Nope W2).alloc _).nope.trans' HK.out |>.ofNew fun i e => Nat.le_of_eq (Eq.symm e))) (fun _ _ _ h => h)) HT.out.2.1 HT.out.2.2).mono ?_; rintro e w3 ⟨_, y, rfl, rfl, hy, hk3⟩; rw [HE.out.1] at hy; rw [HE.out.2]; have hf3 := hy; obtain ⟨ya, yc, rfl, _⟩ := hf3; have hkk : Kept Nope W2 w3 := (((Kept.refl Nope W2).alloc _).nope.trans' HK.out |>.ofNew fun i e => Nat.le_of_eq (Eq.symm e)).trans' hk3; have hb3 := H2.out.1.1.kept hkk (fun h => h); have hn3 := H2.out.1.2.1.kept hkk (fun h => h); have H3 := Lib.hid (And.intro hy (And.intro hkk hb3)); have q0 := hb3.cell 0; have q1 := hb3.cell 1; have q2 := hb3.cell 2; have q3 := hb3.cell 3; have q4 := hb3.cell 4; have qf := fun t => hb3.frozen t; have m0 := hn3.cell 0; have m1 := hn3.cell 1; have m2 := hn3.cell 2; have m3 := hn3.cell 3; have m4 := hn3.cell 4; simp only [List.getElem?_toArray, List.getElem?_cons_zero, List.getElem?_cons_succ] at q0 q1 q2 q3 q4 m0 m1 m2 m3 m4; clear hy hk3 hkk hb3 hn3))
    )
  have h5 := pack5 H3.out.2.2 (.int .i64 0) (.int .u64 0) (.string ⟨#[]⟩) (.int .i64 0) (.slice none 0 0)
  have hkw := ((H2.out.1.2.2.trans' H3.out.2.1).nope.trans' h5.2).ofNew fun i e => (by have e' : i = P := e; have := H2.out.2; omega)
  exact bodyPost_ret (ret3p Tryz.results19 _ _ P _ rfl h5.1 rfl) rfl ⟨_, _, rfl, rfl, (H3.out.1.keep h5.2 (fun i _ h e => by have e' : i = P := e; have := H2.out.2; omega)).mono fun i _ h => h.1, hkw⟩
end Go.Proofs.YtapfahngeaojkaaGreatDoor
