/- Package spec: takeCoded: text. -/
import Derived.Deep.DeepCutAuto
import Derived.Test.YtapfahngeaojkaaGreatDoorK25
namespace Go.Proofs.YtapfahngeaojkaaGreatDoor
open Go Go.RowKit Go.Lib
set_option maxRecDepth 100000 in
set_option maxHeartbeats 6400000 in
theorem tc_text (S : Nat → Prop) (w : World) (s : Value) (D E : List UInt8) (b L : Int) (sz U : Nat) (hs : BSl S w s D) (hb : 217 ≤ b ∧ b ≤ 219) (hl : look tcT b = sz) (hk : sz ≤ D.length) (hk8 : sz ≤ 8) (hE : D.drop sz = E) (hU : Lib.beNat (D.take sz) = U) (hu : U ≤ E.length) (hD : E.length ≤ 1099511627776) :
    Calls Tryz.prog 19 #[.int .i64 b, s, .int .i64 L] w (TakeP S (fun x _ => x = .agg #[.int .i64 6, .int .u64 0, .string ⟨(E.take U).toArray⟩, .int .i64 0, .slice none 0 0]) (E.drop U) w) := by
  have b192 : (b == 192) = false := by simp; omega
  have b193 : (b == 193) = false := by simp; omega
  have b194 : (b == 194) = false := by simp; omega
  have b195 : (b == 195) = false := by simp; omega
  have b202 : (b == 202) = false := by simp; omega
  have b203 : (b == 203) = false := by simp; omega
  have l198 : ¬ b ≤ 198 := by omega
  have l201 : ¬ b ≤ 201 := by omega
  have l207 : ¬ b ≤ 207 := by omega
  have l211 : ¬ b ≤ 211 := by omega
  have l216 : ¬ b ≤ 216 := by omega
  have l219 : b ≤ 219 := by omega
  have l221 : b ≤ 221 := by omega
  have hs2 : BSl (fun i => S i ∧ i < w.heap.size) w s D := hs.mono fun i h1 h2 => ⟨h2, h1⟩
  have HT := Lib.hid (And.intro hs2 (And.intro hk hk8))
  have HLK := Lib.hid hl
  have HE := Lib.hid (And.intro hE hU)
  have HU := Lib.hid (And.intro hu hD)
  clear hs hs2 hk hk8 hl hb hE hU hu hD
  have hmk := fun W => run_makeMap (P := Tryz.prog) 97 W
  go_enter Tryz.func19, Tryz.ntmps19
  go_upto_region 2 with fail
  obtain ⟨P, hP⟩ : ∃ P, w.heap.size = P := ⟨_, rfl⟩
  obtain ⟨W2, hW2⟩ : ∃ W2, (w.alloc (.cells #[.int .i64 0, .int .u64 0, .string ⟨#[]⟩, .int .i64 0, .slice none 0 0] 26)).alloc (.cells #[.int .i64 0, .int .u64 0, .string ⟨#[]⟩, .int .i64 0, .slice none 0 0] 26) = W2 := ⟨_, rfl⟩
  have h2 := Blk.two w #[.int .i64 0, .int .u64 0, .string ⟨#[]⟩, .int .i64 0, .slice none 0 0] #[.int .i64 0, .int .u64 0, .string ⟨#[]⟩, .int .i64 0, .slice none 0 0] 26
  rw [hW2, hP] at h2 ⊢
  have H2 := Lib.hid (And.intro h2 hP)
  have HM := Lib.hid (show MapAt (W2.alloc (.map #[] 0)) W2.heap.size (([] : List (Int × Int)).map ip) from MapAt.new W2)
  have HK := Lib.hid (Kept.refl (Only W2.heap.size) (W2.alloc (.map #[] 0)))
  clear h2 hW2 hP
  go_wp2_with (first
    | (refine wpList_insert_int rfl (.tmp 17) _ _ rfl rfl rfl rfl HM.out (by decide) ?_; intro w2 hm2 hk2; replace HM := Lib.hid hm2; replace HK := Lib.hid (HK.out.trans' hk2); clear hm2 hk2)
    | (refine wpList_lookup_int rfl (.tmp 18) (.tmp 19) rfl rfl rfl (t := tcT) HM.out ?_; rw [HLK.out])
    | (go_at_call 47; go_must (refine (takeBig_ok _ _ s D sz (HT.out.1.keep (H2.out.1.2.2.trans' (((Kept.refl Nope W2).alloc _).nope.trans' HK.out |>.ofNew fun i e => Nat.le_of_eq (Eq.symm e))) (fun _ _ _ h => h)) HT.out.2.1 HT.out.2.2).mono ?_; rintro e w3 ⟨_, y, rfl, rfl, hy, hk3⟩; rw [HE.out.1] at hy; rw [HE.out.2]; have hf3 := hy; obtain ⟨ya, yc, rfl, _⟩ := hf3; have hkk : Kept Nope W2 w3 := (((Kept.refl Nope W2).alloc _).nope.trans' HK.out |>.ofNew fun i e => Nat.le_of_eq (Eq.symm e)).trans' hk3; have hb3 := H2.out.1.1.kept hkk (fun h => h); have hn3 := H2.out.1.2.1.kept hkk (fun h => h); have H3 := Lib.hid (And.intro hy (And.intro hkk hb3)); have q0 := hb3.cell 0; have q1 := hb3.cell 1; have q2 := hb3.cell 2; have q3 := hb3.cell 3; have q4 := hb3.cell 4; have qf := fun t => hb3.frozen t; have m0 := hn3.cell 0; have m1 := hn3.cell 1; have m2 := hn3.cell 2; have m3 := hn3.cell 3; have m4 := hn3.cell 4; simp only [List.getElem?_toArray, List.getElem?_cons_zero, List.getElem?_cons_succ] at q0 q1 q2 q3 q4 m0 m1 m2 m3 m4; clear hy hk3 hkk hb3 hn3))
    | (go_at_call 18; go_must (refine (takeText_ok _ 6 _ _ E U H3.out.1 HU.out.1 HU.out.2).mono ?_; rintro e w4 ⟨_, y4, rfl, rfl, hy4, hk4⟩; clear q0 q1 q2 q3 q4 qf m0 m1 m2 m3 m4; have hb4 := H3.out.2.2.kept hk4 (fun h => h); have H4 := Lib.hid (And.intro hy4 (And.intro (H3.out.2.1.trans' hk4) hb4)); have q0 := hb4.cell 0; have q1 := hb4.cell 1; have q2 := hb4.cell 2; have q3 := hb4.cell 3; have q4 := hb4.cell 4; have qf := fun t => hb4.frozen t; simp only [List.getElem?_toArray, List.getElem?_cons_zero, List.getElem?_cons_succ] at q0 q1 q2 q3 q4; clear hy4 hk4 hb4))
    )
  have h5 := pack5 H4.out.2.2 (.int .i64 6) (.int .u64 0) (.string ⟨(E.take U).toArray⟩) (.int .i64 0) (.slice none 0 0)
  have hkw := ((H2.out.1.2.2.trans' H4.out.2.1).nope.trans' h5.2).ofNew fun i e => (by have e' : i = P := e; have := H2.out.2; omega)
  exact bodyPost_ret (ret3p Tryz.results19 _ _ P _ rfl h5.1 rfl) rfl ⟨_, _, rfl, rfl, (H4.out.1.keep h5.2 (fun i _ h e => by have e' : i = P := e; have := H2.out.2; omega)).mono fun i _ h => h.1, hkw⟩
end Go.Proofs.YtapfahngeaojkaaGreatDoor
