/- Package msgp: AppendString: a head, and the bytes behind it. Package msgp: AppendBytes: a head, and the bytes behind it. -/
import Derived.Test.YtapfahngeaojkaaGreatDoorK12
import Derived.Test.YtapfahngeaojkaaGreatDoorK5
namespace Go.Proofs.YtapfahngeaojkaaGreatDoor
open Go Go.RowKit Go.Lib
theorem ensure_x (M : Nat → Prop) (w : World) (v : Value) (bs : List UInt8) (sz : Nat) (x : Int) (hx : x = (sz : Int)) (hv : BRow M w v bs) (hsz : 1 ≤ sz) (hs2 : sz ≤ 549755813888) (hl : bs.length ≤ 549755813888) (hb : ∀ k, w.heap.size ≤ k → M k) :
    Calls Tryz.prog 49 #[v, .int .i64 x] w (EnsN M bs sz w) := by subst hx; exact ensure_n M w v bs sz hv hsz hs2 hl hb
def Headed (g n : Nat) (cur cur2 : Array Value) (hd : List UInt8) (w1 w2 : World) : Prop := Kept (Only g) w1 w2 ∧ Blk w2 g 5 cur2 ∧ cur2.size = cur.size ∧ cur2.toList.take (n + hd.length) = cur.toList.take n ++ hd.map u8
theorem app_done2 {M : Nat → Prop} {n g cap sz off : Nat} {cur cur2 : Array Value} {bs hd ds : List UInt8} {w w1 w2 w3 : World} (H1 : Hid (bs.length = n ∧ Wide M w1 g cap (n + sz) cur bs ∧ Kept M w w1)) (H2 : Hid (Headed g n cur cur2 hd w1 w2))
    (H3 : Hid (Copied g cur2 off ds w2 w3)) (ho : off = n + hd.length) (hsz : hd.length + ds.length = sz) (m : Nat) (hm : m = n + sz) : AppP M bs (hd ++ ds) w (.returned (.slice (some ⟨g, 0, none⟩) m cap)) w3 := by
  obtain ⟨hn, hw, hk⟩ := H1.out
  obtain ⟨hk2, hb2, hs2, ht2⟩ := H2.out
  obtain ⟨hk3, cur3, hb3, hs3, ht3⟩ := H3.out
  subst hn ho hm
  have hw2 := hw.put hb2 hs2 ht2 (by omega)
  have hl2 : (bs ++ hd).length = bs.length + hd.length := List.length_append
  have hw3 := (hw2.put (ds := ds) hb3 hs3 (by rw [hl2]; exact ht3) (by omega)).row
  have hl3 : (bs ++ hd ++ ds).length = bs.length + sz := by rw [List.length_append, hl2]; omega
  rw [hl3, List.append_assoc] at hw3
  have hge : ∀ b, Only g b → M b := fun b e => by have e' : b = g := e; subst e'; exact hw.ge
  exact ⟨_, rfl, hw3, (hk.trans hk2 fun b _ e => hge b e).trans hk3 fun b _ e => hge b e⟩
set_option maxRecDepth 100000 in
set_option maxHeartbeats 3200000 in
theorem AppendString_0 (M : Nat → Prop) (w : World) (v : Value) (bs : List UInt8) (t : ByteArray) (h1 : t.size < 32) (hv : BRow M w v bs) (hl : bs.length ≤ 549755813888) (hb : ∀ k, w.heap.size ≤ k → M k) :
    Calls Tryz.prog 31 #[v, .string t] w (AppP M bs ([UInt8.ofNat (0xa0 + t.size)] ++ (bytesOf t)) w) := by
  have HV := Lib.hid (And.intro hv (And.intro hl hb))
  clear hv hl hb
  generalize hx0 : UInt8.ofNat (0xa0 + t.size) = x0
  have HX0 := Lib.hid hx0
  clear hx0
  have t0 : (t.size : Int) ≤ 31 := by omega
  have z0 : (0 : Int) ≤ (t.size : Int) := by omega
  have e0 : IntKind.i64.wrap (1 + (t.size : Int)) = 1 + (t.size : Int) := IntWalk.i64_in _ (by omega)
  go_enter Tryz.func31, Tryz.ntmps31
  go_wp2_with (first | (go_at_call 49; go_must (refine (ensure_x M _ _ bs (1 + t.size) _ (by omega) HV.out.1 (by omega) (by omega) HV.out.2.1 HV.out.2.2).mono ?_; rintro e w1 ⟨n1, g, cap, cur, rfl, hcn, hn1, H1⟩; have hf := H1.out.2.1.room; have f1 : n1 < n1 + (1 + t.size) := (by omega); have f2 : n1 + 1 ≤ n1 + (1 + t.size) := (by omega); have f3 : n1 + 1 + t.size ≤ cap := (by omega); have f4 : (n1 : Int) + 1 + (t.size : Int) ≤ (cap : Int) := (by omega); have f5 : (n1 : Int) + 1 ≤ (n1 : Int) + (1 + (t.size : Int)) := (by omega); have e1 : IntKind.i64.wrap ((n1 : Int) + 1) = (n1 : Int) + 1 := IntWalk.i64_in _ (by omega); have e2 : IntKind.i64.wrap ((n1 : Int) + 1 + (t.size : Int)) = (n1 : Int) + 1 + (t.size : Int) := IntWalk.i64_in _ (by omega); rcases Classical.em (cap = n1 + 1) with rfl | hce)) | (go_at_call 57; go_must (refine (wfixstr_ok _ t.size (by omega)).mono ?_; rintro e wk ⟨rfl, hk⟩; have HK := Lib.hid hk; clear hk; have HS := Lib.hid (Stored.start n1 (H1.out.2.1.blk.kept HK.out (fun h => h))))) | (refine wpList_put rfl _ _ rfl HS _ rfl rfl (by have := H1.out.2.1.fit; simp only [List.length_nil]; omega) ?_; clear HS; intro w2 HS; obtain ⟨_, hk2, cur2, hb2, hs2, ht2⟩ := HS.out.putB [x0] (by rw [← HX0.out]; simp only [List.nil_append, List.map_cons, List.map_nil, List.cons.injEq, and_true]; exact u8v (by omega)); have H2 : Hid (Headed g n1 cur cur2 [x0] w1 w2) := Lib.hid ⟨HK.out.nope.trans' hk2, hb2, hs2, ht2⟩; clear hk2 hb2 hs2 ht2) | (refine wpList_copy_s rfl _ _ rfl _ _ _ g (n1 + 1) cur2 t rfl rfl H2.out.2.1 (fun h => by first | rfl | (exfalso; omega)) (by omega) (by rw [H2.out.2.2.1, H1.out.2.1.size]; omega) ?_; intro w3 H3))
  all_goals
    go_ret
    have hfin := app_done2 H1 H2 H3 rfl (by simp; try rfl) (n1 + 1 + t.size) (by omega)
    exact hfin
set_option maxRecDepth 100000 in
set_option maxHeartbeats 3200000 in
theorem AppendString_1 (M : Nat → Prop) (w : World) (v : Value) (bs : List UInt8) (t : ByteArray) (h0 : 32 ≤ t.size) (h1 : t.size < 256) (hv : BRow M w v bs) (hl : bs.length ≤ 549755813888) (hb : ∀ k, w.heap.size ≤ k → M k) :
    Calls Tryz.prog 31 #[v, .string t] w (AppP M bs ((UInt8.ofNat 0xd9 :: be 1 t.size) ++ (bytesOf t)) w) := by
  have HV := Lib.hid (And.intro hv (And.intro hl hb))
  clear hv hl hb
  have t0 : ¬ (t.size : Int) ≤ 31 := by omega
  have q : (t.size : Int) ≤ 255 := by omega
  have z0 : (0 : Int) ≤ (t.size : Int) := by omega
  have e0 : IntKind.i64.wrap (2 + (t.size : Int)) = 2 + (t.size : Int) := IntWalk.i64_in _ (by omega)
  go_enter Tryz.func31, Tryz.ntmps31
  go_wp2_with (first | (go_at_call 49; go_must (refine (ensure_x M _ _ bs (2 + t.size) _ (by omega) HV.out.1 (by omega) (by omega) HV.out.2.1 HV.out.2.2).mono ?_; rintro e w1 ⟨n1, g, cap, cur, rfl, hcn, hn1, H1⟩; have hf := H1.out.2.1.room; have f1 : n1 < n1 + (2 + t.size) := (by omega); have f2 : n1 + 2 ≤ n1 + (2 + t.size) := (by omega); have f3 : n1 + 2 + t.size ≤ cap := (by omega); have f4 : (n1 : Int) + 2 + (t.size : Int) ≤ (cap : Int) := (by omega); have f5 : (n1 : Int) + 2 ≤ (n1 : Int) + (2 + (t.size : Int)) := (by omega); have e1 : IntKind.i64.wrap ((n1 : Int) + 2) = (n1 : Int) + 2 := IntWalk.i64_in _ (by omega); have e2 : IntKind.i64.wrap ((n1 : Int) + 2 + (t.size : Int)) = (n1 : Int) + 2 + (t.size : Int) := IntWalk.i64_in _ (by omega); have hce : ¬ cap = n1 + 2 := (by omega))) | (go_at_call 58; go_must (refine (prefixu8_ok _ g n1 _ _ cur H1.out.2.1.blk (by omega) (by have := H1.out.2.1.fit; omega) 0xd9 (t.size) (by omega) (by omega)).mono ?_; rintro e w2 ⟨rfl, hk2, cur2, hb2, hs2, ht2⟩; have H2 : Hid (Headed g n1 cur cur2 (UInt8.ofNat 0xd9 :: be 1 (t.size)) w1 w2) := Lib.hid ⟨hk2, hb2, hs2, ht2⟩; clear hk2 hb2 hs2 ht2)) | (refine wpList_copy_s rfl _ _ rfl _ _ _ g (n1 + 2) cur2 t rfl rfl H2.out.2.1 (fun h => by first | rfl | (exfalso; omega)) (by omega) (by rw [H2.out.2.2.1, H1.out.2.1.size]; omega) ?_; intro w3 H3))
  all_goals
    go_ret
    have hfin := app_done2 H1 H2 H3 rfl (by simp; try rfl) (n1 + 2 + t.size) (by omega)
    exact hfin
set_option maxRecDepth 100000 in
set_option maxHeartbeats 3200000 in
theorem AppendString_2 (M : Nat → Prop) (w : World) (v : Value) (bs : List UInt8) (t : ByteArray) (h0 : 256 ≤ t.size) (h1 : t.size < 65536) (hv : BRow M w v bs) (hl : bs.length ≤ 549755813888) (hb : ∀ k, w.heap.size ≤ k → M k) :
    Calls Tryz.prog 31 #[v, .string t] w (AppP M bs ((UInt8.ofNat 0xda :: be 2 t.size) ++ (bytesOf t)) w) := by
  have HV := Lib.hid (And.intro hv (And.intro hl hb))
  clear hv hl hb
  have t0 : ¬ (t.size : Int) ≤ 31 := by omega
  have t1 : ¬ (t.size : Int) ≤ 255 := by omega
  have q : (t.size : Int) ≤ 65535 := by omega
  have z0 : (0 : Int) ≤ (t.size : Int) := by omega
  have e0 : IntKind.i64.wrap (3 + (t.size : Int)) = 3 + (t.size : Int) := IntWalk.i64_in _ (by omega)
  go_enter Tryz.func31, Tryz.ntmps31
  go_wp2_with (first | (go_at_call 49; go_must (refine (ensure_x M _ _ bs (3 + t.size) _ (by omega) HV.out.1 (by omega) (by omega) HV.out.2.1 HV.out.2.2).mono ?_; rintro e w1 ⟨n1, g, cap, cur, rfl, hcn, hn1, H1⟩; have hf := H1.out.2.1.room; have f1 : n1 < n1 + (3 + t.size) := (by omega); have f2 : n1 + 3 ≤ n1 + (3 + t.size) := (by omega); have f3 : n1 + 3 + t.size ≤ cap := (by omega); have f4 : (n1 : Int) + 3 + (t.size : Int) ≤ (cap : Int) := (by omega); have f5 : (n1 : Int) + 3 ≤ (n1 : Int) + (3 + (t.size : Int)) := (by omega); have e1 : IntKind.i64.wrap ((n1 : Int) + 3) = (n1 : Int) + 3 := IntWalk.i64_in _ (by omega); have e2 : IntKind.i64.wrap ((n1 : Int) + 3 + (t.size : Int)) = (n1 : Int) + 3 + (t.size : Int) := IntWalk.i64_in _ (by omega); have hce : ¬ cap = n1 + 3 := (by omega))) | (go_at_call 59; go_must (refine (prefixu16_ok _ g n1 _ _ cur H1.out.2.1.blk (by omega) (by have := H1.out.2.1.fit; omega) 0xda (t.size) (by omega) (by omega)).mono ?_; rintro e w2 ⟨rfl, hk2, cur2, hb2, hs2, ht2⟩; have H2 : Hid (Headed g n1 cur cur2 (UInt8.ofNat 0xda :: be 2 (t.size)) w1 w2) := Lib.hid ⟨hk2, hb2, hs2, ht2⟩; clear hk2 hb2 hs2 ht2)) | (refine wpList_copy_s rfl _ _ rfl _ _ _ g (n1 + 3) cur2 t rfl rfl H2.out.2.1 (fun h => by first | rfl | (exfalso; omega)) (by omega) (by rw [H2.out.2.2.1, H1.out.2.1.size]; omega) ?_; intro w3 H3))
  all_goals
    go_ret
    have hfin := app_done2 H1 H2 H3 rfl (by simp; try rfl) (n1 + 3 + t.size) (by omega)
    exact hfin
set_option maxRecDepth 100000 in
set_option maxHeartbeats 3200000 in
theorem AppendString_4 (M : Nat → Prop) (w : World) (v : Value) (bs : List UInt8) (t : ByteArray) (h0 : 65536 ≤ t.size) (h1 : t.size < 4294967296) (hv : BRow M w v bs) (hl : bs.length ≤ 549755813888) (hb : ∀ k, w.heap.size ≤ k → M k) :
    Calls Tryz.prog 31 #[v, .string t] w (AppP M bs ((UInt8.ofNat 0xdb :: be 4 t.size) ++ (bytesOf t)) w) := by
  have HV := Lib.hid (And.intro hv (And.intro hl hb))
  clear hv hl hb
  have t0 : ¬ (t.size : Int) ≤ 31 := by omega
  have t1 : ¬ (t.size : Int) ≤ 255 := by omega
  have t2 : ¬ (t.size : Int) ≤ 65535 := by omega
  have z0 : (0 : Int) ≤ (t.size : Int) := by omega
  have e0 : IntKind.i64.wrap (5 + (t.size : Int)) = 5 + (t.size : Int) := IntWalk.i64_in _ (by omega)
  go_enter Tryz.func31, Tryz.ntmps31
  go_wp2_with (first | (go_at_call 49; go_must (refine (ensure_x M _ _ bs (5 + t.size) _ (by omega) HV.out.1 (by omega) (by omega) HV.out.2.1 HV.out.2.2).mono ?_; rintro e w1 ⟨n1, g, cap, cur, rfl, hcn, hn1, H1⟩; have hf := H1.out.2.1.room; have f1 : n1 < n1 + (5 + t.size) := (by omega); have f2 : n1 + 5 ≤ n1 + (5 + t.size) := (by omega); have f3 : n1 + 5 + t.size ≤ cap := (by omega); have f4 : (n1 : Int) + 5 + (t.size : Int) ≤ (cap : Int) := (by omega); have f5 : (n1 : Int) + 5 ≤ (n1 : Int) + (5 + (t.size : Int)) := (by omega); have e1 : IntKind.i64.wrap ((n1 : Int) + 5) = (n1 : Int) + 5 := IntWalk.i64_in _ (by omega); have e2 : IntKind.i64.wrap ((n1 : Int) + 5 + (t.size : Int)) = (n1 : Int) + 5 + (t.size : Int) := IntWalk.i64_in _ (by omega); have hce : ¬ cap = n1 + 5 := (by omega))) | (go_at_call 52; go_must (refine (prefixu32_ok _ g n1 _ _ cur H1.out.2.1.blk (by omega) (by have := H1.out.2.1.fit; omega) 0xdb (t.size) (by omega) (by omega)).mono ?_; rintro e w2 ⟨rfl, hk2, cur2, hb2, hs2, ht2⟩; have H2 : Hid (Headed g n1 cur cur2 (UInt8.ofNat 0xdb :: be 4 (t.size)) w1 w2) := Lib.hid ⟨hk2, hb2, hs2, ht2⟩; clear hk2 hb2 hs2 ht2)) | (refine wpList_copy_s rfl _ _ rfl _ _ _ g (n1 + 5) cur2 t rfl rfl H2.out.2.1 (fun h => by first | rfl | (exfalso; omega)) (by omega) (by rw [H2.out.2.2.1, H1.out.2.1.size]; omega) ?_; intro w3 H3))
  all_goals
    go_ret
    have hfin := app_done2 H1 H2 H3 rfl (by simp; try rfl) (n1 + 5 + t.size) (by omega)
    exact hfin
theorem AppendString_ok (M : Nat → Prop) (w : World) (v : Value) (bs : List UInt8) (t : ByteArray) (h1 : t.size < 4294967296) (hv : BRow M w v bs) (hl : bs.length ≤ 549755813888) (hb : ∀ k, w.heap.size ≤ k → M k) :
    Calls Tryz.prog 31 #[v, .string t] w (AppQ M bs (TxtB t) w) := by
  rcases (show t.size < 32 ∨ (32 ≤ t.size ∧ t.size < 256) ∨ (256 ≤ t.size ∧ t.size < 65536) ∨ 65536 ≤ t.size by omega) with h | ⟨h, h'⟩ | ⟨h, h'⟩ | h
  · exact (AppendString_0 M w v bs t h hv hl hb).mono fun e w' hp => hp.q (.short h)
  · exact (AppendString_1 M w v bs t h h' hv hl hb).mono fun e w' hp => hp.q (.long (.inl ⟨rfl, rfl⟩) (by omega))
  · exact (AppendString_2 M w v bs t h h' hv hl hb).mono fun e w' hp => hp.q (.long (.inr (.inl ⟨rfl, rfl⟩)) (by omega))
  · exact (AppendString_4 M w v bs t h h1 hv hl hb).mono fun e w' hp => hp.q (.long (.inr (.inr ⟨rfl, rfl⟩)) (by omega))
end Go.Proofs.YtapfahngeaojkaaGreatDoor
namespace Go.Proofs.YtapfahngeaojkaaGreatDoor
open Go Go.RowKit Go.Lib
set_option maxRecDepth 100000 in
set_option maxHeartbeats 3200000 in
theorem AppendBytes_1 (M : Nat → Prop) (w : World) (v : Value) (bs : List UInt8) (sv : Value) (ds : List UInt8) (hs : BSl (fun b => ¬ M b) w sv ds) (h1 : ds.length < 256) (hv : BRow M w v bs) (hl : bs.length ≤ 549755813888) (hb : ∀ k, w.heap.size ≤ k → M k) :
    Calls Tryz.prog 32 #[v, sv] w (AppP M bs ((UInt8.ofNat 0xc4 :: be 1 ds.length) ++ ds) w) := by
  have HV := Lib.hid (And.intro hv (And.intro hl hb))
  have HS := Lib.hid hs
  obtain ⟨ps, cs, rfl, hcs, hcm, _⟩ := hs
  clear hv hl hb
  have q : (ds.length : Int) ≤ 255 := by omega
  have z0 : (0 : Int) ≤ (ds.length : Int) := by omega
  have e0 : IntKind.i64.wrap (2 + (ds.length : Int)) = 2 + (ds.length : Int) := IntWalk.i64_in _ (by omega)
  go_enter Tryz.func32, Tryz.ntmps32
  go_wp2_with (first | (go_at_call 49; go_must (refine (ensure_x M _ _ bs (2 + ds.length) _ (by omega) HV.out.1 (by omega) (by omega) HV.out.2.1 HV.out.2.2).mono ?_; rintro e w1 ⟨n1, g, cap, cur, rfl, hcn, hn1, H1⟩; have hf := H1.out.2.1.room; have f1 : n1 < n1 + (2 + ds.length) := (by omega); have f2 : n1 + 2 ≤ n1 + (2 + ds.length) := (by omega); have f3 : n1 + 2 + ds.length ≤ cap := (by omega); have f4 : (n1 : Int) + 2 + (ds.length : Int) ≤ (cap : Int) := (by omega); have f5 : (n1 : Int) + 2 ≤ (n1 : Int) + (2 + (ds.length : Int)) := (by omega); have e1 : IntKind.i64.wrap ((n1 : Int) + 2) = (n1 : Int) + 2 := IntWalk.i64_in _ (by omega); have e2 : IntKind.i64.wrap ((n1 : Int) + 2 + (ds.length : Int)) = (n1 : Int) + 2 + (ds.length : Int) := IntWalk.i64_in _ (by omega); rcases Classical.em (cap = n1 + 2) with rfl | hce)) | (go_at_call 58; go_must (refine (prefixu8_ok _ g n1 _ _ cur H1.out.2.1.blk (by omega) (by have := H1.out.2.1.fit; omega) 0xc4 (ds.length) (by omega) (by omega)).mono ?_; rintro e w2 ⟨rfl, hk2, cur2, hb2, hs2, ht2⟩; have H2 : Hid (Headed g n1 cur cur2 (UInt8.ofNat 0xc4 :: be 1 (ds.length)) w1 w2) := Lib.hid ⟨hk2, hb2, hs2, ht2⟩; clear hk2 hb2 hs2 ht2)) | (refine wpList_copy_b rfl _ _ rfl _ _ _ g (n1 + 2) cur2 _ rfl rfl H2.out.2.1 ds ((HS.out.keep H1.out.2.2 (fun _ _ h h2 => h h2)).keep H2.out.1 (fun b _ h h2 => h (by have e : b = g := h2; rw [e]; exact H1.out.2.1.ge))) (fun h => by first | rfl | (exfalso; omega)) (by omega) (by rw [H2.out.2.2.1, H1.out.2.1.size]; omega) ?_; intro w3 H3))
  all_goals
    go_ret
    have hfin := app_done2 H1 H2 H3 rfl (by simp; try rfl) (n1 + 2 + ds.length) (by omega)
    exact hfin
set_option maxRecDepth 100000 in
set_option maxHeartbeats 3200000 in
theorem AppendBytes_2 (M : Nat → Prop) (w : World) (v : Value) (bs : List UInt8) (sv : Value) (ds : List UInt8) (hs : BSl (fun b => ¬ M b) w sv ds) (h0 : 256 ≤ ds.length) (h1 : ds.length < 65536) (hv : BRow M w v bs) (hl : bs.length ≤ 549755813888) (hb : ∀ k, w.heap.size ≤ k → M k) :
    Calls Tryz.prog 32 #[v, sv] w (AppP M bs ((UInt8.ofNat 0xc5 :: be 2 ds.length) ++ ds) w) := by
  have HV := Lib.hid (And.intro hv (And.intro hl hb))
  have HS := Lib.hid hs
  obtain ⟨ps, cs, rfl, hcs, hcm, _⟩ := hs
  clear hv hl hb
  have t0 : ¬ (ds.length : Int) ≤ 255 := by omega
  have q : (ds.length : Int) ≤ 65535 := by omega
  have z0 : (0 : Int) ≤ (ds.length : Int) := by omega
  have e0 : IntKind.i64.wrap (3 + (ds.length : Int)) = 3 + (ds.length : Int) := IntWalk.i64_in _ (by omega)
  go_enter Tryz.func32, Tryz.ntmps32
  go_wp2_with (first | (go_at_call 49; go_must (refine (ensure_x M _ _ bs (3 + ds.length) _ (by omega) HV.out.1 (by omega) (by omega) HV.out.2.1 HV.out.2.2).mono ?_; rintro e w1 ⟨n1, g, cap, cur, rfl, hcn, hn1, H1⟩; have hf := H1.out.2.1.room; have f1 : n1 < n1 + (3 + ds.length) := (by omega); have f2 : n1 + 3 ≤ n1 + (3 + ds.length) := (by omega); have f3 : n1 + 3 + ds.length ≤ cap := (by omega); have f4 : (n1 : Int) + 3 + (ds.length : Int) ≤ (cap : Int) := (by omega); have f5 : (n1 : Int) + 3 ≤ (n1 : Int) + (3 + (ds.length : Int)) := (by omega); have e1 : IntKind.i64.wrap ((n1 : Int) + 3) = (n1 : Int) + 3 := IntWalk.i64_in _ (by omega); have e2 : IntKind.i64.wrap ((n1 : Int) + 3 + (ds.length : Int)) = (n1 : Int) + 3 + (ds.length : Int) := IntWalk.i64_in _ (by omega); have hce : ¬ cap = n1 + 3 := (by omega))) | (go_at_call 59; go_must (refine (prefixu16_ok _ g n1 _ _ cur H1.out.2.1.blk (by omega) (by have := H1.out.2.1.fit; omega) 0xc5 (ds.length) (by omega) (by omega)).mono ?_; rintro e w2 ⟨rfl, hk2, cur2, hb2, hs2, ht2⟩; have H2 : Hid (Headed g n1 cur cur2 (UInt8.ofNat 0xc5 :: be 2 (ds.length)) w1 w2) := Lib.hid ⟨hk2, hb2, hs2, ht2⟩; clear hk2 hb2 hs2 ht2)) | (refine wpList_copy_b rfl _ _ rfl _ _ _ g (n1 + 3) cur2 _ rfl rfl H2.out.2.1 ds ((HS.out.keep H1.out.2.2 (fun _ _ h h2 => h h2)).keep H2.out.1 (fun b _ h h2 => h (by have e : b = g := h2; rw [e]; exact H1.out.2.1.ge))) (fun h => by first | rfl | (exfalso; omega)) (by omega) (by rw [H2.out.2.2.1, H1.out.2.1.size]; omega) ?_; intro w3 H3))
  all_goals
    go_ret
    have hfin := app_done2 H1 H2 H3 rfl (by simp; try rfl) (n1 + 3 + ds.length) (by omega)
    exact hfin
set_option maxRecDepth 100000 in
set_option maxHeartbeats 3200000 in
theorem AppendBytes_4 (M : Nat → Prop) (w : World) (v : Value) (bs : List UInt8) (sv : Value) (ds : List UInt8) (hs : BSl (fun b => ¬ M b) w sv ds) (h0 : 65536 ≤ ds.length) (h1 : ds.length < 4294967296) (hv : BRow M w v bs) (hl : bs.length ≤ 549755813888) (hb : ∀ k, w.heap.size ≤ k → M k) :
    Calls Tryz.prog 32 #[v, sv] w (AppP M bs ((UInt8.ofNat 0xc6 :: be 4 ds.length) ++ ds) w) := by
  have HV := Lib.hid (And.intro hv (And.intro hl hb))
  have HS := Lib.hid hs
  obtain ⟨ps, cs, rfl, hcs, hcm, _⟩ := hs
  clear hv hl hb
  have t0 : ¬ (ds.length : Int) ≤ 255 := by omega
  have t1 : ¬ (ds.length : Int) ≤ 65535 := by omega
  have z0 : (0 : Int) ≤ (ds.length : Int) := by omega
  have e0 : IntKind.i64.wrap (5 + (ds.length : Int)) = 5 + (ds.length : Int) := IntWalk.i64_in _ (by omega)
  go_enter Tryz.func32, Tryz.ntmps32
  go_wp2_with (first | (go_at_call 49; go_must (refine (ensure_x M _ _ bs (5 + ds.length) _ (by omega) HV.out.1 (by omega) (by omega) HV.out.2.1 HV.out.2.2).mono ?_; rintro e w1 ⟨n1, g, cap, cur, rfl, hcn, hn1, H1⟩; have hf := H1.out.2.1.room; have f1 : n1 < n1 + (5 + ds.length) := (by omega); have f2 : n1 + 5 ≤ n1 + (5 + ds.length) := (by omega); have f3 : n1 + 5 + ds.length ≤ cap := (by omega); have f4 : (n1 : Int) + 5 + (ds.length : Int) ≤ (cap : Int) := (by omega); have f5 : (n1 : Int) + 5 ≤ (n1 : Int) + (5 + (ds.length : Int)) := (by omega); have e1 : IntKind.i64.wrap ((n1 : Int) + 5) = (n1 : Int) + 5 := IntWalk.i64_in _ (by omega); have e2 : IntKind.i64.wrap ((n1 : Int) + 5 + (ds.length : Int)) = (n1 : Int) + 5 + (ds.length : Int) := IntWalk.i64_in _ (by omega); have hce : ¬ cap = n1 + 5 := (by omega))) | (go_at_call 52; go_must (refine (prefixu32_ok _ g n1 _ _ cur H1.out.2.1.blk (by omega) (by have := H1.out.2.1.fit; omega) 0xc6 (ds.length) (by omega) (by omega)).mono ?_; rintro e w2 ⟨rfl, hk2, cur2, hb2, hs2, ht2⟩; have H2 : Hid (Headed g n1 cur cur2 (UInt8.ofNat 0xc6 :: be 4 (ds.length)) w1 w2) := Lib.hid ⟨hk2, hb2, hs2, ht2⟩; clear hk2 hb2 hs2 ht2)) | (refine wpList_copy_b rfl _ _ rfl _ _ _ g (n1 + 5) cur2 _ rfl rfl H2.out.2.1 ds ((HS.out.keep H1.out.2.2 (fun _ _ h h2 => h h2)).keep H2.out.1 (fun b _ h h2 => h (by have e : b = g := h2; rw [e]; exact H1.out.2.1.ge))) (fun h => by first | rfl | (exfalso; omega)) (by omega) (by rw [H2.out.2.2.1, H1.out.2.1.size]; omega) ?_; intro w3 H3))
  all_goals
    go_ret
    have hfin := app_done2 H1 H2 H3 rfl (by simp; try rfl) (n1 + 5 + ds.length) (by omega)
    exact hfin
theorem AppendBytes_ok (M : Nat → Prop) (w : World) (v : Value) (bs : List UInt8) (sv : Value) (ds : List UInt8) (hs : BSl (fun b => ¬ M b) w sv ds) (h1 : ds.length < 4294967296) (hv : BRow M w v bs) (hl : bs.length ≤ 549755813888) (hb : ∀ k, w.heap.size ≤ k → M k) :
    Calls Tryz.prog 32 #[v, sv] w (AppQ M bs (fun d => ∃ c s, bCode c s ∧ ds.length < 256 ^ s ∧ d = UInt8.ofNat c :: (be s ds.length ++ ds)) w) := by
  rcases (show ds.length < 256 ∨ (256 ≤ ds.length ∧ ds.length < 65536) ∨ 65536 ≤ ds.length by omega) with h | ⟨h, h'⟩ | h
  · exact (AppendBytes_1 M w v bs sv ds hs h hv hl hb).mono fun e w' hp => hp.q ⟨_, _, .inl ⟨rfl, rfl⟩, by omega, rfl⟩
  · exact (AppendBytes_2 M w v bs sv ds hs h h' hv hl hb).mono fun e w' hp => hp.q ⟨_, _, .inr (.inl ⟨rfl, rfl⟩), by omega, rfl⟩
  · exact (AppendBytes_4 M w v bs sv ds hs h h1 hv hl hb).mono fun e w' hp => hp.q ⟨_, _, .inr (.inr ⟨rfl, rfl⟩), by omega, rfl⟩
end Go.Proofs.YtapfahngeaojkaaGreatDoor
