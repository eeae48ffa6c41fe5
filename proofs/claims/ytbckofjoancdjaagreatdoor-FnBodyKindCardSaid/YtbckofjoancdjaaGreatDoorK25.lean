/- Package spec: Put: a composite value as it is written in short forms. -/
import Derived.Test.YtbckofjoancdjaaGreatDoorK24
namespace Go.Proofs.YtbckofjoancdjaaGreatDoor
open Go Go.RowKit Go.Lib
theorem SameValue_yes (a b : V) (w : World) (xa xb : Value) (ha : VAgg Any_ w xa a) (hb : VAgg Any_ w xb b) (h : Same a b) : Calls Tryz.prog 24 #[xa, xb] w (Quiet (.bool true) w) := by
  refine (SameValue_ok a b w xa xb ha hb).mono ?_
  rintro e w' ⟨⟨rfl, _⟩ | ⟨rfl, h2⟩, hk⟩
  · exact ⟨rfl, hk⟩
  · exact absurd h h2
theorem SameValue_no (a b : V) (w : World) (xa xb : Value) (ha : VAgg Any_ w xa a) (hb : VAgg Any_ w xb b) (h : ¬ Same a b) : Calls Tryz.prog 24 #[xa, xb] w (Quiet (.bool false) w) := by
  refine (SameValue_ok a b w xa xb ha hb).mono ?_
  rintro e w' ⟨⟨rfl, h2⟩ | ⟨rfl, _⟩, hk⟩
  · exact absurd h2 h
  · exact ⟨rfl, hk⟩
set_option maxRecDepth 100000 in
set_option maxHeartbeats 6400000 in
theorem Put_ok (w : World) (f : Nat) (c : Int) (b cc : Nat) (fs : List (Lay × Lay)) (rs : List Lay) (hS : ShortAt w f) (hf : FRow w b fs) (hff : ∀ (k : Nat) (p : Lay × Lay), fs[k]? = some p → p.1.Ok (fun b => b ≠ f) w) (hn : fs.length ≤ 100) (hn0 : 0 < fs.length) (hcc : fs.length ≤ cc ∧ cc ≤ 100) (hc : 0 < c ∧ c < 256)
    (hr : rs.length = fs.length) (hfin : ∀ (k : Nat) (p : Lay × Lay) (r : Lay), fs[k]? = some p → rs[k]? = some r → Outs w p r)
    (hfit : Fits (wholeV c (rs.map Lay.v))) (hnum : Nums (wholeV c (rs.map Lay.v))) (hroom : (wholeV c (rs.map Lay.v)).room ≤ 1000000000) :
    Calls Tryz.prog 6 #[.agg #[.int .u64 c, .slice (some ⟨b, 0, none⟩) fs.length cc], .pointer (some ⟨f, 0, none⟩)] w (fun e w' => ∃ x bs cd q A, e = .returned x ∧ w.heap.size ≤ A ∧ BRow A w' x bs ∧ bs = 0 :: ((83 :: be 1 c.toNat) ++ UInt8.ofNat cd :: q) ∧ Form (wholeV c (rs.map Lay.v)) cd q ∧ cd < 256 ∧ Kept (Only f) w w') := by
  have hfl : f < w.heap.size := by obtain ⟨st, h1, _⟩ := hS; exact h1.lt
  have HS := Lib.hid hS
  have HF := Lib.hid hf
  have HFF := Lib.hid hff
  have HFN := Lib.hid (And.intro hr hfin)
  have HFT := Lib.hid (And.intro hfit (And.intro hnum hroom))
  have HC := Lib.hid hc
  have HFL := Lib.hid hfl
  obtain ⟨m, hm⟩ : ∃ m, fs.length = m := ⟨_, rfl⟩
  have HM := Lib.hid hm
  have HWK := Lib.hid (fun (W : World) (h : FRow W b fs) => Whole_ok W c b cc fs h hn hcc)
  rw [hm] at hn hn0 hcc HWK ⊢
  clear hf hm hS hfin hr hff hfit hnum hroom hc hfl
  go_enter Tryz.func6, Tryz.ntmps6
  go_wp2_with (go_at_call 23; go_must (refine (HWK.out _ ?_).mono ?_; exact ⟨by have := HF.out.1; simp; omega, fun k p hp => by have h := HF.out.2 k p hp; have hk := (Kept.refl Nope w).alloc (.cells #[.int .u64 c, .slice (some ⟨b, 0, none⟩) m cc] 30); exact ⟨fun t u hu => hk.cell (h.1 t u hu) (fun h => h), fun t u hu => hk.cell (h.2.1 t u hu) (fun h => h), (h.2.2.1.keep hk (fun _ _ _ h => h)).mono fun b _ hb => Nat.lt_of_lt_of_le hb hk.size, (h.2.2.2.keep hk (fun _ _ _ h => h)).mono fun b _ hb => Nat.lt_of_lt_of_le hb hk.size⟩⟩; rintro e w1 ⟨po, g, rfl, hk1, hrow, hg1, hg2, hg3⟩; have hfm := hrow.form; rw [List.length_map, HM.out] at hfm; obtain ⟨pa, pc, rfl⟩ := hfm; have H1 := Lib.hid (And.intro hk1 (And.intro hrow (And.intro hg1 (And.intro hg2 hg3)))); have hcb := fun (o : Obj) => (((Blk.new w 30 #[.int .u64 c, .slice (some ⟨b, 0, none⟩) m cc]).kept hk1 (fun h => h)).alloc o).cell 1; simp only [List.getElem?_toArray, List.getElem?_cons_zero, List.getElem?_cons_succ] at hcb; clear hk1 hrow hg1 hg2 hg3))
  obtain ⟨W0, hW0⟩ : ∃ W0, w1.alloc (.cells #[.int .i64 21, .int .u64 0, .string ⟨#[]⟩, .slice pa m pc, .int .i64 0, .slice (some ⟨g, 0, none⟩) 1 1] 92) = W0 := ⟨_, rfl⟩
  obtain ⟨P, hP⟩ : ∃ P, w1.heap.size = P := ⟨_, rfl⟩
  rw [hW0, hP]
  have hkw : Kept Nope w w1 := ((Kept.refl Nope w).alloc (.cells #[.int .u64 c, .slice (some ⟨b, 0, none⟩) m cc] 30)).trans' H1.out.1
  have hk0 : Kept Nope w W0 := hW0 ▸ hkw.alloc _
  have hb0 : Blk W0 P 92 #[.int .i64 21, .int .u64 0, .string ⟨#[]⟩, .slice pa m pc, .int .i64 0, .slice (some ⟨g, 0, none⟩) 1 1] := by rw [← hW0, ← hP]; exact Blk.new _ _ _
  have hbg : Blk W0 g 92 #[.int .i64 5, .int .u64 c, .string ⟨#[]⟩, .slice none 0 0, .int .i64 0, .slice none 0 0] := hW0 ▸ H1.out.2.2.2.1.alloc _
  have hgP : g < P := hP ▸ H1.out.2.2.2.1.lt
  have hwg : w.heap.size < g := by have := H1.out.2.2.1; rw [World.size_alloc] at this; omega
  have hown0 : W0.ownsRow w.heap.size 92 6 (.slice pa m pc) (fs.map Prod.fst).length ((fs.map Prod.fst).flatMap Lay.cells) := hW0 ▸ ownsRow_base (ownsRow_keep H1.out.2.1.own ((Kept.refl Nope w1).alloc _) fun _ _ h => h) (by rw [World.size_alloc]; omega)
  have hrow0 : Row6 w (fun bb => bb = g ∨ bb = P ∨ bb = f) W0 (.slice pa m pc) (fs.map Prod.fst) := row_start hk0 hown0 (by omega) (by omega) HFF.out
  obtain ⟨p0, hp0⟩ : ∃ p, fs[0]? = some p := ⟨fs[0]'(by rw [HM.out]; exact hn0), List.getElem?_eq_getElem _⟩
  obtain ⟨gp, cur0, rfl, hgp, hx1, hx2, hx3⟩ := hrow0.at_ (by rw [List.length_map, HM.out]) (k := 0) (e := p0.1) (by rw [List.getElem?_map, hp0]; rfl)
  have hgpg : gp ≠ g := fun e => H1.out.2.2.2.2 (e ▸ rfl)
  have hgpP : gp < P := by have h1 := H1.out.2.1.own.lt gp rfl; omega
  have H0 := Lib.hid (And.intro hk0 (And.intro hb0 (And.intro hbg (And.intro hrow0 (And.intro hgP (And.intro hwg (And.intro hgpg (And.intro hgpP hgp))))))))
  clear hx1 hx2 hx3; clear hk0 hb0 hbg hrow0 hW0 hP hkw hgP hwg hgpg hgpP hgp hcb hown0 hp0 p0 cur0
  go_loopg [13] m (fun j q w' => ∃ k : Nat, k + j = m ∧ q = .int .i64 k ∧ Hid (Kept Nope w w' ∧ Blk w' P 92 #[.int .i64 21, .int .u64 0, .string ⟨#[]⟩, .slice (some ⟨gp, 0, none⟩) m pc, .int .i64 0, .slice (some ⟨g, 0, none⟩) 1 1] ∧ Blk w' g 92 #[.int .i64 5, .int .u64 c, .string ⟨#[]⟩, .slice none 0 0, .int .i64 0, .slice none 0 0] ∧ Row6 w (fun bb => bb = g ∨ bb = P ∨ bb = f) w' (.slice (some ⟨gp, 0, none⟩) m pc) (rs.take k ++ (fs.map Prod.fst).drop k)))
  case atStart => exact ⟨0, by omega, rfl, Lib.hid ⟨H0.out.1, H0.out.2.1, H0.out.2.2.1, by rw [List.take_zero, List.nil_append, List.drop_zero]; exact H0.out.2.2.2.1⟩⟩
  case round =>
    obtain ⟨k, hk, rfl, HR⟩ := hrel
    by_cases hkm : k < m
    · have hkm' : (k : Int) < (m : Int) := by omega
      have hk0 : (0 : Int) ≤ (k : Int) := by omega
      have e1 : IntKind.i64.wrap ((k : Int) + 1) = (k : Int) + 1 := IntWalk.i64_in _ (by omega)
      obtain ⟨⟨⟨v, ks, ds⟩, ⟨d, kd, dd⟩⟩, hv⟩ : ∃ p, fs[k]? = some p := ⟨fs[k]'(by rw [HM.out]; exact hkm), List.getElem?_eq_getElem _⟩
      obtain ⟨r, hr⟩ : ∃ r, rs[k]? = some r := ⟨rs[k]'(by rw [HFN.out.1, HM.out]; exact hkm), List.getElem?_eq_getElem _⟩
      obtain ⟨z0, z1, z2, z3, z4, z5, z6, z7, z8, z9, za, zb⟩ := HF.out.cells HR.out.1 hv
      have ha := (HF.out.2 k _ hv).2.2.1
      obtain ⟨ksa, ksc, rfl⟩ : ∃ a c, ks = .slice a v.kids.length c := (by obtain ⟨a, c, e, _⟩ := ha.2.1.form; exact ⟨a, c, e⟩)
      obtain ⟨dsa, dsc, rfl⟩ : ∃ a c, ds = .slice a v.desc.length c := (by obtain ⟨a, c, e, _⟩ := ha.2.2.form; exact ⟨a, c, e⟩)
      have hdd := (HF.out.2 k _ hv).2.2.2
      obtain ⟨kda, kdc, rfl⟩ : ∃ a c, kd = .slice a d.kids.length c := (by obtain ⟨a, c, e, _⟩ := hdd.2.1.form; exact ⟨a, c, e⟩)
      obtain ⟨dda, ddc, rfl⟩ : ∃ a c, dd = .slice a d.desc.length c := (by obtain ⟨a, c, e, _⟩ := hdd.2.2.form; exact ⟨a, c, e⟩)
      have HV := Lib.hid (And.intro hv (And.intro hr (And.intro ha hdd)))
      clear hv hr ha hdd
      go_upto_region 5 with fail
      clear z0 z1 z2 z3 z4 z5 z6 z7 z8 z9 za zb
      have hq := Blk.new wr 95 #[.int .i64 v.kind, .int .u64 v.num, .string v.text, .slice ksa v.kids.length ksc, .int .i64 v.of_, .slice dsa v.desc.length dsc, .int .i64 d.kind, .int .u64 d.num, .string d.text, .slice kda d.kids.length kdc, .int .i64 d.of_, .slice dda d.desc.length ddc]
      have hka := (Kept.refl Nope wr).alloc (.cells #[.int .i64 v.kind, .int .u64 v.num, .string v.text, .slice ksa v.kids.length ksc, .int .i64 v.of_, .slice dsa v.desc.length dsc, .int .i64 d.kind, .int .u64 d.num, .string d.text, .slice kda d.kids.length kdc, .int .i64 d.of_, .slice dda d.desc.length ddc] 95)
      generalize wr.alloc (.cells #[.int .i64 v.kind, .int .u64 v.num, .string v.text, .slice ksa v.kids.length ksc, .int .i64 v.of_, .slice dsa v.desc.length dsc, .int .i64 d.kind, .int .u64 d.num, .string d.text, .slice kda d.kids.length kdc, .int .i64 d.of_, .slice dda d.desc.length ddc] 95) = W5 at hq hka ⊢
      generalize wr.heap.size = F at hq ⊢
      have q0 := hq.cell 0
      have q1 := hq.cell 1
      have q2 := hq.cell 2
      have q3 := hq.cell 3
      have q4 := hq.cell 4
      have q5 := hq.cell 5
      have q6 := hq.cell 6
      have q7 := hq.cell 7
      have q8 := hq.cell 8
      have q9 := hq.cell 9
      have q10 := hq.cell 10
      have q11 := hq.cell 11
      simp only [List.getElem?_toArray, List.getElem?_cons_zero, List.getElem?_cons_succ] at q0 q1 q2 q3 q4 q5 q6 q7 q8 q9 q10 q11
      have HKA := Lib.hid hka
      clear hq hka
      go_cut [39] (fun s wx => ∃ bo : Bool, s = .bool bo ∧ Hid (Kept Nope W5 wx ∧ (bo = true ↔ Eld ((Lay.mk v (.slice ksa v.kids.length ksc) (.slice dsa v.desc.length dsc)), (Lay.mk d (.slice kda d.kids.length kdc) (.slice dda d.desc.length ddc))))))
      case first =>
        by_cases hv0 : v.kind = 0
        · as_aux_lemma =>
            have b0 : (v.kind != 0) = false := by simpa using hv0
            have HV0 := Lib.hid hv0
            clear hv0
            go_wp2_with fail
            go_meet
            exact ⟨false, rfl, Lib.hid ⟨Kept.refl _ _, ⟨fun h => (by cases h), fun h => absurd HV0.out h.1⟩⟩⟩
        · have b0 : (v.kind != 0) = true := by simpa using hv0
          have HV0 := Lib.hid hv0
          clear hv0
          by_cases hd0 : d.kind = 0
          · as_aux_lemma =>
              have b1 : (d.kind != 0) = false := by simpa using hd0
              have HD0 := Lib.hid hd0
              clear hd0
              go_wp2_with fail
              go_meet
              exact ⟨false, rfl, Lib.hid ⟨Kept.refl _ _, ⟨fun h => (by cases h), fun h => absurd HD0.out h.2.1⟩⟩⟩
          · have b1 : (d.kind != 0) = true := by simpa using hd0
            have HD0 := Lib.hid hd0
            clear hd0
            have HA : Hid (VAgg Any_ W5 (vagg v (.slice ksa v.kids.length ksc) (.slice dsa v.desc.length dsc)) v) := Lib.hid (by have h := HV.out.2.2.1.keep (HR.out.1.trans' HKA.out) (fun _ _ _ h => h); exact ⟨_, _, rfl, h.1, h.2.1.mono fun _ _ _ => trivial, h.2.2.mono fun _ _ _ => trivial⟩)
            have HD : Hid (VAgg Any_ W5 (vagg d (.slice kda d.kids.length kdc) (.slice dda d.desc.length ddc)) d) := Lib.hid (by have h := HV.out.2.2.2.keep (HR.out.1.trans' HKA.out) (fun _ _ _ h => h); exact ⟨_, _, rfl, h.1, h.2.1.mono fun _ _ _ => trivial, h.2.2.mono fun _ _ _ => trivial⟩)
            by_cases hsm : Same v d
            · as_aux_lemma =>
                have HSM := Lib.hid hsm
                clear hsm
                go_wp2_with (first | (go_at_call 24; go_must (refine (SameValue_yes v d _ _ _ HA.out HD.out HSM.out).mono ?_; rintro e w6 ⟨rfl, hk6⟩; have H6 := Lib.hid hk6; clear hk6)) | (go_at_call 25; go_must (refine (pick_same f 2 _ (HS.out.kept ((HR.out.1.trans' HKA.out).trans' H6.out))).mono ?_; rintro e w7 ⟨rfl, rfl⟩)))
                go_meet
                exact ⟨true, rfl, Lib.hid ⟨H6.out, ⟨fun _ => ⟨HV0.out, HD0.out, HSM.out⟩, fun _ => rfl⟩⟩⟩
            · as_aux_lemma =>
                have HSM := Lib.hid hsm
                clear hsm
                go_wp2_with (go_at_call 24; go_must (refine (SameValue_no v d _ _ _ HA.out HD.out HSM.out).mono ?_; rintro e w6 ⟨rfl, hk6⟩; have H6 := Lib.hid hk6; clear hk6))
                go_meet
                exact ⟨false, rfl, Lib.hid ⟨H6.out, ⟨fun h => (by cases h), fun h => absurd h.2.2 HSM.out⟩⟩⟩
      case rest =>
        obtain ⟨bo, rfl, HB⟩ := hcut
        clear q0 q1 q2 q3 q4 q5 q6 q7 q8 q9 q10 q11
        have HK5 : Hid (Kept Nope wr wc) := Lib.hid (HKA.out.trans' HB.out.1)
        have HE : Hid ((bo = true → r = nulL) ∧ (bo = false → InsB w (Lay.mk v (.slice ksa v.kids.length ksc) (.slice dsa v.desc.length dsc)) r)) := Lib.hid (by
          rcases HFN.out.2 k _ r HV.out.1 HV.out.2.1 with ⟨h1, h2⟩ | ⟨h1, h2⟩
          · exact ⟨fun _ => h2, fun h => by have h3 := HB.out.2.2 h1; rw [h] at h3; cases h3⟩
          · exact ⟨fun h => absurd (HB.out.2.1 h) h1, fun _ => h2⟩)
        go_upto_if 39 with fail
        go_cut [] (fun wx => ∃ e, Hid (Kept Nope w wx ∧ Blk wx P 92 #[.int .i64 21, .int .u64 0, .string ⟨#[]⟩, .slice (some ⟨gp, 0, none⟩) m pc, .int .i64 0, .slice (some ⟨g, 0, none⟩) 1 1] ∧ Blk wx g 92 #[.int .i64 5, .int .u64 c, .string ⟨#[]⟩, .slice none 0 0, .int .i64 0, .slice none 0 0] ∧ Row6 w (fun bb => bb = g ∨ bb = P ∨ bb = f) wx (.slice (some ⟨gp, 0, none⟩) m pc) ((rs.take k ++ (fs.map Prod.fst).drop k).set k e) ∧ InsB w e r))
        case first =>
          have hrw := HR.out.2.2.2.nope HK5.out
          have hbp := HR.out.2.1.kept HK5.out (fun h => h)
          have hbg := HR.out.2.2.1.kept HK5.out (fun h => h)
          cases bo with
          | false =>
            go_wp2_with fail
            go_meet
            exact ⟨(Lay.mk v (.slice ksa v.kids.length ksc) (.slice dsa v.desc.length dsc)), Lib.hid ⟨HR.out.1.trans' HK5.out, hbp, hbg, by rw [mid_set_same (mid_at HFN.out.1 HV.out.1)]; exact hrw, HE.out.2 trivial⟩⟩
          | true =>
            obtain ⟨_, cur, hgg, _, hbr, hsz, hce⟩ := hrw.at_ (mid_len HM.out HFN.out.1 (by omega)) (mid_at HFN.out.1 HV.out.1)
            obtain rfl : gp = _ := by injection hgg with hgg; injection hgg
            have y0 := (hbr.cell (k * 6)).trans (hce 0 _ rfl)
            have y1 := (hbr.cell (k * 6 + 1)).trans (hce 1 _ rfl)
            have y2 := (hbr.cell (k * 6 + 2)).trans (hce 2 _ rfl)
            have y3 := (hbr.cell (k * 6 + 3)).trans (hce 3 _ rfl)
            have y4 := (hbr.cell (k * 6 + 4)).trans (hce 4 _ rfl)
            have y5 := (hbr.cell (k * 6 + 5)).trans (hce 5 _ rfl)
            have g0 := hbr.frozen (k * 6)
            have g1 := hbr.frozen (k * 6 + 1)
            have g2 := hbr.frozen (k * 6 + 2)
            have g3 := hbr.frozen (k * 6 + 3)
            have g4 := hbr.frozen (k * 6 + 4)
            have g5 := hbr.frozen (k * 6 + 5)
            have p3 := hbp.cell 3
            simp only [List.getElem?_toArray, List.getElem?_cons_zero, List.getElem?_cons_succ] at p3
            have H6 := Lib.hid (And.intro hrw (And.intro hbp hbg))
            clear hrw hbp hbg hbr hsz hce hgg
            go_wp2_with fail
            go_meet
            have h6 := six_sets wc gp (k * 6) (.int .i64 0) (.int .u64 0) (.string ⟨#[]⟩) (.slice none 0 0) (.int .i64 0) (.slice none 0 0)
            exact ⟨nulL, Lib.hid ⟨(HR.out.1.trans' HK5.out).trans h6 (fun b hb e => by have e' : b = gp := e; have := H0.out.2.2.2.2.2.2.2.2; omega), H6.out.2.1.kept h6 (fun e => by have e' : P = gp := e; have := H0.out.2.2.2.2.2.2.2.1; omega), H6.out.2.2.kept h6 (fun e => by have e' : g = gp := e; exact H0.out.2.2.2.2.2.2.1 e'.symm), H6.out.1.set6 (mid_len HM.out HFN.out.1 (by omega)) hkm rfl (nulL_ok _ _), by rw [HE.out.1 trivial]; exact .same (by decide)⟩⟩
        case rest =>
          obtain ⟨e, HE2⟩ := hcut
          go_upto_region 7 with fail
          rcases e with ⟨ev, eks, eds⟩
          have hml : ((rs.take k ++ (fs.map Prod.fst).drop k).set k (Lay.mk ev eks eds)).length = m := by rw [List.length_set]; exact mid_len HM.out HFN.out.1 (by omega)
          have hat : ((rs.take k ++ (fs.map Prod.fst).drop k).set k (Lay.mk ev eks eds))[k]? = some (Lay.mk ev eks eds) := by rw [List.getElem?_set, if_pos rfl, if_pos (by rw [mid_len HM.out HFN.out.1 (by omega)]; exact hkm)]
          have hok := HE2.out.2.2.2.1.ok _ (List.mem_of_getElem? hat)
          obtain ⟨eka, ekc, rfl⟩ : ∃ a c, eks = .slice a ev.kids.length c := (by obtain ⟨a, c, e, _⟩ := hok.2.1.form; exact ⟨a, c, e⟩)
          obtain ⟨eda, edc, rfl⟩ : ∃ a c, eds = .slice a ev.desc.length c := (by obtain ⟨a, c, e, _⟩ := hok.2.2.form; exact ⟨a, c, e⟩)
          obtain ⟨gp', cur, hgg, _, hbr, hsz, hce⟩ := HE2.out.2.2.2.1.at_ hml hat
          obtain rfl : gp = gp' := by injection hgg with hgg; injection hgg
          have y0 := (hbr.cell (k * 6)).trans (hce 0 _ rfl)
          have y1 := (hbr.cell (k * 6 + 1)).trans (hce 1 _ rfl)
          have y2 := (hbr.cell (k * 6 + 2)).trans (hce 2 _ rfl)
          have y3 := (hbr.cell (k * 6 + 3)).trans (hce 3 _ rfl)
          have y4 := (hbr.cell (k * 6 + 4)).trans (hce 4 _ rfl)
          have y5 := (hbr.cell (k * 6 + 5)).trans (hce 5 _ rfl)
          have HY := Lib.hid (And.intro hml (And.intro hok (And.intro hbr (And.intro y0 (And.intro y1 (And.intro y2 (And.intro y3 (And.intro y4 y5))))))))
          have p3 := HE2.out.2.1.cell 3
          simp only [List.getElem?_toArray, List.getElem?_cons_zero, List.getElem?_cons_succ] at p3
          clear hml hat hok hbr hsz hce hgg
          rcases insB_or HE2.out.2.2.2.2 with ⟨h1, h2⟩ | ⟨bb, off, cq, s, h1, h2, h3⟩
          · as_aux_lemma =>
              have HX := Lib.hid (And.intro h1 h2)
              clear h1 h2
              go_region_with (first | (go_at_call 26; go_must (refine (inside_no _ f ev eka eda ekc edc HX.out.2).mono ?_; rintro e w8 ⟨rfl, hk8⟩; have hk8' : Kept Nope wc w8 := ((Kept.refl Nope wc).drew).trans' hk8; have p38 := (HE2.out.2.1.kept hk8' (fun h => h)).cell 3; simp only [List.getElem?_toArray, List.getElem?_cons_zero, List.getElem?_cons_succ] at p38; have hb8 := HY.out.2.2.1.kept hk8' (fun h => h); have x0 := (hb8.cell _).trans ((HY.out.2.2.1.cell _).symm.trans HY.out.2.2.2.1); have x1 := (hb8.cell _).trans ((HY.out.2.2.1.cell _).symm.trans HY.out.2.2.2.2.1); have x2 := (hb8.cell _).trans ((HY.out.2.2.1.cell _).symm.trans HY.out.2.2.2.2.2.1); have x3 := (hb8.cell _).trans ((HY.out.2.2.1.cell _).symm.trans HY.out.2.2.2.2.2.2.1); have x4 := (hb8.cell _).trans ((HY.out.2.2.1.cell _).symm.trans HY.out.2.2.2.2.2.2.2.1); have x5 := (hb8.cell _).trans ((HY.out.2.2.1.cell _).symm.trans HY.out.2.2.2.2.2.2.2.2); have g0 := hb8.frozen (k * 6); have g1 := hb8.frozen (k * 6 + 1); have g2 := hb8.frozen (k * 6 + 2); have g3 := hb8.frozen (k * 6 + 3); have g4 := hb8.frozen (k * 6 + 4); have g5 := hb8.frozen (k * 6 + 5); have H8 := Lib.hid hk8'; clear hk8 hk8' hb8)))
              all_goals
                go_wp2_with fail
                go_roundg (m - (k + 1))
                case measure => omega
                case rel =>
                  have h6 := six_sets w8 gp (k * 6) (.int .i64 ev.kind) (.int .u64 ev.num) (.string ev.text) (.slice eka ev.kids.length ekc) (.int .i64 ev.of_) (.slice eda ev.desc.length edc)
                  have h : Kept Nope w _ ∧ Blk _ P 92 #[.int .i64 21, .int .u64 0, .string ⟨#[]⟩, .slice (some ⟨gp, 0, none⟩) m pc, .int .i64 0, .slice (some ⟨g, 0, none⟩) 1 1] ∧ Blk _ g 92 #[.int .i64 5, .int .u64 c, .string ⟨#[]⟩, .slice none 0 0, .int .i64 0, .slice none 0 0] ∧ Row6 w (fun bb => bb = g ∨ bb = P ∨ bb = f) _ (.slice (some ⟨gp, 0, none⟩) m pc) (((rs.take k ++ (fs.map Prod.fst).drop k).set k _).set k r) := ⟨(HE2.out.1.trans' H8.out).trans h6 (fun b hb e => by have e' : b = gp := e; have := H0.out.2.2.2.2.2.2.2.2; omega), (HE2.out.2.1.kept H8.out (fun h => h)).kept h6 (fun e => by have e' : P = gp := e; have := H0.out.2.2.2.2.2.2.2.1; omega), (HE2.out.2.2.1.kept H8.out (fun h => h)).kept h6 (fun e => by have e' : g = gp := e; exact H0.out.2.2.2.2.2.2.1 e'.symm), (HE2.out.2.2.2.1.nope H8.out).set6 HY.out.1 hkm (by rw [HX.out.1]; rfl) (by rw [HX.out.1]; exact ((HY.out.2.1.keep H8.out (fun _ _ _ h => h)).mono fun b _ hb => ⟨fun e => hb.1 (by rw [e]; rfl), hb.2⟩))⟩
                  rw [mid_set HFN.out.1 HV.out.2.1] at h
                  exact ⟨k + 1, by omega, by go_num, Lib.hid h⟩
          · as_aux_lemma =>
              injection h1 with e1 e2 e3
              subst e1
              injection e2 with e4 _ e5
              injection e3 with e6 _ e7
              subst e4 e5 e6 e7
              simp only [V.kind_mk, V.num_mk, V.text_mk, V.kids_mk, V.desc_mk, V.of_mk, List.length_cons, List.length_nil, Nat.zero_add] at y0 y1 y2 y3 y4 y5
              have HX := Lib.hid (And.intro h2 h3)
              clear h2 h3
              have hkd : Kept Nope w wc.drew := HE2.out.1.trans' ((Kept.refl Nope wc).drew)
              have HKD := Lib.hid hkd
              clear hkd
              go_region_with (first | (go_at_call 26; go_must (refine (inside_sym _ f bb off _ s.num s.text ⟨#[]⟩ s.of_ (HS.out.kept HKD.out) (HKD.out.cell HX.out.2.2.2.2.2.1 (fun h => h)) (HKD.out.cell HX.out.2.2.2.2.2.2.1 (fun h => h)) (HKD.out.cell HX.out.2.2.2.2.2.2.2.1 (fun h => h)) (HKD.out.cell HX.out.2.2.2.2.2.2.2.2.1 (fun h => h)) (HKD.out.cell HX.out.2.2.2.2.2.2.2.2.2.1 (fun h => h)) (HKD.out.cell HX.out.2.2.2.2.2.2.2.2.2.2 (fun h => h))).mono ?_; rintro e w8 ⟨rfl, hk8⟩; have hk8' : Kept Nope wc w8 := ((Kept.refl Nope wc).drew).trans' hk8; have p38 := (HE2.out.2.1.kept hk8' (fun h => h)).cell 3; simp only [List.getElem?_toArray, List.getElem?_cons_zero, List.getElem?_cons_succ] at p38; have hb8 := HY.out.2.2.1.kept hk8' (fun h => h); have x0 := (hb8.cell _).trans ((HY.out.2.2.1.cell _).symm.trans HY.out.2.2.2.1); have x1 := (hb8.cell _).trans ((HY.out.2.2.1.cell _).symm.trans HY.out.2.2.2.2.1); have x2 := (hb8.cell _).trans ((HY.out.2.2.1.cell _).symm.trans HY.out.2.2.2.2.2.1); have x3 := (hb8.cell _).trans ((HY.out.2.2.1.cell _).symm.trans HY.out.2.2.2.2.2.2.1); have x4 := (hb8.cell _).trans ((HY.out.2.2.1.cell _).symm.trans HY.out.2.2.2.2.2.2.2.1); have x5 := (hb8.cell _).trans ((HY.out.2.2.1.cell _).symm.trans HY.out.2.2.2.2.2.2.2.2); have g0 := hb8.frozen (k * 6); have g1 := hb8.frozen (k * 6 + 1); have g2 := hb8.frozen (k * 6 + 2); have g3 := hb8.frozen (k * 6 + 3); have g4 := hb8.frozen (k * 6 + 4); have g5 := hb8.frozen (k * 6 + 5); have H8 := Lib.hid hk8'; clear hk8 hk8' hb8)))
              all_goals
                go_wp2_with fail
                go_roundg (m - (k + 1))
                case measure => omega
                case rel =>
                  have h6 := six_sets w8 gp (k * 6) (.int .i64 20) (.int .u64 s.num) (.string s.text) (.slice none 0 0) (.int .i64 s.of_) (.slice none 0 0)
                  have h : Kept Nope w _ ∧ Blk _ P 92 #[.int .i64 21, .int .u64 0, .string ⟨#[]⟩, .slice (some ⟨gp, 0, none⟩) m pc, .int .i64 0, .slice (some ⟨g, 0, none⟩) 1 1] ∧ Blk _ g 92 #[.int .i64 5, .int .u64 c, .string ⟨#[]⟩, .slice none 0 0, .int .i64 0, .slice none 0 0] ∧ Row6 w (fun bb => bb = g ∨ bb = P ∨ bb = f) _ (.slice (some ⟨gp, 0, none⟩) m pc) (((rs.take k ++ (fs.map Prod.fst).drop k).set k _).set k r) := ⟨(HE2.out.1.trans' H8.out).trans h6 (fun b hb e => by have e' : b = gp := e; have := H0.out.2.2.2.2.2.2.2.2; omega), (HE2.out.2.1.kept H8.out (fun h => h)).kept h6 (fun e => by have e' : P = gp := e; have := H0.out.2.2.2.2.2.2.2.1; omega), (HE2.out.2.2.1.kept H8.out (fun h => h)).kept h6 (fun e => by have e' : g = gp := e; exact H0.out.2.2.2.2.2.2.1 e'.symm), (HE2.out.2.2.2.1.nope H8.out).set6 (c0 := .int .i64 20) (c1 := .int .u64 s.num) (c2 := .string s.text) (c3 := .slice none 0 0) (c4 := .int .i64 s.of_) (c5 := .slice none 0 0) HY.out.1 hkm (by rw [HX.out.1]; simp only [Lay.cells, HX.out.2.1]) (by rw [HX.out.1]; exact ⟨HX.out.2.2.2.2.1, by rw [HX.out.2.2.1]; exact .nil _ _ (by decide), by rw [HX.out.2.2.2.1]; exact .nil _ _ (by decide)⟩)⟩
                  rw [mid_set HFN.out.1 HV.out.2.1] at h
                  exact ⟨k + 1, by omega, by go_num, Lib.hid h⟩
    · obtain rfl : k = m := by omega
      have hrl : rs.length = k := by rw [HFN.out.1, HM.out]
      obtain ⟨r, hr⟩ : ∃ r, rs[k - 1]? = some r := ⟨rs[k - 1]'(by omega), List.getElem?_eq_getElem _⟩
      have hfull : rs.take k ++ (fs.map Prod.fst).drop k = rs := by rw [List.take_of_length_le (by omega), List.drop_of_length_le (by rw [List.length_map, HM.out]; omega), List.append_nil]
      have hrow := HR.out.2.2.2
      rw [hfull] at hrow
      obtain ⟨gp', cur, hgg, _, hbr, hsz, hce⟩ := hrow.at_ hrl hr
      obtain rfl : gp = gp' := by injection hgg with hgg; injection hgg
      have y0 : wr.cell? ⟨gp, (k - 1) * 6, none⟩ = some (.int .i64 r.v.kind) := (hbr.cell _).trans (hce 0 _ rfl)
      have p0 := HR.out.2.1.cell 0
      have p1 := HR.out.2.1.cell 1
      have p2 := HR.out.2.1.cell 2
      have p3 := HR.out.2.1.cell 3
      have p4 := HR.out.2.1.cell 4
      have p5 := HR.out.2.1.cell 5
      simp only [List.getElem?_toArray, List.getElem?_cons_zero, List.getElem?_cons_succ] at p0 p1 p2 p3 p4 p5
      have hks : VSl (fun b => b ≠ f) wr (.slice (some ⟨gp, 0, none⟩) k pc) (rs.map Lay.v) := VSl.ofOwn hrow.own (fun b hb => by have h1 := (hrow.own.lt b hb).1; have h2 := HFL.out; omega) (fun a ha => (hrow.ok a ha).mono fun b _ hb e => hb.2 (.inr (.inr e)))
      have hds : VSl (fun b => b ≠ f) wr (.slice (some ⟨g, 0, none⟩) 1 1) [.mk 5 c ⟨#[]⟩ [] 0 []] := VSl.one_blk HC.out HR.out.2.2.1 (by have h1 := H0.out.2.2.2.2.2.1; have h2 := HFL.out; omega)
      have hrd : (V.mk 5 c ⟨#[]⟩ [] 0 []).room ≤ 1000000000 := by have h1 := HFT.out.2.2; have := (wholeV c (rs.map Lay.v)).room_inner; simp only [wholeV, V.desc_mk, sumOf] at this h1; omega
      have HPV := Lib.hid (And.intro hks (And.intro hds hrd))
      clear hrl hr hfull hrow hbr hsz hce hgg hks hds hrd
      have hk1 : (0 : Int) < (k : Int) := by omega
      have e2 : IntKind.i64.wrap ((k : Int) - 1) = (k : Int) - 1 := IntWalk.i64_in _ (by omega)
      have hk2 : (0 : Int) ≤ (k : Int) - 1 := by omega
      have hk3 : (k : Int) - 1 < (k : Int) := by omega
      have hk4 : ((k : Int) - 1).toNat = k - 1 := by omega
      go_wp2_with fail
      obtain ⟨wo, rfl⟩ : ∃ wo, wo = wr := ⟨_, rfl⟩
      go_loopg [] 0 (fun j w' => j = 0 ∧ wo = w')
      case atStart => exact ⟨rfl, rfl⟩
      case round =>
        obtain ⟨rfl, rfl⟩ := hrel
        rcases Bool.eq_false_or_eq_true (r.v.kind == 0) with hz | hz
        all_goals
          go_wp2_with (first | (go_at_call 25; go_must (refine (pick_same f 4 _ (HS.out.kept HR.out.1)).mono ?_; rintro e w7 ⟨rfl, rfl⟩)) | (go_at_call 27; go_must (refine ((PutValue_descS (wholeV c (rs.map Lay.v)) (.mk 5 c ⟨#[]⟩ [] 0 []) (83 :: be 1 c.toNat) (put_all _ _ (Nat.le_refl _) HFT.out.1 HFT.out.2.1 HFT.out.2.2).2.1 rfl (PutValue_num1 _ rfl HC.out rfl HPV.out.2.2) (by simp) HFT.out.2.2) _ f _ (HS.out.kept HR.out.1) ⟨_, _, rfl, ⟨by simp [wholeV], by simp [wholeV], by show (⟨#[]⟩ : ByteArray).size ≤ maxLen; decide, by simp [wholeV]⟩, HPV.out.1, HPV.out.2.1⟩).mono ?_; rintro e w9 ⟨x, bs, cd, q, rfl, hbr, hbs, hfm, hcd, _, hk9⟩; have H9 := Lib.hid (And.intro hbr (And.intro hbs (And.intro hfm (And.intro hcd hk9)))); clear hbr hbs hfm hcd hk9)))
          go_ret
          exact ⟨_, _, _, _, _, rfl, HR.out.1.size, H9.out.1, H9.out.2.1, H9.out.2.2.1, H9.out.2.2.2.1, (HR.out.1.nope).trans' H9.out.2.2.2.2⟩
end Go.Proofs.YtbckofjoancdjaaGreatDoor
