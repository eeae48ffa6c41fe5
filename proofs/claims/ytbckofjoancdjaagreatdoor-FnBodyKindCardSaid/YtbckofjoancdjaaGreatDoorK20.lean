/- Package spec: elements: the forms of values that are all of one kind. Package spec: array: the forms of an array. -/
import Derived.LoopTactic
import Derived.IntWalk
import Derived.Outline
import Derived.RegionTactic
import Derived.Deep.DeepCutAuto
import Derived.Test.YtbckofjoancdjaaGreatDoorK19
import Derived.Test.YtbckofjoancdjaaGreatDoorK15
import Derived.Test.YtbckofjoancdjaaGreatDoorK4
namespace Go.Proofs.YtbckofjoancdjaaGreatDoor
open Go Go.RowKit Go.Lib
attribute [local go_sem ↓] Go.wp_at_zero Go.wp_at_succ
def PcPost (f : Nat) (w : World) (R : FL → Prop) : Ending → World → Prop := fun e w' => ∃ x fl, e = .returned x ∧ PSl w.heap.size w' x fl ∧ R fl ∧ FormsAt w' f ∧ Kept (Only f) w w'
def PiecesOk (v : V) : Prop := ∀ (W : World) (f : Nat) (x : Value), FormsAt W f → VAgg (fun b => b ≠ f) W x v → Calls Tryz.prog 59 #[.pointer (some ⟨f, 0, none⟩), x] W (PcPost f W (Forms v))
def shT : List (Int × Int) := [(4, 82), (5, 83), (8, 84), (9, 85), (18, 160), (19, 161), (20, 163)]
theorem sh_ok {k : Int} (h : 0 ≤ k ∧ k < 24) : ∃ c : Nat, look shT k = c ∧ (c = 0 ∨ elemCode k c ∧ c < 256) := by
  rcases kind_cases h with rfl | rfl | rfl | rfl | rfl | rfl | rfl | rfl | rfl | rfl | rfl | rfl | rfl | rfl | rfl | rfl | rfl | rfl | rfl | rfl | rfl | rfl | rfl | rfl <;>
    first
      | exact ⟨0, by decide, .inl rfl⟩
      | exact ⟨82, by decide, .inr ⟨by unfold elemCode; decide, by decide⟩⟩
      | exact ⟨83, by decide, .inr ⟨by unfold elemCode; decide, by decide⟩⟩
      | exact ⟨84, by decide, .inr ⟨by unfold elemCode; decide, by decide⟩⟩
      | exact ⟨85, by decide, .inr ⟨by unfold elemCode; decide, by decide⟩⟩
      | exact ⟨160, by decide, .inr ⟨by unfold elemCode; decide, by decide⟩⟩
      | exact ⟨161, by decide, .inr ⟨by unfold elemCode; decide, by decide⟩⟩
      | exact ⟨163, by decide, .inr ⟨by unfold elemCode; decide, by decide⟩⟩
theorem coded_pos {k : Int} (h : 0 ≤ k ∧ k < 24) : coded k ≠ 0 := by
  rcases kind_cases h with rfl | rfl | rfl | rfl | rfl | rfl | rfl | rfl | rfl | rfl | rfl | rfl | rfl | rfl | rfl | rfl | rfl | rfl | rfl | rfl | rfl | rfl | rfl | rfl <;> decide
def ElForms (k : Int) (l : List V) (fl : FL) : Prop := fl ≠ [] ∧ fl.length ≤ 2 ∧ ∀ p ∈ fl, FormL l p.1 p.2 ∧ p.1 < 256 ∧ elemCode k p.1
structure EOut (k : Int) (l : List V) (f : Nat) (w w' : World) (cb c0 : Nat) (x : Value) (i : Nat) (lo : List Pc) : Prop where
  at_ : FormsAt w' f
  kept : Kept (Only f) w w'
  codes : Blk w' cb 3 #[.int .i64 c0, .int .i64 (coded k)]
  row : PRow (w.heap.size) w' x lo
  all : ∀ p ∈ lo, FormL l p.code p.data ∧ p.code < 256 ∧ elemCode k p.code
  len : lo.length ≤ i
  some_ : i = 2 → lo ≠ []
structure EMid (l : List V) (f : Nat) (w w' : World) (c : Nat) (must : Prop) (d : Value) (j : Nat) (a : Bool) (bs : List UInt8) : Prop where
  at_ : FormsAt w' f
  kept : Kept (Only f) w w'
  row : BRow (w.heap.size) w' d bs
  len : bs.length ≤ sumOf V.inner (l.take j)
  yes : a = true → c ≠ 0 ∧ FormL (l.take j) c bs
  must_ : must → a = true
theorem FormsAt.keep {M : Nat → Prop} {w w' : World} {f : Nat} (h : FormsAt w f) (hk : Kept M w w') (hf : ¬ M f) : FormsAt w' f := by
  obtain ⟨st, sh, hb, h1⟩ := h
  exact ⟨st, sh, hb.kept hk hf, h1⟩
theorem FormsAt.lt {w : World} {f : Nat} (h : FormsAt w f) : f < w.heap.size := by obtain ⟨_, _, hb, _⟩ := h; exact hb.lt
theorem FormsAt.ne {w : World} {f g : Nat} {t : TypeId} {cs : Array Value} (h : FormsAt w f) (hb : Blk w g t cs) (ht : t ≠ 34) : g ≠ f := by
  rintro rfl
  obtain ⟨st, sh, h0, _⟩ := h
  unfold Blk at hb h0
  rw [h0] at hb
  injection hb with hb
  injection hb with _ hb _
  exact ht hb.symm
theorem take_snoc {α : Type} {l : List α} {j : Nat} {v : α} (h : l[j]? = some v) : l.take (j + 1) = l.take j ++ [v] := by
  rw [List.take_add_one, h]; rfl
theorem PRow.apart {base g : Nat} {w : World} {x : Value} {l : List Pc} {t : TypeId} {cs : Array Value} (h : PRow base w x l) (hb : Blk w g t cs) (ht : t ≠ 170) : ¬ OwnB x g := by
  intro hk
  rcases h.own.2 with ⟨rfl, _⟩ | ⟨g', cap, cur, rfl, _, hg, _⟩
  · cases hk
  · have e2 : g' = g := by injection hk
    subst e2
    unfold Blk at hb
    rw [hg] at hb
    injection hb with hb
    injection hb with _ hb _
    exact ht hb.symm
theorem sumOf_take_le {α : Type} (g : α → Nat) (l : List α) (j : Nat) : sumOf g (l.take j) ≤ sumOf g l := by
  have h := sumOf_append g (l.take j) (l.drop j)
  rw [List.take_append_drop] at h
  omega
theorem VAgg.bare {S : Nat → Prop} {w : World} {v : V} {ks ds : Value} (h : VAgg S w (vagg v ks ds) v) : VAgg S w (vagg v.bare ks (.slice none 0 0)) v.bare := by
  obtain ⟨ks', ds', e, hn, h1, h2⟩ := h
  unfold vagg at e
  injection e with e
  injection e with e
  injection e with _ e; injection e with _ e; injection e with _ e; injection e with e3 e
  subst e3
  exact ⟨ks, _, rfl, ⟨hn.kind, hn.num, hn.text, hn.of_⟩, h1, .nil _ _ (by simp [maxLen])⟩
structure EIn (base f : Nat) (w5 w' : World) (v : V) (c : Nat) (fl : FL) (d0 d : Value) (m : Nat) (fb : Bool) (bs bs' : List UInt8) : Prop where
  at_ : FormsAt w' f
  kept : Kept (OwnB d0) w5 w'
  own : ∀ b, OwnB d b → OwnB d0 b ∨ w5.heap.size ≤ b
  row : BRow base w' d bs'
  no : fb = false → bs' = bs ∧ ∀ (m' : Nat) (p : Nat × List UInt8), m' < m → fl[m']? = some p → p.1 ≠ c
  yes : fb = true → ∃ q, bs' = bs ++ q ∧ Form v c q
theorem sumOf_take_succ {α : Type} (g : α → Nat) {l : List α} {j : Nat} {v : α} (h : l[j]? = some v) : sumOf g (l.take (j + 1)) = sumOf g (l.take j) + g v := by
  rw [take_snoc h, sumOf_append]
  simp [sumOf]
theorem EMid.step {l : List V} {f j nf c : Nat} {wo wr w5 w' : World} {must : Prop} {d0 d : Value} {a fb : Bool} {bs bs' : List UInt8} {v : V} {fl : FL} (hm : EMid l f wo wr c must d0 j a bs) (hv : l[j]? = some v) (hF : Forms v.bare fl) (hk5 : Kept (Only f) wr w5)
    (he : EIn wo.heap.size f w5 w' v c fl d0 d nf fb bs bs') (hnf : fl.length = nf) (hmust : must → c = coded v.kind) : EMid l f wo w' c must d (j + 1) (a && fb) bs' := by
  refine ⟨he.at_, (hm.kept.trans' hk5).trans he.kept (fun b hb e => by have := hm.row.own b e; omega), he.row, ?_, fun h => ?_, fun h => ?_⟩
  · rw [sumOf_take_succ _ hv]
    have := hm.len
    cases fb
    · rw [(he.no rfl).1]; omega
    · obtain ⟨q, rfl, hq⟩ := he.yes rfl
      have := hq.len
      rw [List.length_append]
      omega
  · have h1 : a = true ∧ fb = true := by cases a <;> cases fb <;> simp at h ⊢
    obtain ⟨q, rfl, hq⟩ := he.yes h1.2
    have h2 := hm.yes h1.1
    rw [take_snoc hv]
    exact ⟨h2.1, h2.2.snoc hq⟩
  · have ha := hm.must_ h
    cases hfb : fb
    · exfalso
      obtain ⟨dd, hd⟩ := hF.2.1
      obtain ⟨i, hi⟩ := List.mem_iff_getElem?.1 hd
      exact (he.no hfb).2 i _ (by have := (List.getElem?_eq_some_iff.1 hi).1; omega) hi (hmust h).symm
    · rw [ha]; rfl
set_option maxRecDepth 100000 in
set_option maxHeartbeats 12800000 in
theorem elements_ok (k : Int) (l : List V) (f : Nat) (w : World) (s : Value) (hk : 0 ≤ k ∧ k < 24) (hkl : ∀ v ∈ l, v.kind = k) (hn : l.length ≤ 1000) (hroom : sumOf V.inner l ≤ 1073741824) (hf : FormsAt w f) (hs : VSl (fun b => b ≠ f) w s l) (hcd : ∀ W, Calls Tryz.prog 89 #[.int .i64 k] W fun e w' => e = .returned (.int .i64 (coded k)) ∧ Kept Nope W w') (ih : ∀ v ∈ l, PiecesOk v.bare) :
    Calls Tryz.prog 97 #[.pointer (some ⟨f, 0, none⟩), .int .i64 k, s] w (PcPost f w (ElForms k l)) := by
  obtain ⟨c0, hc0, hc0'⟩ := sh_ok hk
  have HC0 := Lib.hid (And.intro hc0 (And.intro hc0' (coded_pos hk)))
  have HCD := Lib.hid hcd
  have HI := Lib.hid (And.intro ih (And.intro hkl hroom))
  have HF := Lib.hid hf
  have HS := Lib.hid hs
  obtain ⟨ps, cs, rfl, _, _⟩ := hs.form
  obtain ⟨n, hnn⟩ : ∃ n, l.length = n := ⟨_, rfl⟩
  have HL := Lib.hid hnn
  rw [hnn] at hn ⊢
  have HM := Lib.hid (show MapAt (w.alloc (.map #[] 0)) w.heap.size (([] : List (Int × Int)).map ip) from MapAt.new w)
  have HK := Lib.hid (Kept.refl (Only w.heap.size) (w.alloc (.map #[] 0)))
  have hmk := fun W => run_makeMap (P := Tryz.prog) 243 W
  clear hc0 hc0' hcd ih hkl hroom hf hs hnn hk
  go_enter Tryz.func97, Tryz.ntmps97
  go_upto_region 3 with (refine wpList_insert_int rfl (.tmp 18) _ _ rfl rfl rfl rfl HM.out (by decide) ?_; intro w2 hm2 hk2; replace HM := Lib.hid hm2; replace HK := Lib.hid (HK.out.trans' hk2); clear hm2 hk2)
  go_cut [25, 26, 27] (fun s25 s26 s27 wx => ∃ cb, s25 = .slice (some ⟨cb, 0, none⟩) 2 2 ∧ s26 = .int .i64 2 ∧ s27 = .int .i64 ((0 : Nat) : Int) ∧ Hid (Blk wx cb 3 #[.int .i64 c0, .int .i64 (coded k)] ∧ Kept Nope w wx))
  case first =>
    have HM' := Lib.hid (show MapAt w2 w.heap.size (shT.map ip) from HM.out)
    have HKW := Lib.hid (k9 HK.out)
    have e0 := HC0.out.1
    clear hmk HM HK
    go_region_held3 (fun w' => Kept Nope w2 w') (first | exact (Kept.refl _ w2).drew | exact ‹Kept Nope w2 _› | exact ‹Kept Nope w2 _›.alloc _ | exact (Kept.refl _ w2).drew.alloc _) (first | (refine upon_look (HM'.out.keep ‹Kept Nope w2 _› (fun h => h)) ?_; go_simp) | (go_at_call 89; refine (HCD.out _).mono ?_; rintro e w3 ⟨rfl, hk3⟩; have hN3 := (‹Kept Nope w2 _›).trans' hk3; clear hk3))
    all_goals
      go_wp2_with fail
      go_meet
      exact ⟨_, rfl, rfl, rfl, Lib.hid ⟨Blk.new _ 3 _, HKW.out.trans' (‹Kept Nope w2 _›.alloc _)⟩⟩
  case rest =>
    obtain ⟨cb, rfl, rfl, rfl, HC⟩ := hcut
    clear hmk HM HK
    go_wp2_with fail
    go_loopw [8, 27] (fun o q w' => ∃ (i : Nat) (lo : List Pc), i ≤ 2 ∧ q = .int .i64 i ∧ Hid (EOut k l f w w' cb c0 o i lo)) (fun _ q _ => 2 - (RowKit.intOf q).toNat)
    case atStart =>
      exact ⟨0, [], by omega, rfl, Lib.hid ⟨HF.out.keep HC.out.2 (fun h => h), HC.out.2.nope, HC.out.1, PRow.nil _ _, (fun p hp => by cases hp), by simp, fun h => by omega⟩⟩
    case round =>
      obtain ⟨i, lo, hi, rfl, HR⟩ := hrel
      obtain ⟨po, co, ho⟩ := HR.out.row.form
      subst ho
      by_cases hi2 : i < 2
      · have hi2' : (i : Int) < 2 := by omega
        have hi0 : (0 : Int) ≤ (i : Int) := by omega
        have e1 : IntKind.i64.wrap ((i : Int) + 1) = (i : Int) + 1 := IntWalk.i64_in _ (by omega)
        obtain ⟨c, hc, hc1, hc2⟩ : ∃ c : Nat, wr.cell? ⟨cb, i, none⟩ = some (.int .i64 c) ∧ (c = 0 ∨ elemCode k c ∧ c < 256) ∧ (i = 1 → c = coded k) := by
          rcases (show i = 0 ∨ i = 1 by omega) with rfl | rfl
          · exact ⟨c0, HR.out.codes.cell 0, HC0.out.2.1, fun h => by omega⟩
          · exact ⟨coded k, HR.out.codes.cell 1, .inr ⟨.inl rfl, coded_lt k⟩, fun _ => rfl⟩
        have HCC := Lib.hid (And.intro hc1 hc2)
        clear hc1 hc2
        go_wp2
        obtain ⟨wo, rfl⟩ : ∃ wo : World, wo = wr := ⟨_, rfl⟩
        go_loopw [11, 12, 35] (fun d al q w' => ∃ (j : Nat) (a : Bool) (bs : List UInt8), j ≤ n ∧ q = .int .i64 j ∧ al = .bool a ∧ Hid (EMid l f wo w' c (i = 1) d j a bs)) (fun _ _ q _ => n - (RowKit.intOf q).toNat)
        case atStart => exact ⟨0, (c : Int) != 0, [], by omega, rfl, rfl, Lib.hid ⟨HR.out.at_, Kept.refl _ _, BRow.nil _ _, by simp, fun h => ⟨by simpa using h, .nil⟩, fun h => by rw [HCC.out.2 h]; have := HC0.out.2.2; simpa using this⟩⟩
        case round =>
          obtain ⟨j, a, bs, hj, rfl, rfl, HJ⟩ := hrel
          obtain ⟨pd, cd, hd⟩ := HJ.out.row.form
          subst hd
          by_cases hjn : j < n
          · have hjn' : (j : Int) < (n : Int) := by omega
            have hj0 : (0 : Int) ≤ (j : Int) := by omega
            have e2 : IntKind.i64.wrap ((j : Int) + 1) = (j : Int) + 1 := IntWalk.i64_in _ (by omega)
            obtain ⟨v, hv⟩ : ∃ u, l[j]? = some u := ⟨l[j]'(by rw [HL.out]; exact hjn), List.getElem?_eq_getElem _⟩
            have hkw := Lib.hid (HR.out.kept.trans' HJ.out.kept)
            obtain ⟨b1, off1, cap1, pk, ck, pd1, cd1, q1, hvx, y0, y1, y2, y3, y4, y5⟩ := (HS.out.keep hkw.out (fun b _ hb e => hb e)).sixS hv
            rw [HL.out] at q1
            injection q1 with q1 _ q1'
            subst q1 q1'
            have HV := Lib.hid (And.intro hv hvx)
            have hvm := List.mem_of_getElem? hv
            have HVM := Lib.hid hvm
            have hdl : ∀ b, OwnB (.slice pd bs.length cd) b → wo.heap.size ≤ b ∧ b < wr.heap.size := fun b hb => HJ.out.row.lt b hb
            have HDL := Lib.hid hdl
            clear hv hvx hvm hdl
            go_wp2_with (go_at_call 59; go_must (refine (HI.out.1 v HVM.out _ f _ (HJ.out.at_.keep ((Kept.refl Nope wr).alloc _) (fun h => h)) ((VAgg.bare HV.out.2).keep ((Kept.refl Nope wr).alloc _) (fun _ _ _ h => h))).mono ?_; rintro e w5 ⟨x5, fl, rfl, hps, hfo, hat, hk5⟩; obtain ⟨p5, c5, rfl, hl5, hm5⟩ := hps.form; have H5 := Lib.hid (And.intro hps (And.intro hfo (And.intro hat (((Kept.refl Nope wr).alloc _).nope.trans' hk5)))); have hs5 := hk5.size; rw [World.size_alloc] at hs5; have HS5 := Lib.hid hs5; clear hps hfo hat hk5 hs5))
            obtain ⟨nf, hnf⟩ : ∃ m, fl.length = m := ⟨_, rfl⟩
            have HNF := Lib.hid hnf
            rw [hnf] at hl5 ⊢
            have h13 := H5.out.2.1.2.2
            rw [hnf] at h13
            clear hnf hm5 y0 y1 y2 y3 y4 y5
            go_loopw [11, 15, 44] (fun d fo q w' => ∃ (m : Nat) (fb : Bool) (bs' : List UInt8), m ≤ nf ∧ q = .int .i64 m ∧ fo = .bool fb ∧ Hid (EIn wo.heap.size f w5 w' v c fl (.slice pd bs.length cd) d m fb bs bs')) (fun _ _ q _ => nf - (RowKit.intOf q).toNat)
            case atStart => exact ⟨0, false, bs, by omega, rfl, rfl, Lib.hid ⟨H5.out.2.2.1, Kept.refl _ _, fun b hb => .inl hb, HJ.out.row.keep H5.out.2.2.2 (fun b hb e => by have e' : b = f := e; have := HR.out.at_.lt; omega), fun _ => ⟨rfl, fun m' p h => by omega⟩, fun h => by cases h⟩⟩
            case round =>
              obtain ⟨m, fb, bs', hm, rfl, rfl, HE⟩ := hrel
              obtain ⟨pe, ce, he⟩ := HE.out.row.form
              subst he
              have HPS := Lib.hid (H5.out.1.keep HE.out.kept (fun b hb e => by have := (HDL.out b e).2; have := World.size_alloc wr (.cells #[] 0); rw [World.size_alloc] at hb; omega))
              by_cases hmn : m < nf
              · have hmn' : (m : Int) < (nf : Int) := by omega
                have hm0 : (0 : Int) ≤ (m : Int) := by omega
                have e3 : IntKind.i64.wrap ((m : Int) + 1) = (m : Int) + 1 := IntWalk.i64_in _ (by omega)
                obtain ⟨⟨pc, dc⟩, hp⟩ : ∃ u, fl[m]? = some u := ⟨fl[m]'(by rw [HNF.out]; exact hmn), List.getElem?_eq_getElem _⟩
                obtain ⟨g, cap, ac, nc, kc, q2, _, _, z0, z1, hbs⟩ := HPS.out.at_ hp
                rw [HNF.out] at q2
                injection q2 with q2 _ q2'
                subst q2 q2'
                have HP := Lib.hid (And.intro hp hbs)
                clear hp hbs
                have hfm : Form v pc dc := Form.undesc (H5.out.2.1.1 _ (List.mem_of_getElem? HP.out.1)).1
                have HFM := Lib.hid hfm
                have HLE : Hid (bs.length + dc.length ≤ 1073741824) := Lib.hid (by
                  have h1 := HJ.out.len
                  have h2 := sumOf_take_succ V.inner HV.out.1
                  have h3 := sumOf_take_le V.inner l (j + 1)
                  have h4 := HI.out.2.2
                  have h5 := hfm.len
                  omega)
                clear hfm
                by_cases hpc : pc = c
                · subst hpc
                  cases fb
                  · have HNO := Lib.hid (HE.out.no rfl)
                    go_wp2_with (at_builtin; go_must (refine wpList_app_b _ (.tmp 56) (.tmp 58) rfl rfl wo.heap.size _ _ rfl (HE.out.row.nope ((Kept.refl _ _).alloc _)) _ _ _ rfl (HP.out.2.keep ((Kept.refl Nope _).alloc _) (fun _ _ _ h => h)) (by have := HLE.out; have h := HNO.out.1; rw [h]; omega) (by have h1 := HJ.out.kept.size; have h2 := H5.out.2.2.2.size; have h3 := HE.out.kept.size; rw [World.size_alloc]; omega) ?_; intro p6 c6 w6 ha6; have H6 := Lib.hid ha6; clear ha6))
                    go_roundw
                    case rel =>
                      have hk6 : Kept (OwnB (.slice pd bs.length cd)) _ _ := (HE.out.kept.alloc (.cells #[.int .i64 pc, .slice ac nc kc] 170)).trans H6.out.2.1 (fun b hb e => (HE.out.own b e).elim id (fun h => by omega))
                      refine ⟨m + 1, true, bs' ++ dc, by omega, by go_num, rfl, Lib.hid ⟨H5.out.2.2.1.keep hk6 (fun e => by have h1 := (HDL.out _ e).1; have h2 := HR.out.at_.lt; omega), hk6, fun b hb => ?_, H6.out.1, fun h => (by cases h), fun _ => ⟨dc, by rw [HNO.out.1], HFM.out⟩⟩⟩
                      have h3 := HE.out.kept.size
                      rcases H6.out.2.2 with e | e
                      · exact HE.out.own b (e.symm.trans hb)
                      · have e2 := e.symm.trans hb
                        injection e2 with e2
                        rw [World.size_alloc] at e2
                        exact .inr (by omega)
                    case measure => simp [RowKit.intOf]; omega
                  · have HYE := Lib.hid (HE.out.yes rfl)
                    go_wp2
                    go_roundw
                    case rel => exact ⟨m + 1, true, bs', by omega, by go_num, rfl, Lib.hid ⟨HE.out.at_.keep ((Kept.refl Nope _).alloc _) (fun h => h), HE.out.kept.alloc _, HE.out.own, HE.out.row.nope ((Kept.refl _ _).alloc _), (fun h => by cases h), fun _ => HYE.out⟩⟩
                    case measure => simp [RowKit.intOf]; omega
                · have hpc' : ((pc : Int) == (c : Int)) = false := by simpa using (by omega : ¬ (pc : Int) = (c : Int))
                  have HPC := Lib.hid hpc
                  clear hpc
                  go_wp2
                  go_roundw
                  case rel =>
                    refine ⟨m + 1, fb, bs', by omega, by go_num, rfl, Lib.hid ⟨HE.out.at_.keep ((Kept.refl Nope _).alloc _) (fun h => h), HE.out.kept.alloc _, HE.out.own, HE.out.row.nope ((Kept.refl _ _).alloc _), fun h => ⟨(HE.out.no h).1, fun m' p hm' hp' => ?_⟩, HE.out.yes⟩⟩
                    rcases Nat.lt_or_ge m' m with h1 | h1
                    · exact (HE.out.no h).2 m' p h1 hp'
                    · obtain rfl : m' = m := by omega
                      have h2 := HP.out.1
                      rw [hp'] at h2
                      cases h2
                      exact HPC.out
                  case measure => simp [RowKit.intOf]; omega
              · obtain rfl : m = nf := by omega
                have hlt : ¬ (m : Int) < (m : Int) := by omega
                have hst := HJ.out.step HV.out.1 H5.out.2.1 H5.out.2.2.2 HE.out HNF.out (fun h => by rw [HI.out.2.1 v HVM.out]; exact HCC.out.2 h)
                have HST := Lib.hid hst
                clear hst
                cases a <;> cases fb
                all_goals
                  go_wp2
                  go_roundw
                  case rel => exact ⟨j + 1, _, bs', by omega, by go_num, rfl, HST⟩
                  case measure => simp [RowKit.intOf]; omega
          · obtain rfl : j = n := by omega
            have hlt : ¬ (j : Int) < (j : Int) := by omega
            have HTK := Lib.hid (show l.take j = l from List.take_of_length_le (by rw [HL.out]; exact Nat.le_refl _))
            cases a
            · go_wp2
              go_roundw
              case rel => exact ⟨i + 1, lo, by omega, by go_num, Lib.hid ⟨HJ.out.at_, HR.out.kept.trans' HJ.out.kept, HR.out.codes.kept HJ.out.kept (fun e => HR.out.at_.ne HR.out.codes (by decide) e), HR.out.row.keep HJ.out.kept (fun b hb e => by have e' : b = f := e; have := HF.out.lt; omega), HR.out.all, Nat.le_succ_of_le HR.out.len, fun h => by have := HJ.out.must_ (by omega); cases this⟩⟩
              case measure => simp [RowKit.intOf]; omega
            · have HY := Lib.hid (HJ.out.yes rfl)
              go_wp2_with (at_builtin; go_must (refine wpList_app_p _ (.tmp 67) (.tmp 71) rfl rfl w.heap.size _ lo rfl (HR.out.row.keep (HJ.out.kept.alloc _) (fun b hb e => by have e' : b = f := e; have := HF.out.lt; omega)) Any_ _ [⟨c, bs, .slice pd _ cd⟩] rfl (CSl.one_piece (W := wr) _) (one_ok HJ.out.row HR.out.kept.size (fun b hb => (HR.out.row.own.lt b hb).2)) (by have := HR.out.len; simp <;> omega) (by have h1 := HR.out.kept.size; have h2 := HJ.out.kept.size; rw [World.size_alloc]; omega) ?_; intro p7 c7 w7 ha7; have H7 := Lib.hid ha7; clear ha7))
              go_roundw
              case rel =>
                have hkp := ((HR.out.kept.trans' HJ.out.kept).alloc (.cells #[.int .i64 c, .slice pd bs.length cd] 170)).trans H7.out.2 (fun b hb e => by have := (HR.out.row.own.lt b e).1; omega)
                refine ⟨i + 1, _, by omega, by go_num, Lib.hid ⟨(HJ.out.at_.keep ((Kept.refl Nope _).alloc _) (fun h => h)).keep H7.out.2 (fun e => by have := (HR.out.row.own.lt _ e).1; have := HF.out.lt; omega), hkp, ?_, H7.out.1, fun p hp => ?_, by have := HR.out.len; simp <;> omega, fun _ => by simp⟩⟩
                · have hr7 := HR.out.row.keep (HJ.out.kept.alloc (.cells #[.int .i64 c, .slice pd bs.length cd] 170)) (fun b hb e => by have e' : b = f := e; have := HF.out.lt; omega)
                  have hb7 := (HR.out.codes.kept HJ.out.kept (fun e => HR.out.at_.ne HR.out.codes (by decide) e)).alloc (.cells #[.int .i64 c, .slice pd bs.length cd] 170)
                  exact hb7.kept H7.out.2 (hr7.apart hb7 (by decide))
                · rcases List.mem_append.1 hp with h | h
                  · exact HR.out.all p h
                  · rw [List.mem_singleton.1 h]
                    have h2 := HY.out
                    rw [HTK.out] at h2
                    rcases HCC.out.1 with h3 | h3
                    · exact absurd h3 h2.1
                    · exact ⟨h2.2, h3.2, h3.1⟩
              case measure => simp [RowKit.intOf]; omega
      · obtain rfl : i = 2 := by omega
        go_wp2
        go_ret
        exact ⟨_, lo.map Pc.form, rfl, ⟨lo, HR.out.row, rfl⟩, ⟨fun h => HR.out.some_ rfl (by simpa using h), by simpa using HR.out.len, fun p hp => by obtain ⟨q, hq, rfl⟩ := List.mem_map.1 hp; exact HR.out.all q hq⟩, HR.out.at_, HR.out.kept⟩
end Go.Proofs.YtbckofjoancdjaaGreatDoor
namespace Go.Proofs.YtbckofjoancdjaaGreatDoor
open Go Go.RowKit Go.Lib
def PutPost (f : Nat) (w : World) (v : V) : Ending → World → Prop := fun e w' => ∃ x bs, e = .returned x ∧ BRow w.heap.size w' x bs ∧ Enc v bs ∧ FormsAt w' f ∧ Kept (Only f) w w'
def PutOk (v : V) : Prop := ∀ (W : World) (f : Nat) (x : Value), FormsAt W f → VAgg (fun b => b ≠ f) W x v → Calls Tryz.prog 27 #[x, .pointer (some ⟨f, 0, none⟩)] W (PutPost f W v)
theorem coded_at {k : Int} (h : 0 ≤ k ∧ k < 24) (W : World) : Calls Tryz.prog 89 #[.int .i64 k] W fun e w' => e = .returned (.int .i64 (coded k)) ∧ Kept Nope W w' := by
  have := coded_ok k W
  rwa [coded_look h] at this
theorem u8_ofNat {c : Nat} (h : c < 256) : u8 (UInt8.ofNat c) = .int .u8 c := by
  unfold u8
  congr 1
  simp
  omega
theorem BRow.lit1 {base : Nat} {w : World} {c : Nat} {g : Nat} (hg : w.heap.size = g) (hb : base ≤ w.heap.size) (hc : c < 256) : BRow base (w.alloc (.cells #[.int .u8 c] 5)) (.slice (some ⟨g, 0, none⟩) 1 1) [UInt8.ofNat c] := by
  subst hg
  have h := BRow.lit (base := base) (w := w) [UInt8.ofNat c] hb (by simp [maxLen])
  simpa [u8_ofNat hc] using h
theorem PSl.form1 {base : Nat} {w : World} {x : Value} {fl : FL} (h : PSl base w x fl) (hne : fl ≠ []) : ∃ g c, x = .slice (some ⟨g, 0, none⟩) fl.length c ∧ fl.length ≤ c ∧ c ≤ maxLen := by
  obtain ⟨u, hu⟩ : ∃ u, fl[0]? = some u := ⟨fl[0]'(List.length_pos_iff.2 hne), List.getElem?_eq_getElem _⟩
  obtain ⟨g, cap, a, n, k, e, h1, h2, _⟩ := h.at_ (c := u.1) (d := u.2) hu
  exact ⟨g, cap, e, h1, h2⟩
theorem PSl.get {base g n c : Nat} {w : World} {fl : FL} (h : PSl base w (.slice (some ⟨g, 0, none⟩) n c) fl) {i cc : Nat} {d : List UInt8} (hi : fl[i]? = some (cc, d)) :
    ∃ a m k, w.cell? ⟨g, i * 2, none⟩ = some (.int .i64 cc) ∧ w.cell? ⟨g, i * 2 + 1, none⟩ = some (.slice a m k) ∧ BSl (fun b => base ≤ b) w (.slice a m k) d := by
  obtain ⟨g', cap, a, m, k, e, _, _, h1, h2, h3⟩ := h.at_ hi
  injection e with e
  injection e with e
  injection e with e
  subst e
  exact ⟨a, m, k, h1, h2, h3⟩
set_option maxRecDepth 100000 in
set_option maxHeartbeats 6400000 in
theorem array_nil (v : V) (f : Nat) (w : World) (x : Value) (h23 : v.kind = 23) (hnil : v.kids = []) (hfi : Fits v) (hf : FormsAt w f) (hx : VAgg (fun b => b ≠ f) w x v) :
    Calls Tryz.prog 91 #[.pointer (some ⟨f, 0, none⟩), x] w (PcPost f w (Forms v)) := by
  have ho := (hfi.content.arr h23).1 hnil
  obtain ⟨ks, ds, rfl, hn, hks, hds⟩ := hx
  rw [hnil] at hks
  have HKS := Lib.hid hks
  obtain ⟨pk, ck, rfl, _⟩ := hks.form
  obtain ⟨pd, cd, rfl, _⟩ := hds.form
  have HF := Lib.hid hf
  have HV := Lib.hid (And.intro h23 hnil)
  have HO := Lib.hid ho
  have HRM := Lib.hid (show sumOf V.inner ([] : List V) ≤ 1000000000 by simp [sumOf])
  clear hks hds hn hf h23 hnil hfi ho
  unfold vagg
  obtain ⟨of_, hof⟩ : ∃ k, v.of_ = k := ⟨_, rfl⟩
  have HOF := Lib.hid hof
  rw [hof] at HO ⊢
  clear hof
  simp only [List.length_nil]
  go_enter Tryz.func91, Tryz.ntmps91
  go_wp2_with (first | (go_at_call 97; go_must (refine (elements_ok of_ [] f _ _ HO.out (fun v hv => by cases hv) (by simp) (by simp [sumOf]) (HF.out.keep ((Kept.refl Nope w).alloc _) (fun h => h)) (HKS.out.keep ((Kept.refl Nope w).alloc _) (fun _ _ _ h => h)) (fun W => coded_at HO.out W) (fun v hv => by cases hv)).mono ?_; rintro e w2 ⟨x2, fl, rfl, hps, hel, hat, hk2⟩; obtain ⟨g2, c2, rfl, hl2, hm2⟩ := hps.form1 hel.1; have hne : 0 < fl.length := List.length_pos_iff.2 hel.1; obtain ⟨m, hm⟩ : ∃ m, fl.length = m := ⟨_, rfl⟩; have h13 := hel.2.1; rw [hm] at hl2 hne h13 ⊢; have HM := Lib.hid hm; have HA := Lib.hid ((Blk.new w 92 _).kept hk2 (fun e => by have e' : w.heap.size = f := e; have := HF.out.lt; omega)); have H2 := Lib.hid (And.intro hps (And.intro hel (And.intro hat (((Kept.refl Nope w).alloc _).nope.trans' hk2)))); clear hps hel hat hk2 hm hm2)) | (go_at_call 25; go_must (refine (pick_ok f m _ H2.out.2.2.1 (by omega) (by omega)).mono ?_; rintro e w3 ⟨i, hi, rfl, hat3, hk3⟩; obtain ⟨⟨pc, pdt⟩, hp⟩ : ∃ u, fl[i]? = some u := ⟨fl[i]'(by rw [HM.out]; exact hi), List.getElem?_eq_getElem _⟩; obtain ⟨a3, n3, k3, z0, z1, hb3⟩ := (H2.out.1.keep hk3 (fun b hb e => by have e' : b = f := e; have := HF.out.lt; rw [World.size_alloc] at hb; omega)).get hp; have hpq := H2.out.2.1.2.2 _ (List.mem_of_getElem? hp); have hi' : (i : Int) < (m : Int) := (by omega); have hi0 : (0 : Int) ≤ (i : Int) := (by omega); have hpc : (pc : Int) < 256 := (by have := hpq.2.1; omega); have hwp : IntKind.u8.wrap (pc : Int) = (pc : Int) := (by have h8 : IntKind.u8.wrap (pc : Int) = (pc : Int) % 256 := rfl; rw [h8]; omega); have HA3 := Lib.hid (HA.out.kept hk3 (fun e => by have e' : w.heap.size = f := e; have := HF.out.lt; omega)); have HL1 := Lib.hid (BRow.lit1 (base := w3.heap.size) (w := w3.alloc (.cells #[.int .i64 pc, .slice a3 n3 k3] 170)) (c := pc) (g := w3.heap.size + 1) (by rw [World.size_alloc]) (by rw [World.size_alloc]; omega) hpq.2.1); have H3 := Lib.hid (And.intro hb3 (And.intro hpq (And.intro hat3 (H2.out.2.2.2.trans' hk3)))); clear hb3 hpq hat3 hk3 hp)) | (at_builtin; go_must (refine wpList_app_b _ (.tmp 35) (.tmp 37) rfl rfl w3.heap.size _ _ rfl HL1.out _ _ _ rfl (H3.out.1.keep (((Kept.refl Nope w3).alloc _).alloc _) (fun _ _ _ h => h)) (by have := H3.out.2.1.1.len; have := HRM.out; simp <;> omega) (by rw [World.size_alloc, World.size_alloc]; omega) ?_; intro p4 c4 w4 ha4; have hN4 := (((Kept.refl Nope w3).alloc _).alloc _).trans ha4.2.1 (fun b hb e => by have := HL1.out.own b e; omega); have HA4 := Lib.hid (HA3.out.kept hN4 (fun h => h)); have q3 := HA4.out.cell 3; simp only [List.getElem?_toArray, List.getElem?_cons_zero, List.getElem?_cons_succ] at q3; have H4 := Lib.hid (And.intro ha4.1 hN4); clear ha4 hN4)) | (go_at_call 90; go_must (refine (lengthed_ok 0xe0 0xf0 _ ([UInt8.ofNat pc] ++ pdt) 0 _ (H4.out.1.bsl.mono fun _ _ _ => trivial) (by have := H3.out.2.1.1.len; have := HRM.out; simp <;> omega) (.inr ⟨by omega, by omega⟩)).mono ?_; rintro e w9 ⟨x9, rfl, hps9, hk9⟩; obtain ⟨p9, c9, rfl, _⟩ := hps9.form; have H9 := Lib.hid (And.intro hps9 (H4.out.2.trans' hk9)); clear hps9 hk9)))
  go_ret
  refine ⟨_, lenForms 0xe0 0xf0 ([UInt8.ofNat pc] ++ pdt) 0, rfl, H9.out.1.mono ?_, (by have h := Forms.arr (v := v) (d := UInt8.ofNat pc :: pdt) HV.out.1 (.plain (fun k hk => by rw [HV.out.2] at hk; cases hk) H3.out.2.1.2.1 (fun k hk => by rw [HV.out.2] at hk; cases hk) (by rw [HV.out.2]; exact H3.out.2.1.1)); rw [HV.out.2] at h; exact h), H3.out.2.2.1.keep H9.out.2 (fun h => h), H3.out.2.2.2.trans' H9.out.2.nope⟩
  have h1 := H3.out.2.2.2.size
  have h2 := H4.out.2.size
  omega
set_option maxRecDepth 100000 in
set_option maxHeartbeats 6400000 in
theorem array_plain (v k0 : V) (f : Nat) (w : World) (x : Value) (h23 : v.kind = 23) (h0 : v.kids[0]? = some k0) (hd0 : k0.desc = []) (hfi : Fits v) (hroom : v.room ≤ 1000000000) (hf : FormsAt w f) (hx : VAgg (fun b => b ≠ f) w x v) (ih : ∀ k ∈ v.kids, PiecesOk k.bare) :
    Calls Tryz.prog 91 #[.pointer (some ⟨f, 0, none⟩), x] w (PcPost f w (Forms v)) := by
  have hall := (hfi.content.arr h23).2 k0 h0
  have hm0 := List.mem_of_getElem? h0
  have hkk := (hfi.kid hm0).own.kind
  have hr := v.room_eq
  have hir := inner_le_room v.kids
  have HRM := Lib.hid (show sumOf V.inner v.kids ≤ 1000000000 by omega)
  have HALL := Lib.hid (And.intro hall (And.intro hkk (And.intro hfi.own.few (And.intro ih (And.intro h23 (And.intro h0 hd0))))))
  obtain ⟨ks, ds, rfl, hn, hks, hds⟩ := hx
  have HKS := Lib.hid hks
  obtain ⟨b1, off1, cap1, ks1, ds1, e1, hb1, hc1, hm1, _, y0, y1, y2, y3, y4, y5, hk1, hd1⟩ := hks.at_ h0
  subst e1
  obtain ⟨pd, cd, rfl, _⟩ := hds.form
  obtain ⟨pd1, cd1, rfl, _⟩ := hd1.form
  rw [hd0] at y5
  simp only [List.length_nil] at y5
  simp only [Nat.zero_mul, Nat.add_zero] at y0 y5
  have HF := Lib.hid hf
  have HY := Lib.hid (And.intro y0 (And.intro y5 hb1))
  have y0a : ∀ o, (w.alloc o).cell? ⟨b1, off1, none⟩ = some (.int .i64 k0.kind) := fun o => ((Kept.refl Nope w).alloc o).cell y0 (fun h => h)
  have hpos : 0 < v.kids.length := (List.getElem?_eq_some_iff.1 h0).1
  obtain ⟨n, hnn⟩ : ∃ n, v.kids.length = n := ⟨_, rfl⟩
  have hfew := hfi.own.few
  rw [hnn] at hpos hfew hc1
  have HL := Lib.hid hnn
  unfold maxLen at hm1
  have hpos' : (0 : Int) < (n : Int) := by omega
  clear hks hds hn hf h23 h0 hfi hall hm0 hkk hr hir ih hd0 hroom y0 y1 y2 y3 y4 y5 hk1 hd1 hb1
  unfold vagg
  rw [hnn]
  clear hnn
  go_enter Tryz.func91, Tryz.ntmps91
  go_wp2_with (first | (go_at_call 97; go_must (refine (elements_ok k0.kind v.kids f _ _ HALL.out.2.1 (fun k hk => (HALL.out.1 k hk).1) HALL.out.2.2.1 (by have := HRM.out; omega) (HF.out.keep ((Kept.refl Nope w).alloc _) (fun h => h)) (HL.out ▸ HKS.out.keep ((Kept.refl Nope w).alloc _) (fun _ _ _ h => h)) (fun W => coded_at HALL.out.2.1 W) HALL.out.2.2.2.1).mono ?_; rintro e w2 ⟨x2, fl, rfl, hps, hel, hat, hk2⟩; obtain ⟨g2, c2, rfl, hl2, hm2⟩ := hps.form1 hel.1; have hne : 0 < fl.length := List.length_pos_iff.2 hel.1; obtain ⟨m, hm⟩ : ∃ m, fl.length = m := ⟨_, rfl⟩; have h13 := hel.2.1; rw [hm] at hl2 hne h13 ⊢; have HM := Lib.hid hm; have HA := Lib.hid ((Blk.new w 92 _).kept hk2 (fun e => by have e' : w.heap.size = f := e; have := HF.out.lt; omega)); have H2 := Lib.hid (And.intro hps (And.intro hel (And.intro hat (((Kept.refl Nope w).alloc _).nope.trans' hk2)))); clear hps hel hat hk2 hm hm2)) | (go_at_call 25; go_must (refine (pick_ok f m _ H2.out.2.2.1 (by omega) (by omega)).mono ?_; rintro e w3 ⟨i, hi, rfl, hat3, hk3⟩; obtain ⟨⟨pc, pdt⟩, hp⟩ : ∃ u, fl[i]? = some u := ⟨fl[i]'(by rw [HM.out]; exact hi), List.getElem?_eq_getElem _⟩; obtain ⟨a3, n3, k3, z0, z1, hb3⟩ := (H2.out.1.keep hk3 (fun b hb e => by have e' : b = f := e; have := HF.out.lt; rw [World.size_alloc] at hb; omega)).get hp; have hpq := H2.out.2.1.2.2 _ (List.mem_of_getElem? hp); have hi' : (i : Int) < (m : Int) := (by omega); have hi0 : (0 : Int) ≤ (i : Int) := (by omega); have hpc : (pc : Int) < 256 := (by have := hpq.2.1; omega); have hwp : IntKind.u8.wrap (pc : Int) = (pc : Int) := (by have h8 : IntKind.u8.wrap (pc : Int) = (pc : Int) % 256 := rfl; rw [h8]; omega); have HA3 := Lib.hid (HA.out.kept hk3 (fun e => by have e' : w.heap.size = f := e; have := HF.out.lt; omega)); have HL1 := Lib.hid (BRow.lit1 (base := w3.heap.size) (w := w3.alloc (.cells #[.int .i64 pc, .slice a3 n3 k3] 170)) (c := pc) (g := w3.heap.size + 1) (by rw [World.size_alloc]) (by rw [World.size_alloc]; omega) hpq.2.1); have H3 := Lib.hid (And.intro hb3 (And.intro hpq (And.intro hat3 (H2.out.2.2.2.trans' hk3)))); clear hb3 hpq hat3 hk3 hp)) | (at_builtin; go_must (refine wpList_app_b _ (.tmp 35) (.tmp 37) rfl rfl w3.heap.size _ _ rfl HL1.out _ _ _ rfl (H3.out.1.keep (((Kept.refl Nope w3).alloc _).alloc _) (fun _ _ _ h => h)) (by have := H3.out.2.1.1.len; have := HRM.out; simp <;> omega) (by rw [World.size_alloc, World.size_alloc]; omega) ?_; intro p4 c4 w4 ha4; have hN4 := (((Kept.refl Nope w3).alloc _).alloc _).trans ha4.2.1 (fun b hb e => by have := HL1.out.own b e; omega); have HA4 := Lib.hid (HA3.out.kept hN4 (fun h => h)); have q3 := HA4.out.cell 3; simp only [List.getElem?_toArray, List.getElem?_cons_zero, List.getElem?_cons_succ] at q3; have k5 := (H3.out.2.2.2.trans' hN4.nope).cell HY.out.2.1 (fun e => HY.out.2.2 e); have H4 := Lib.hid (And.intro ha4.1 hN4); clear ha4 hN4)) | (go_at_call 90; go_must (refine (lengthed_ok 0xe0 0xf0 _ ([UInt8.ofNat pc] ++ pdt) n _ (H4.out.1.bsl.mono fun _ _ _ => trivial) (by have := H3.out.2.1.1.len; have := HRM.out; simp <;> omega) (.inr ⟨by omega, by omega⟩)).mono ?_; rintro e w9 ⟨x9, rfl, hps9, hk9⟩; obtain ⟨p9, c9, rfl, _⟩ := hps9.form; have H9 := Lib.hid (And.intro hps9 (H4.out.2.trans' hk9)); clear hps9 hk9)))
  go_ret
  refine ⟨_, lenForms 0xe0 0xf0 ([UInt8.ofNat pc] ++ pdt) n, rfl, H9.out.1.mono ?_, (by have h := Forms.arr (v := v) (d := UInt8.ofNat pc :: pdt) HALL.out.2.2.2.2.1 (.plain (fun k hk => by have h1 := HALL.out.2.2.2.2.2.1; rw [h1] at hk; cases hk; exact HALL.out.2.2.2.2.2.2) H3.out.2.1.2.1 (fun k hk => by rw [(HALL.out.1 k hk).1]; exact H3.out.2.1.2.2) H3.out.2.1.1); rw [HL.out] at h; exact h), H3.out.2.2.1.keep H9.out.2 (fun h => h), H3.out.2.2.2.trans' H9.out.2.nope⟩
  have h1 := H3.out.2.2.2.size
  have h2 := H4.out.2.size
  omega
set_option maxRecDepth 100000 in
set_option maxHeartbeats 6400000 in
theorem array_desc (v k0 : V) (dd : V) (f : Nat) (w : World) (x : Value) (h23 : v.kind = 23) (h0 : v.kids[0]? = some k0) (hd0 : k0.desc = [dd]) (hfi : Fits v) (hroom : v.room ≤ 1000000000) (hf : FormsAt w f) (hx : VAgg (fun b => b ≠ f) w x v) (ih : ∀ k ∈ v.kids, PiecesOk k.bare) (ihd : PutOk dd) (hrd : dd.room ≤ 1000000) :
    Calls Tryz.prog 91 #[.pointer (some ⟨f, 0, none⟩), x] w (PcPost f w (Forms v)) := by
  have hall := (hfi.content.arr h23).2 k0 h0
  have hm0 := List.mem_of_getElem? h0
  have hkk := (hfi.kid hm0).own.kind
  have hr := v.room_eq
  have hir := inner_le_room v.kids
  have HRM := Lib.hid (show sumOf V.inner v.kids ≤ 1000000000 by omega)
  have HALL := Lib.hid (And.intro hall (And.intro hkk (And.intro hfi.own.few (And.intro ih (And.intro h23 (And.intro h0 hd0))))))
  obtain ⟨ks, ds, rfl, hn, hks, hds⟩ := hx
  have HKS := Lib.hid hks
  obtain ⟨b1, off1, cap1, ks1, ds1, e1, hb1, hc1, hm1, _, y0, y1, y2, y3, y4, y5, hk1, hd1⟩ := hks.at_ h0
  subst e1
  obtain ⟨pd, cd, rfl, _⟩ := hds.form
  rw [hd0] at hd1
  have HD1 := Lib.hid hd1
  obtain ⟨pd1, cd1, rfl, _⟩ := hd1.form
  simp only [List.length_cons, List.length_nil, Nat.zero_add] at y5
  have HIHD := Lib.hid (And.intro ihd hrd)
  clear ihd hrd
  simp only [Nat.zero_mul, Nat.add_zero] at y0 y5
  have HF := Lib.hid hf
  have HY := Lib.hid (And.intro y0 (And.intro y5 hb1))
  have y0a : ∀ o, (w.alloc o).cell? ⟨b1, off1, none⟩ = some (.int .i64 k0.kind) := fun o => ((Kept.refl Nope w).alloc o).cell y0 (fun h => h)
  have hpos : 0 < v.kids.length := (List.getElem?_eq_some_iff.1 h0).1
  obtain ⟨n, hnn⟩ : ∃ n, v.kids.length = n := ⟨_, rfl⟩
  have hfew := hfi.own.few
  rw [hnn] at hpos hfew hc1
  have HL := Lib.hid hnn
  unfold maxLen at hm1
  have hpos' : (0 : Int) < (n : Int) := by omega
  clear hks hds hn hf h23 h0 hfi hall hm0 hkk hr hir ih hd0 hroom y0 y1 y2 y3 y4 y5 hk1 hd1 hb1
  unfold vagg
  rw [hnn]
  clear hnn
  go_enter Tryz.func91, Tryz.ntmps91
  go_wp2_with (first | (go_at_call 97; go_must (refine (elements_ok k0.kind v.kids f _ _ HALL.out.2.1 (fun k hk => (HALL.out.1 k hk).1) HALL.out.2.2.1 (by have := HRM.out; omega) (HF.out.keep ((Kept.refl Nope w).alloc _) (fun h => h)) (HL.out ▸ HKS.out.keep ((Kept.refl Nope w).alloc _) (fun _ _ _ h => h)) (fun W => coded_at HALL.out.2.1 W) HALL.out.2.2.2.1).mono ?_; rintro e w2 ⟨x2, fl, rfl, hps, hel, hat, hk2⟩; obtain ⟨g2, c2, rfl, hl2, hm2⟩ := hps.form1 hel.1; have hne : 0 < fl.length := List.length_pos_iff.2 hel.1; obtain ⟨m, hm⟩ : ∃ m, fl.length = m := ⟨_, rfl⟩; have h13 := hel.2.1; rw [hm] at hl2 hne h13 ⊢; have HM := Lib.hid hm; have HA := Lib.hid ((Blk.new w 92 _).kept hk2 (fun e => by have e' : w.heap.size = f := e; have := HF.out.lt; omega)); have H2 := Lib.hid (And.intro hps (And.intro hel (And.intro hat (((Kept.refl Nope w).alloc _).nope.trans' hk2)))); clear hps hel hat hk2 hm hm2)) | (go_at_call 25; go_must (refine (pick_ok f m _ H2.out.2.2.1 (by omega) (by omega)).mono ?_; rintro e w3 ⟨i, hi, rfl, hat3, hk3⟩; obtain ⟨⟨pc, pdt⟩, hp⟩ : ∃ u, fl[i]? = some u := ⟨fl[i]'(by rw [HM.out]; exact hi), List.getElem?_eq_getElem _⟩; obtain ⟨a3, n3, k3, z0, z1, hb3⟩ := (H2.out.1.keep hk3 (fun b hb e => by have e' : b = f := e; have := HF.out.lt; rw [World.size_alloc] at hb; omega)).get hp; have hpq := H2.out.2.1.2.2 _ (List.mem_of_getElem? hp); have hi' : (i : Int) < (m : Int) := (by omega); have hi0 : (0 : Int) ≤ (i : Int) := (by omega); have hpc : (pc : Int) < 256 := (by have := hpq.2.1; omega); have hwp : IntKind.u8.wrap (pc : Int) = (pc : Int) := (by have h8 : IntKind.u8.wrap (pc : Int) = (pc : Int) % 256 := rfl; rw [h8]; omega); have HA3 := Lib.hid (HA.out.kept hk3 (fun e => by have e' : w.heap.size = f := e; have := HF.out.lt; omega)); have HL1 := Lib.hid (BRow.lit1 (base := w3.heap.size) (w := w3.alloc (.cells #[.int .i64 pc, .slice a3 n3 k3] 170)) (c := pc) (g := w3.heap.size + 1) (by rw [World.size_alloc]) (by rw [World.size_alloc]; omega) hpq.2.1); have H3 := Lib.hid (And.intro hb3 (And.intro hpq (And.intro hat3 (H2.out.2.2.2.trans' hk3)))); clear hb3 hpq hat3 hk3 hp)) | (at_builtin; have _t := H6; go_must (clear _t; refine wpList_app_b _ (.tmp 62) (.tmp 63) rfl rfl w4.heap.size _ _ rfl H6.out.1 _ _ _ rfl ((H4.out.1.keep H6.out.2.1 (fun b hb e => by have e' : b = f := e; have h1 := HF.out.lt; have h2 := H3.out.2.2.2.size; omega)).bsl) (by have := H5.out.2.1.len; have := HIHD.out.2; have := H3.out.2.1.1.len; have := HRM.out; simp <;> omega) H6.out.2.1.size ?_; intro p7 c7 w7 ha7; have hk7 := H6.out.2.1.trans ha7.2.1 (fun b hb e => by have := H6.out.1.own b e; omega); have q7 := (HA4.out.kept hk7 (fun e => by have e' : w.heap.size = f := e; have := HF.out.lt; omega)).cell 3; simp only [List.getElem?_toArray, List.getElem?_cons_zero, List.getElem?_cons_succ] at q7; have H7 := Lib.hid (And.intro ha7.1 (And.intro hk7 (H6.out.2.2.keep ha7.2.1 (fun e => by have h0 := H6.out.1.own _ e; have h1 := HF.out.lt; have h2 := H3.out.2.2.2.size; have h3 := H4.out.2.size; omega)))); clear ha7 hk7)) | (at_builtin; have _t := H5; go_must (clear _t; refine wpList_app_b _ (.tmp 52) (.tmp 61) rfl rfl w4.heap.size _ _ rfl (HL0.out.keep H5.out.2.2.2 (fun b hb e => by have e' : b = f := e; have h1 := HF.out.lt; have h2 := H3.out.2.2.2.size; have h3 := H4.out.2.size; omega)) _ _ _ rfl H5.out.1.bsl (by have := H5.out.2.1.len; have := HIHD.out.2; simp <;> omega) (by have h1 := H5.out.2.2.2.size; rw [World.size_alloc] at h1; omega) ?_; intro p6 c6 w6 ha6; have hk6 := (((Kept.refl Nope w4).alloc _).nope.trans' H5.out.2.2.2).trans ha6.2.1 (fun b hb e => by have := HL0.out.own b e; omega); have H6 := Lib.hid (And.intro ha6.1 (And.intro hk6 (H5.out.2.2.1.keep ha6.2.1 (fun e => by have h0 := HL0.out.own _ e; have h1 := HF.out.lt; have h2 := H3.out.2.2.2.size; have h3 := H4.out.2.size; omega)))); clear ha6 hk6)) | (at_builtin; go_must (refine wpList_app_b _ (.tmp 35) (.tmp 37) rfl rfl w3.heap.size _ _ rfl HL1.out _ _ _ rfl (H3.out.1.keep (((Kept.refl Nope w3).alloc _).alloc _) (fun _ _ _ h => h)) (by have := H3.out.2.1.1.len; have := HRM.out; simp <;> omega) (by rw [World.size_alloc, World.size_alloc]; omega) ?_; intro p4 c4 w4 ha4; have hN4 := (((Kept.refl Nope w3).alloc _).alloc _).trans ha4.2.1 (fun b hb e => by have := HL1.out.own b e; omega); have HA4 := Lib.hid (HA3.out.kept hN4 (fun h => h)); have q3 := HA4.out.cell 3; simp only [List.getElem?_toArray, List.getElem?_cons_zero, List.getElem?_cons_succ] at q3; have k5 := (H3.out.2.2.2.trans' hN4.nope).cell HY.out.2.1 (fun e => HY.out.2.2 e); obtain ⟨b2, off2, cap2, pk2, ck2, pd2, cd2, q2, hvd, u0, u1, u2, u3, u4, u5⟩ := (HD1.out.keep (H3.out.2.2.2.trans' hN4.nope) (fun b _ hb e => hb e)).sixS (i := 0) (v := dd) rfl; simp only [Nat.zero_mul, Nat.add_zero] at u0 u1 u2 u3 u4 u5; injection q2 with q2 _ q2'; subst q2 q2'; have v0 := fun o => ((Kept.refl Nope w4).alloc o).cell u0 (fun h => h); have v1 := fun o => ((Kept.refl Nope w4).alloc o).cell u1 (fun h => h); have v2 := fun o => ((Kept.refl Nope w4).alloc o).cell u2 (fun h => h); have v3 := fun o => ((Kept.refl Nope w4).alloc o).cell u3 (fun h => h); have v4 := fun o => ((Kept.refl Nope w4).alloc o).cell u4 (fun h => h); have v5 := fun o => ((Kept.refl Nope w4).alloc o).cell u5 (fun h => h); have k5a := fun o => ((Kept.refl Nope w4).alloc o).cell k5 (fun h => h); have q3a := fun o => ((Kept.refl Nope w4).alloc o).cell q3 (fun h => h); have HVD := Lib.hid hvd; have HL0 := Lib.hid (BRow.lit1 (base := w4.heap.size) (w := w4) (c := 0) (g := w4.heap.size) rfl (Nat.le_refl _) (by decide)); clear hvd; have H4 := Lib.hid (And.intro ha4.1 hN4); clear ha4 hN4)) | (go_at_call 27; go_must (refine (HIHD.out.1 _ f _ ((H3.out.2.2.1.keep H4.out.2 (fun h => h)).keep ((Kept.refl Nope w4).alloc _) (fun h => h)) (HVD.out.keep ((Kept.refl Nope w4).alloc _) (fun _ _ _ h => h))).mono ?_; rintro e w5 ⟨x5, be5, rfl, hb5, he5, hat5, hk5⟩; obtain ⟨p5, c5, rfl⟩ := hb5.form; have H5 := Lib.hid (And.intro hb5 (And.intro he5 (And.intro hat5 hk5))); clear hb5 he5 hat5 hk5)) | (go_at_call 90; go_must (refine (lengthed_ok 0xe0 0xf0 _ (([0] ++ be5) ++ ([UInt8.ofNat pc] ++ pdt)) n _ (H7.out.1.bsl.mono fun _ _ _ => trivial) (by have := H5.out.2.1.len; have := HIHD.out.2; have := H3.out.2.1.1.len; have := HRM.out; simp <;> omega) (.inr ⟨by omega, by omega⟩)).mono ?_; rintro e w9 ⟨x9, rfl, hps9, hk9⟩; obtain ⟨p9, c9, rfl, _⟩ := hps9.form; have H9 := Lib.hid (And.intro hps9 (H7.out.2.1.trans' hk9.nope)); have H9k := Lib.hid hk9; clear hps9 hk9)))
  go_ret
  refine ⟨_, lenForms 0xe0 0xf0 (([0] ++ be5) ++ ([UInt8.ofNat pc] ++ pdt)) n, rfl, H9.out.1.mono ?_, (by have h := Forms.arr (v := v) (d := 0 :: (be5 ++ UInt8.ofNat pc :: pdt)) HALL.out.2.2.2.2.1 (.desc HALL.out.2.2.2.2.2.1 HALL.out.2.2.2.2.2.2 H5.out.2.1 H3.out.2.1.1); rw [HL.out] at h; exact h), H7.out.2.2.keep H9k.out (fun h => h), (H3.out.2.2.2.trans' H4.out.2.nope).trans' H9.out.2⟩
  have h1 := H3.out.2.2.2.size
  have h2 := H4.out.2.size
  have h3 := H7.out.2.1.size
  omega
end Go.Proofs.YtbckofjoancdjaaGreatDoor
