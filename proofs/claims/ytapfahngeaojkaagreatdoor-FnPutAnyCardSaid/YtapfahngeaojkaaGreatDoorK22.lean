/- Package spec: SameUnordered: what was read is what was written, maps in any order. -/
import Derived.Deep.RegionHeld3
import Derived.Test.YtapfahngeaojkaaGreatDoorK21
namespace Go.Proofs.YtapfahngeaojkaaGreatDoor
open Go Go.RowKit Go.Lib
theorem KSl.key {S : Nat → Prop} {w : World} {s : Value} {l : List V} (h : KSl S w s l) {i : Nat} {v : V} (hv : l[i]? = some v) (h6 : v.kind = 6) (hn : v.num = 0) (ho : v.of_ = 0) (hk : v.kids = []) : ∃ b off cap p c, s = .slice (some ⟨b, off, none⟩) l.length cap ∧ w.cell? ⟨b, off + i * 5, none⟩ = some (.int .i64 6) ∧ w.cell? ⟨b, off + i * 5 + 1, none⟩ = some (.int .u64 0) ∧
        w.cell? ⟨b, off + i * 5 + 2, none⟩ = some (.string v.text) ∧ w.cell? ⟨b, off + i * 5 + 3, none⟩ = some (.int .i64 0) ∧ w.cell? ⟨b, off + i * 5 + 4, none⟩ = some (.slice p 0 c) := by
  obtain ⟨b, off, cap, p, c, q, -, -, y0, y1, y2, y3, y4, _⟩ := h.agg hv
  rw [h6] at y0
  rw [hn] at y1
  rw [ho] at y3
  rw [hk] at y4
  exact ⟨b, off, cap, p, c, q, y0, y1, y2, y3, y4⟩
def SUok (v : V) : Prop := ∀ (r : V) (W : World) (x y : Value), Rd v r → KAgg Any_ W x v → KAgg Any_ W y r → Calls Tryz.prog 11 #[x, y] W (Quiet (.bool true) W)
set_option maxRecDepth 100000 in
set_option maxHeartbeats 3200000 in
theorem SU_leaf (v : V) (w : World) (p1 p2 : Option Addr) (c1 c2 : Nat) (h8 : v.kind < 8) (hn : Nums v) :
    Calls Tryz.prog 11 #[.agg #[.int .i64 v.kind, .int .u64 v.num, .string v.text, .int .i64 0, .slice p1 0 c1], .agg #[.int .i64 (rd0 v).kind, .int .u64 (rd0 v).num, .string (rd0 v).text, .int .i64 0, .slice p2 0 c2]] w (Quiet (.bool true) w) := by
  have HN := Lib.hid hn
  have t8 : (v.kind != 8) = true := by simp; omega
  have t9 : (v.kind != 9) = true := by simp; omega
  obtain ⟨rk, hrk⟩ : ∃ k, (rd0 v).kind = k := ⟨_, rfl⟩
  obtain ⟨rn, hrn⟩ : ∃ k, (rd0 v).num = k := ⟨_, rfl⟩
  obtain ⟨rt, hrt⟩ : ∃ k, (rd0 v).text = k := ⟨_, rfl⟩
  have HSL := Lib.hid (fun W p1 p2 c1 c2 => SamePack_leaf v W p1 p2 c1 c2 hn)
  rw [hrk, hrn, hrt] at HSL ⊢
  clear h8 hn hrk hrn hrt
  go_enter Tryz.func11, Tryz.ntmps11
  go_wp2_with (go_at_call 20; go_must (refine (HSL.out _ _ _ _ _).mono ?_; rintro e w1 ⟨rfl, hk1⟩))
  go_ret
  exact ⟨rfl, (((Kept.refl _ _).alloc _).alloc _).trans' hk1⟩
set_option maxRecDepth 100000 in
set_option maxHeartbeats 3200000 in
theorem SU_arr (v r : V) (w : World) (ka kb : Value) (hka : KSl Any_ w ka v.kids) (hkb : KSl Any_ w kb r.kids) (hl : r.kids.length = v.kids.length) (n n' o o' : Int) (t t' : ByteArray)
    (hk : ∀ (i : Nat) (x y : V), v.kids[i]? = some x → r.kids[i]? = some y → Rd x y) (ih : ∀ k ∈ v.kids, SUok k) :
    Calls Tryz.prog 11 #[.agg #[.int .i64 8, .int .u64 n, .string t, .int .i64 o, ka], .agg #[.int .i64 8, .int .u64 n', .string t', .int .i64 o', kb]] w (Quiet (.bool true) w) := by
  have HKA := Lib.hid (And.intro hka hkb)
  have HI := Lib.hid (And.intro ih hk)
  obtain ⟨p1, c1, rfl, q1, m1⟩ := hka.form
  obtain ⟨p2, c2, rfl, q2, m2⟩ := hkb.form
  rw [hl]
  have HE := Lib.hid hl
  have hlm : v.kids.length ≤ maxLen := by omega
  clear hka hkb ih hk q1 q2 m1 m2 hl
  unfold maxLen at hlm
  obtain ⟨nl, hnl⟩ : ∃ m, v.kids.length = m := ⟨_, rfl⟩
  rw [hnl] at hlm ⊢
  have HL := Lib.hid hnl
  clear hnl
  go_enter Tryz.func11, Tryz.ntmps11
  go_wp2
  have HT := Blk.two w #[Value.int .i64 8, .int .u64 n, .string t, .int .i64 o, .slice p1 nl c1] #[Value.int .i64 8, .int .u64 n', .string t', .int .i64 o', .slice p2 nl c2] 26
  generalize (w.alloc (.cells #[Value.int .i64 8, .int .u64 n, .string t, .int .i64 o, .slice p1 nl c1] 26)).alloc (.cells #[Value.int .i64 8, .int .u64 n', .string t', .int .i64 o', .slice p2 nl c2] 26) = W2 at HT ⊢
  generalize w.heap.size + 1 = B at HT ⊢
  generalize w.heap.size = A at HT ⊢
  have HW := Lib.hid HT
  clear HT
  go_loopw [40] (fun c w' => ∃ kk : Nat, kk ≤ nl ∧ c = .int .i64 kk ∧ Hid (Kept Nope W2 w')) (fun c _ => nl - (RowKit.intOf c).toNat)
  case atStart => exact ⟨0, by omega, rfl, Lib.hid (Kept.refl _ _)⟩
  case round =>
    obtain ⟨kk, hk, rfl, HR⟩ := hrel
    have bA4 := (HW.out.1.kept HR.out (fun h => h)).cell 4
    have bB4 := (HW.out.2.1.kept HR.out (fun h => h)).cell 4
    simp only [List.getElem?_toArray, List.getElem?_cons_zero, List.getElem?_cons_succ] at bA4 bB4
    have HKW := Lib.hid (HW.out.2.2.trans' HR.out)
    by_cases hkn : kk < nl
    · have hkn' : (kk : Int) < (nl : Int) := by omega
      have hk0 : (0 : Int) ≤ (kk : Int) := by omega
      have e1 : IntKind.i64.wrap ((kk : Int) + 1) = (kk : Int) + 1 := IntWalk.i64_in _ (by omega)
      obtain ⟨x, hx⟩ : ∃ u, v.kids[kk]? = some u := ⟨v.kids[kk]'(by rw [HL.out]; exact hkn), List.getElem?_eq_getElem _⟩
      obtain ⟨y, hy⟩ : ∃ u, r.kids[kk]? = some u := ⟨r.kids[kk]'(by rw [HE.out, HL.out]; exact hkn), List.getElem?_eq_getElem _⟩
      obtain ⟨b1, off1, cap1, px, cx, q1, -, -, x0, x1, x2, x3, x4, hvx⟩ := (HKA.out.1.keep HKW.out (fun _ _ _ h => h)).agg hx
      obtain ⟨b2, off2, cap2, py, cy, q2, -, -, y0, y1, y2, y3, y4, hvy⟩ := (HKA.out.2.keep HKW.out (fun _ _ _ h => h)).agg hy
      injection q1 with q1 q3 q1'
      injection q2 with q2 q4 q2'
      subst q1 q1' q2 q2'
      have HX := Lib.hid (And.intro hx (And.intro hy (And.intro hvx hvy)))
      clear hx hy hvx hvy q3 q4
      go_wp2
      refine wp_region_tail 10 (by kernel_rfl) (by kernel_rfl) (fun K hK => ?_)
      simp only [List.take_succ_cons, List.take_zero, List.drop_succ_cons, List.drop_zero] at hK ⊢
      repeat still_step
      refine wpStill_nil (hK _ ?_)
      clear hK K
      go_wp2_with (go_at_call 11; go_must (refine (HI.out.1 x (List.mem_of_getElem? HX.out.1) y _ _ _ (HI.out.2 kk x y HX.out.1 HX.out.2.1) HX.out.2.2.1.drew HX.out.2.2.2.drew).mono ?_; rintro e w1 ⟨rfl, hk1⟩; have H1 := Lib.hid (((Kept.refl Nope wr).drew).trans' hk1); clear hk1))
      go_roundw
      case rel => exact ⟨kk + 1, by omega, by go_num, Lib.hid (HR.out.trans' H1.out)⟩
      case measure => simp [RowKit.intOf]; omega
    · obtain rfl : kk = nl := by omega
      have hlt : ¬ (kk : Int) < (kk : Int) := by omega
      go_wp2
      go_ret
      exact ⟨rfl, HKW.out⟩
structure Key (u : V) : Prop where
  kind : u.kind = 6
  num : u.num = 0
  ext : u.of_ = 0
  kids : u.kids = []
set_option maxRecDepth 100000 in
set_option maxHeartbeats 6400000 in
theorem SU_map (v r : V) (w : World) (ka kb : Value) (hka : KSl Any_ w ka v.kids) (hkb : KSl Any_ w kb r.kids) (hl : r.kids.length = v.kids.length) (hev : v.kids.length % 2 = 0) (hfew : v.kids.length ≤ 2000) (n n' o o' : Int) (t t' : ByteArray)
    (hkv : ∀ (i : Nat) (x : V), v.kids[2 * i]? = some x → Key x) (hkr : ∀ (i : Nat) (x : V), r.kids[2 * i]? = some x → Key x)
    (hp : ∀ (i : Nat) (u v1 : V), v.kids[2 * i]? = some u → v.kids[2 * i + 1]? = some v1 → ∃ p x y, r.kids[2 * p]? = some x ∧ r.kids[2 * p + 1]? = some y ∧ x.text = u.text ∧ Rd v1 y ∧ ∀ (j : Nat) (x' : V), r.kids[2 * j]? = some x' → x'.text = u.text → j = p) (ih : ∀ k ∈ v.kids, SUok k) :
    Calls Tryz.prog 11 #[.agg #[.int .i64 9, .int .u64 n, .string t, .int .i64 o, ka], .agg #[.int .i64 9, .int .u64 n', .string t', .int .i64 o', kb]] w (Quiet (.bool true) w) := by
  have HKA := Lib.hid (And.intro hka hkb)
  have HI := Lib.hid ih
  have HP := Lib.hid (And.intro hp (And.intro hkv hkr))
  obtain ⟨p1, c1, rfl, q1, m1⟩ := hka.form
  obtain ⟨p2, c2, rfl, q2, m2⟩ := hkb.form
  rw [hl]
  have HE := Lib.hid (And.intro hl hev)
  clear hka hkb ih hp hkv hkr q1 q2 m1 m2 hl hev
  obtain ⟨nl, hnl⟩ : ∃ m, v.kids.length = m := ⟨_, rfl⟩
  rw [hnl] at hfew ⊢
  have HL := Lib.hid hnl
  clear hnl
  go_enter Tryz.func11, Tryz.ntmps11
  go_wp2
  have HT := Blk.two w #[Value.int .i64 9, .int .u64 n, .string t, .int .i64 o, .slice p1 nl c1] #[Value.int .i64 9, .int .u64 n', .string t', .int .i64 o', .slice p2 nl c2] 26
  generalize (w.alloc (.cells #[Value.int .i64 9, .int .u64 n, .string t, .int .i64 o, .slice p1 nl c1] 26)).alloc (.cells #[Value.int .i64 9, .int .u64 n', .string t', .int .i64 o', .slice p2 nl c2] 26) = W3 at HT ⊢
  generalize w.heap.size + 1 = B at HT ⊢
  generalize w.heap.size = A at HT ⊢
  have HW := Lib.hid HT
  clear HT
  go_loopw [6] (fun c w' => ∃ ii : Nat, 2 * ii ≤ nl + 1 ∧ c = .int .i64 (2 * (ii : Int)) ∧ Hid (Kept Nope W3 w')) (fun c _ => nl + 1 - (RowKit.intOf c).toNat)
  case atStart => exact ⟨0, by omega, rfl, Lib.hid (Kept.refl _ _)⟩
  case round =>
    obtain ⟨ii, hk, rfl, HR⟩ := hrel
    have bA4 := (HW.out.1.kept HR.out (fun h => h)).cell 4
    have bB4 := (HW.out.2.1.kept HR.out (fun h => h)).cell 4
    simp only [List.getElem?_toArray, List.getElem?_cons_zero, List.getElem?_cons_succ] at bA4 bB4
    have HKW := Lib.hid (HW.out.2.2.trans' HR.out)
    have e1 : IntKind.i64.wrap (2 * (ii : Int) + 1) = 2 * (ii : Int) + 1 := IntWalk.i64_in _ (by omega)
    have e2 : IntKind.i64.wrap (2 * (ii : Int) + 2) = 2 * (ii : Int) + 2 := IntWalk.i64_in _ (by omega)
    by_cases hkn : 2 * ii + 1 < nl
    · have hkn' : 2 * (ii : Int) + 1 < (nl : Int) := by omega
      obtain ⟨u, hu⟩ : ∃ k, v.kids[2 * ii]? = some k := ⟨v.kids[2 * ii]'(by rw [HL.out]; omega), List.getElem?_eq_getElem _⟩
      obtain ⟨v1, hv⟩ : ∃ k, v.kids[2 * ii + 1]? = some k := ⟨v.kids[2 * ii + 1]'(by rw [HL.out]; omega), List.getElem?_eq_getElem _⟩
      obtain ⟨p, xp, yp, hxp, hyp, htp, hrd, hun⟩ := HP.out.1 ii u v1 hu hv
      have hpl : 2 * p + 1 < nl := by have := (List.getElem?_eq_some_iff.1 hyp).1; rw [HE.out.1, HL.out] at this; exact this
      have HU := Lib.hid (And.intro hu (And.intro hv (And.intro hxp (And.intro hyp (And.intro htp (And.intro hrd hun))))))
      clear hu hv hxp hyp htp hrd hun
      go_wp2
      obtain ⟨wo, rfl⟩ : ∃ wo : World, wo = wr := ⟨_, rfl⟩
      go_loopw [7, 8] (fun g c w' => ∃ (f : Bool) (jj : Nat), 2 * jj ≤ nl + 1 ∧ g = .bool f ∧ c = .int .i64 (2 * (jj : Int)) ∧ Hid (Kept Nope wo w' ∧ (f = true ↔ p < jj))) (fun _ c _ => nl + 1 - (RowKit.intOf c).toNat)
      case atStart => exact ⟨false, 0, by omega, rfl, rfl, Lib.hid ⟨Kept.refl _ _, ⟨fun h => (by cases h), fun h => (by omega)⟩⟩⟩
      case round =>
        obtain ⟨f, jj, hj, rfl, rfl, HQ⟩ := hrel
        have bA4' : wr.cell? ⟨A, 4, none⟩ = some (Value.slice p1 nl c1) := HQ.out.1.cell bA4 (fun h => h)
        have bB4' : wr.cell? ⟨B, 4, none⟩ = some (Value.slice p2 nl c2) := HQ.out.1.cell bB4 (fun h => h)
        have g1 : IntKind.i64.wrap (2 * (jj : Int) + 1) = 2 * (jj : Int) + 1 := IntWalk.i64_in _ (by omega)
        have g2 : IntKind.i64.wrap (2 * (jj : Int) + 2) = 2 * (jj : Int) + 2 := IntWalk.i64_in _ (by omega)
        have HKQ := Lib.hid (HKW.out.trans' HQ.out.1)
        by_cases hjn : 2 * jj + 1 < nl
        · have hjn' : 2 * (jj : Int) + 1 < (nl : Int) := by omega
          obtain ⟨x, hx⟩ : ∃ k, r.kids[2 * jj]? = some k := ⟨r.kids[2 * jj]'(by rw [HE.out.1, HL.out]; omega), List.getElem?_eq_getElem _⟩
          obtain ⟨y, hy⟩ : ∃ k, r.kids[2 * jj + 1]? = some k := ⟨r.kids[2 * jj + 1]'(by rw [HE.out.1, HL.out]; omega), List.getElem?_eq_getElem _⟩
          have HY := Lib.hid (And.intro hx hy)
          clear hx hy
          cases f
          · have hpj : ¬ p < jj := fun h => (by have := HQ.out.2.2 h; cases this)
            have kU := HP.out.2.1 ii u HU.out.1
            have kX := HP.out.2.2 jj x HY.out.1
            obtain ⟨b1, off1, cap1, pu, cu, q1, u0, u1, u2, u3, u4⟩ := (HKA.out.1.keep HKQ.out (fun _ _ _ h => h)).key HU.out.1 kU.kind kU.num kU.ext kU.kids
            obtain ⟨b1', off1', cap1', pv, cv, q1', -, -, v0, v1', v2, v3, v4, hvv⟩ := (HKA.out.1.keep HKQ.out (fun _ _ _ h => h)).agg HU.out.2.1
            obtain ⟨b2, off2, cap2, px, cx, q2, x0, x1, x2, x3, x4⟩ := (HKA.out.2.keep HKQ.out (fun _ _ _ h => h)).key HY.out.1 kX.kind kX.num kX.ext kX.kids
            obtain ⟨b2', off2', cap2', py, cy, q2', -, -, y0, y1, y2, y3, y4, hvy⟩ := (HKA.out.2.keep HKQ.out (fun _ _ _ h => h)).agg HY.out.2
            injection q1 with q1 qa r1
            injection q2 with q2 qb r2
            subst q1 r1 q2 r2
            injection q1' with q1' qc r1'
            injection q2' with q2' qd r2'
            injection q1' with q1'
            injection q2' with q2'
            injection q1' with q3 q4
            injection q2' with q5 q6
            subst q3 q4 q5 q6 r1' r2'
            have HX := Lib.hid (And.intro hvv hvy)
            clear hvv hvy qa qb qc qd kU kX
            have t1 : (2 * (ii : Int)).toNat = 2 * ii := by omega
            have t2 : (2 * (ii : Int) + 1).toNat = 2 * ii + 1 := by omega
            have t3 : (2 * (jj : Int)).toNat = 2 * jj := by omega
            have t4 : (2 * (jj : Int) + 1).toNat = 2 * jj + 1 := by omega
            have z1 : (0 : Int) ≤ 2 * (ii : Int) := by omega
            have z2 : (0 : Int) ≤ 2 * (jj : Int) := by omega
            have z3 : 2 * (ii : Int) < (nl : Int) := by omega
            have z4 : 2 * (jj : Int) < (nl : Int) := by omega
            have z5 : (0 : Int) ≤ 2 * (ii : Int) + 1 := by omega
            have z6 : (0 : Int) ≤ 2 * (jj : Int) + 1 := by omega
            have HM : Hid (∀ w', Kept Nope wr w' → (Kept Nope wr w' ∧ w'.cell? ⟨A, 4, none⟩ = some (.slice (some ⟨b1, off1, none⟩) nl c1) ∧ w'.cell? ⟨B, 4, none⟩ = some (.slice (some ⟨b2, off2, none⟩) nl c2) ∧ w'.cell? ⟨b1, off1 + 2 * ii * 5, none⟩ = some (.int .i64 6) ∧ w'.cell? ⟨b1, off1 + 2 * ii * 5 + 1, none⟩ = some (.int .u64 0) ∧ w'.cell? ⟨b1, off1 + 2 * ii * 5 + 2, none⟩ = some (.string u.text) ∧ w'.cell? ⟨b1, off1 + 2 * ii * 5 + 3, none⟩ = some (.int .i64 0) ∧ w'.cell? ⟨b1, off1 + 2 * ii * 5 + 4, none⟩ = some (.slice pu 0 cu) ∧ w'.cell? ⟨b1, off1 + (2 * ii + 1) * 5, none⟩ = some (.int .i64 v1.kind) ∧ w'.cell? ⟨b1, off1 + (2 * ii + 1) * 5 + 1, none⟩ = some (.int .u64 v1.num) ∧ w'.cell? ⟨b1, off1 + (2 * ii + 1) * 5 + 2, none⟩ = some (.string v1.text) ∧ w'.cell? ⟨b1, off1 + (2 * ii + 1) * 5 + 3, none⟩ = some (.int .i64 v1.of_) ∧ w'.cell? ⟨b1, off1 + (2 * ii + 1) * 5 + 4, none⟩ = some (.slice pv v1.kids.length cv) ∧ w'.cell? ⟨b2, off2 + 2 * jj * 5, none⟩ = some (.int .i64 6) ∧ w'.cell? ⟨b2, off2 + 2 * jj * 5 + 1, none⟩ = some (.int .u64 0) ∧ w'.cell? ⟨b2, off2 + 2 * jj * 5 + 2, none⟩ = some (.string x.text) ∧ w'.cell? ⟨b2, off2 + 2 * jj * 5 + 3, none⟩ = some (.int .i64 0) ∧ w'.cell? ⟨b2, off2 + 2 * jj * 5 + 4, none⟩ = some (.slice px 0 cx) ∧ w'.cell? ⟨b2, off2 + (2 * jj + 1) * 5, none⟩ = some (.int .i64 y.kind) ∧ w'.cell? ⟨b2, off2 + (2 * jj + 1) * 5 + 1, none⟩ = some (.int .u64 y.num) ∧ w'.cell? ⟨b2, off2 + (2 * jj + 1) * 5 + 2, none⟩ = some (.string y.text) ∧ w'.cell? ⟨b2, off2 + (2 * jj + 1) * 5 + 3, none⟩ = some (.int .i64 y.of_) ∧ w'.cell? ⟨b2, off2 + (2 * jj + 1) * 5 + 4, none⟩ = some (.slice py y.kids.length cy))) := Lib.hid fun w' h => ⟨h, h.cell bA4' (fun h => h), h.cell bB4' (fun h => h), h.cell u0 (fun h => h), h.cell u1 (fun h => h), h.cell u2 (fun h => h), h.cell u3 (fun h => h), h.cell u4 (fun h => h), h.cell v0 (fun h => h), h.cell v1' (fun h => h), h.cell v2 (fun h => h), h.cell v3 (fun h => h), h.cell v4 (fun h => h), h.cell x0 (fun h => h), h.cell x1 (fun h => h), h.cell x2 (fun h => h), h.cell x3 (fun h => h), h.cell x4 (fun h => h), h.cell y0 (fun h => h), h.cell y1 (fun h => h), h.cell y2 (fun h => h), h.cell y3 (fun h => h), h.cell y4 (fun h => h)⟩
            by_cases hjp : jj = p
            · have hxu : x.text = u.text := by
                have h1 := HY.out.1
                rw [hjp, HU.out.2.2.1] at h1
                injection h1 with h1
                rw [← h1]
                exact HU.out.2.2.2.2.1
              have hry : Rd v1 y := by
                have h1 := HY.out.2
                rw [hjp, HU.out.2.2.2.1] at h1
                injection h1 with h1
                rw [← h1]
                exact HU.out.2.2.2.2.2.1
              have HRY := Lib.hid hry
              have HJP := Lib.hid hjp
              rw [hxu] at x2 HM
              clear hxu hry hjp
              go_wp2
              go_region_held3 (fun w' => Kept Nope wr w' ∧ w'.cell? ⟨A, 4, none⟩ = some (.slice (some ⟨b1, off1, none⟩) nl c1) ∧ w'.cell? ⟨B, 4, none⟩ = some (.slice (some ⟨b2, off2, none⟩) nl c2) ∧ w'.cell? ⟨b1, off1 + 2 * ii * 5, none⟩ = some (.int .i64 6) ∧ w'.cell? ⟨b1, off1 + 2 * ii * 5 + 1, none⟩ = some (.int .u64 0) ∧ w'.cell? ⟨b1, off1 + 2 * ii * 5 + 2, none⟩ = some (.string u.text) ∧ w'.cell? ⟨b1, off1 + 2 * ii * 5 + 3, none⟩ = some (.int .i64 0) ∧ w'.cell? ⟨b1, off1 + 2 * ii * 5 + 4, none⟩ = some (.slice pu 0 cu) ∧ w'.cell? ⟨b1, off1 + (2 * ii + 1) * 5, none⟩ = some (.int .i64 v1.kind) ∧ w'.cell? ⟨b1, off1 + (2 * ii + 1) * 5 + 1, none⟩ = some (.int .u64 v1.num) ∧ w'.cell? ⟨b1, off1 + (2 * ii + 1) * 5 + 2, none⟩ = some (.string v1.text) ∧ w'.cell? ⟨b1, off1 + (2 * ii + 1) * 5 + 3, none⟩ = some (.int .i64 v1.of_) ∧ w'.cell? ⟨b1, off1 + (2 * ii + 1) * 5 + 4, none⟩ = some (.slice pv v1.kids.length cv) ∧ w'.cell? ⟨b2, off2 + 2 * jj * 5, none⟩ = some (.int .i64 6) ∧ w'.cell? ⟨b2, off2 + 2 * jj * 5 + 1, none⟩ = some (.int .u64 0) ∧ w'.cell? ⟨b2, off2 + 2 * jj * 5 + 2, none⟩ = some (.string u.text) ∧ w'.cell? ⟨b2, off2 + 2 * jj * 5 + 3, none⟩ = some (.int .i64 0) ∧ w'.cell? ⟨b2, off2 + 2 * jj * 5 + 4, none⟩ = some (.slice px 0 cx) ∧ w'.cell? ⟨b2, off2 + (2 * jj + 1) * 5, none⟩ = some (.int .i64 y.kind) ∧ w'.cell? ⟨b2, off2 + (2 * jj + 1) * 5 + 1, none⟩ = some (.int .u64 y.num) ∧ w'.cell? ⟨b2, off2 + (2 * jj + 1) * 5 + 2, none⟩ = some (.string y.text) ∧ w'.cell? ⟨b2, off2 + (2 * jj + 1) * 5 + 3, none⟩ = some (.int .i64 y.of_) ∧ w'.cell? ⟨b2, off2 + (2 * jj + 1) * 5 + 4, none⟩ = some (.slice py y.kids.length cy)) (first | exact HM.out _ ((Kept.refl Nope wr).drew) | exact HM.out _ (Kept.trans' (‹Kept Nope wr _ ∧ _›).1 ‹Kept Nope _ _›)) (first | (go_at_call 20; refine (SamePack_c _ _ _ _ _ _ _ _ _ (by decide)).mono ?_; rintro e w1 ⟨rfl, hk1⟩) | (go_at_call 11; refine (HI.out v1 (List.mem_of_getElem? HU.out.2.1) y _ _ _ HRY.out (HX.out.1.keep (‹Kept Nope wr _ ∧ _›).1 (fun _ _ _ h => h)) (HX.out.2.keep (‹Kept Nope wr _ ∧ _›).1 (fun _ _ _ h => h))).mono ?_; rintro e w2 ⟨rfl, hk2⟩))
              have hkk := Lib.hid (((Kept.refl Nope wr).drew.trans' hk1).trans' hk2)
              go_wp2
              go_roundw
              case rel => exact ⟨true, jj + 1, by omega, rfl, by go_num, Lib.hid ⟨HQ.out.1.trans' hkk.out, ⟨fun _ => by have := HJP.out; omega, fun _ => rfl⟩⟩⟩
              case measure => simp [RowKit.intOf]; omega
            · have HNE : Hid (u.text ≠ x.text) := Lib.hid fun e => hjp (HU.out.2.2.2.2.2.2 jj x HY.out.1 e.symm)
              have HJP := Lib.hid hjp
              clear hjp
              go_wp2
              refine wp_region_held_drew (S := (fun w' => Kept Nope wr w' ∧ w'.cell? ⟨A, 4, none⟩ = some (.slice (some ⟨b1, off1, none⟩) nl c1) ∧ w'.cell? ⟨B, 4, none⟩ = some (.slice (some ⟨b2, off2, none⟩) nl c2) ∧ w'.cell? ⟨b1, off1 + 2 * ii * 5, none⟩ = some (.int .i64 6) ∧ w'.cell? ⟨b1, off1 + 2 * ii * 5 + 1, none⟩ = some (.int .u64 0) ∧ w'.cell? ⟨b1, off1 + 2 * ii * 5 + 2, none⟩ = some (.string u.text) ∧ w'.cell? ⟨b1, off1 + 2 * ii * 5 + 3, none⟩ = some (.int .i64 0) ∧ w'.cell? ⟨b1, off1 + 2 * ii * 5 + 4, none⟩ = some (.slice pu 0 cu) ∧ w'.cell? ⟨b1, off1 + (2 * ii + 1) * 5, none⟩ = some (.int .i64 v1.kind) ∧ w'.cell? ⟨b1, off1 + (2 * ii + 1) * 5 + 1, none⟩ = some (.int .u64 v1.num) ∧ w'.cell? ⟨b1, off1 + (2 * ii + 1) * 5 + 2, none⟩ = some (.string v1.text) ∧ w'.cell? ⟨b1, off1 + (2 * ii + 1) * 5 + 3, none⟩ = some (.int .i64 v1.of_) ∧ w'.cell? ⟨b1, off1 + (2 * ii + 1) * 5 + 4, none⟩ = some (.slice pv v1.kids.length cv) ∧ w'.cell? ⟨b2, off2 + 2 * jj * 5, none⟩ = some (.int .i64 6) ∧ w'.cell? ⟨b2, off2 + 2 * jj * 5 + 1, none⟩ = some (.int .u64 0) ∧ w'.cell? ⟨b2, off2 + 2 * jj * 5 + 2, none⟩ = some (.string x.text) ∧ w'.cell? ⟨b2, off2 + 2 * jj * 5 + 3, none⟩ = some (.int .i64 0) ∧ w'.cell? ⟨b2, off2 + 2 * jj * 5 + 4, none⟩ = some (.slice px 0 cx) ∧ w'.cell? ⟨b2, off2 + (2 * jj + 1) * 5, none⟩ = some (.int .i64 y.kind) ∧ w'.cell? ⟨b2, off2 + (2 * jj + 1) * 5 + 1, none⟩ = some (.int .u64 y.num) ∧ w'.cell? ⟨b2, off2 + (2 * jj + 1) * 5 + 2, none⟩ = some (.string y.text) ∧ w'.cell? ⟨b2, off2 + (2 * jj + 1) * 5 + 3, none⟩ = some (.int .i64 y.of_) ∧ w'.cell? ⟨b2, off2 + (2 * jj + 1) * 5 + 4, none⟩ = some (.slice py y.kids.length cy))) (by kernel_rfl) (HM.out _ ((Kept.refl Nope wr).drew)) (fun hS => ?_)
              refine wpAnyH_take (i := 0) (oi := ?oi0) (v := ?v0) ?hi0 (by kernel_rfl) (by kernel_rfl) (by kernel_rfl) ?hq0 (Or.inl ⟨?hw0, ?hy0⟩) (by assumption) ?hr0
              case hi0 => (simp only [List.getElem?_toArray, List.getElem?_cons_zero]; rfl)
              case hq0 => exact fun _ _ _ h => h
              case hw0 => rfl
              case hy0 => (intro w hSw; (try dsimp only at hSw); go_simp; (try with_reducible rfl))
              try simp only [Act.put, List.setIfInBounds_toArray, List.set_cons_zero, List.set_cons_succ]
              refine wpAnyH_take (i := 1) (oi := ?oi1) (v := ?v1) ?hi1 (by kernel_rfl) (by kernel_rfl) (by kernel_rfl) ?hq1 (Or.inl ⟨?hw1, ?hy1⟩) (by assumption) ?hr1
              case hi1 => (simp only [List.getElem?_toArray, List.getElem?_cons_succ, List.getElem?_cons_zero]; rfl)
              case hq1 => exact fun _ _ _ h => h
              case hw1 => rfl
              case hy1 => (intro w hSw; (try dsimp only at hSw); go_simp; (try with_reducible rfl))
              try simp only [Act.put, List.setIfInBounds_toArray, List.set_cons_zero, List.set_cons_succ]
              refine wpAnyH_take (i := 2) (oi := ?oi2) (v := ?v2) ?hi2 (by kernel_rfl) (by kernel_rfl) (by kernel_rfl) ?hq2 (Or.inl ⟨?hw2, ?hy2⟩) (by assumption) ?hr2
              case hi2 => (simp only [List.getElem?_toArray, List.getElem?_cons_succ, List.getElem?_cons_zero]; rfl)
              case hq2 => exact fun _ _ _ h => h
              case hw2 => rfl
              case hy2 => (intro w hSw; (try dsimp only at hSw); go_simp; (try with_reducible rfl))
              try simp only [Act.put, List.setIfInBounds_toArray, List.set_cons_zero, List.set_cons_succ]
              refine wpAnyH_take (i := 3) (oi := ?oi3) (v := ?v3) ?hi3 (by kernel_rfl) (by kernel_rfl) (by kernel_rfl) ?hq3 (Or.inl ⟨?hw3, ?hy3⟩) (by assumption) ?hr3
              case hi3 => (simp only [List.getElem?_toArray, List.getElem?_cons_succ, List.getElem?_cons_zero]; rfl)
              case hq3 => exact fun _ _ _ h => h
              case hw3 => rfl
              case hy3 => (intro w hSw; (try dsimp only at hSw); go_simp; (try with_reducible rfl))
              try simp only [Act.put, List.setIfInBounds_toArray, List.set_cons_zero, List.set_cons_succ]
              refine wpAnyH_take (i := 4) (oi := ?oi4) (v := ?v4) ?hi4 (by kernel_rfl) (by kernel_rfl) (by kernel_rfl) ?hq4 (Or.inl ⟨?hw4, ?hy4⟩) (by assumption) ?hr4
              case hi4 => (simp only [List.getElem?_toArray, List.getElem?_cons_succ, List.getElem?_cons_zero]; rfl)
              case hq4 => exact fun _ _ _ h => h
              case hw4 => rfl
              case hy4 => (intro w hSw; (try dsimp only at hSw); go_simp; (try with_reducible rfl))
              try simp only [Act.put, List.setIfInBounds_toArray, List.set_cons_zero, List.set_cons_succ]
              refine wpAnyH_take (i := 5) (oi := ?oi5) (v := ?v5) ?hi5 (by kernel_rfl) (by kernel_rfl) (by kernel_rfl) ?hq5 (Or.inl ⟨?hw5, ?hy5⟩) (by assumption) ?hr5
              case hi5 => (simp only [List.getElem?_toArray, List.getElem?_cons_succ, List.getElem?_cons_zero]; rfl)
              case hq5 => exact fun _ _ _ h => h
              case hw5 => rfl
              case hy5 => (intro w hSw; (try dsimp only at hSw); go_simp; (try with_reducible rfl))
              try simp only [Act.put, List.setIfInBounds_toArray, List.set_cons_zero, List.set_cons_succ]
              refine wpAnyH_take (i := 6) (oi := ?oi6) (v := ?v6) ?hi6 (by kernel_rfl) (by kernel_rfl) (by kernel_rfl) ?hq6 (Or.inl ⟨?hw6, ?hy6⟩) (by assumption) ?hr6
              case hi6 => (simp only [List.getElem?_toArray, List.getElem?_cons_succ, List.getElem?_cons_zero]; rfl)
              case hq6 => exact fun _ _ _ h => h
              case hw6 => rfl
              case hy6 => (intro w hSw; (try dsimp only at hSw); go_simp; (try with_reducible rfl))
              try simp only [Act.put, List.setIfInBounds_toArray, List.set_cons_zero, List.set_cons_succ]
              refine wpAnyH_take (i := 7) (oi := ?oi7) (v := ?v7) ?hi7 (by kernel_rfl) (by kernel_rfl) (by kernel_rfl) ?hq7 (Or.inl ⟨?hw7, ?hy7⟩) (by assumption) ?hr7
              case hi7 => (simp only [List.getElem?_toArray, List.getElem?_cons_succ, List.getElem?_cons_zero]; rfl)
              case hq7 => exact fun _ _ _ h => h
              case hw7 => rfl
              case hy7 => (intro w hSw; (try dsimp only at hSw); go_simp; (try with_reducible rfl))
              try simp only [Act.put, List.setIfInBounds_toArray, List.set_cons_zero, List.set_cons_succ]
              refine wpAnyH_take (i := 8) (oi := ?oi8) (v := ?v8) ?hi8 (by kernel_rfl) (by kernel_rfl) (by kernel_rfl) ?hq8 (Or.inl ⟨?hw8, ?hy8⟩) (by assumption) ?hr8
              case hi8 => (simp only [List.getElem?_toArray, List.getElem?_cons_succ, List.getElem?_cons_zero]; rfl)
              case hq8 => exact fun _ _ _ h => h
              case hw8 => rfl
              case hy8 => (intro w hSw; (try dsimp only at hSw); go_simp; (try with_reducible rfl))
              try simp only [Act.put, List.setIfInBounds_toArray, List.set_cons_zero, List.set_cons_succ]
              refine wpAnyH_take (i := 9) (oi := ?oi9) (v := ?v9) ?hi9 (by kernel_rfl) (by kernel_rfl) (by kernel_rfl) ?hq9 (Or.inl ⟨?hw9, ?hy9⟩) (by assumption) ?hr9
              case hi9 => (simp only [List.getElem?_toArray, List.getElem?_cons_succ, List.getElem?_cons_zero]; rfl)
              case hq9 => exact fun _ _ _ h => h
              case hw9 => rfl
              case hy9 => (intro w hSw; (try dsimp only at hSw); go_simp; (try with_reducible rfl))
              try simp only [Act.put, List.setIfInBounds_toArray, List.set_cons_zero, List.set_cons_succ]
              refine wpAnyH_take (i := 10) (oi := ?oi10) (v := ?v10) ?hi10 (by kernel_rfl) (by kernel_rfl) (by kernel_rfl) ?hq10 (Or.inl ⟨?hw10, ?hy10⟩) (by assumption) ?hr10
              case hi10 => (simp only [List.getElem?_toArray, List.getElem?_cons_succ, List.getElem?_cons_zero]; rfl)
              case hq10 => exact fun _ _ _ h => h
              case hw10 => rfl
              case hy10 => (intro w hSw; (try dsimp only at hSw); go_simp; (try with_reducible rfl))
              try simp only [Act.put, List.setIfInBounds_toArray, List.set_cons_zero, List.set_cons_succ]
              refine wpAnyH_take (i := 11) (oi := ?oi11) (v := ?v11) ?hi11 (by kernel_rfl) (by kernel_rfl) (by kernel_rfl) ?hq11 (Or.inl ⟨?hw11, ?hy11⟩) (by assumption) ?hr11
              case hi11 => (simp only [List.getElem?_toArray, List.getElem?_cons_succ, List.getElem?_cons_zero]; rfl)
              case hq11 => exact fun _ _ _ h => h
              case hw11 => rfl
              case hy11 => (intro w hSw; (try dsimp only at hSw); go_simp; (try with_reducible rfl))
              try simp only [Act.put, List.setIfInBounds_toArray, List.set_cons_zero, List.set_cons_succ]
              refine wpAnyH_ready (rs := [12]) (by kernel_rfl) (by simp) ?_
              refine AllReadyH.cons (o := ?oi12) ?hi12 (fun K hK => ?_) AllReadyH.nil
              case hi12 => (simp only [List.getElem?_toArray, List.getElem?_cons_succ, List.getElem?_cons_zero]; rfl)
              go_simp
              refine (SamePack_no _ _ _ _ _ _ _ _ _ HNE.out).mono ?_
              rintro e w1 ⟨rfl, hk1⟩
              refine hK.out _ _ (HM.out _ (Kept.trans' ((Kept.refl Nope wr).drew) hk1)) (fun hS2 => ?_)
              clear hK K hS
              try simp only [Act.put, List.setIfInBounds_toArray, List.set_cons_zero, List.set_cons_succ]
              refine wpAnyH_take (i := 13) (oi := ?oi13) (v := ?v13) ?hi13 (by kernel_rfl) (by kernel_rfl) (by kernel_rfl) ?hq13 (Or.inl ⟨?hw13, ?hy13⟩) (by assumption) ?hr13
              case hi13 => (simp only [List.getElem?_toArray, List.getElem?_cons_succ, List.getElem?_cons_zero]; rfl)
              case hq13 => exact fun _ _ _ h => h
              case hw13 => rfl
              case hy13 => (intro w hSw; (try dsimp only at hSw); go_simp; (try with_reducible rfl))
              try simp only [Act.put, List.setIfInBounds_toArray, List.set_cons_zero, List.set_cons_succ]
              refine wpAnyH_take (i := 14) (oi := ?oi14) (v := undef) ?hi14 (by kernel_rfl) (by kernel_rfl) (by kernel_rfl) ?hq14 (Or.inr ⟨?hw14, rfl⟩) (by assumption) ?hr14
              case hi14 => (simp only [List.getElem?_toArray, List.getElem?_cons_succ, List.getElem?_cons_zero]; rfl)
              case hq14 => exact fun _ _ _ h => h
              case hw14 => rfl
              try simp only [Act.put, List.setIfInBounds_toArray, List.set_cons_zero, List.set_cons_succ]
              refine wpAnyH_take (i := 15) (oi := ?oi15) (v := undef) ?hi15 (by kernel_rfl) (by kernel_rfl) (by kernel_rfl) ?hq15 (Or.inr ⟨?hw15, rfl⟩) (by assumption) ?hr15
              case hi15 => (simp only [List.getElem?_toArray, List.getElem?_cons_succ, List.getElem?_cons_zero]; rfl)
              case hq15 => exact fun _ _ _ h => h
              case hw15 => rfl
              try simp only [Act.put, List.setIfInBounds_toArray, List.set_cons_zero, List.set_cons_succ]
              refine wpAnyH_take (i := 16) (oi := ?oi16) (v := undef) ?hi16 (by kernel_rfl) (by kernel_rfl) (by kernel_rfl) ?hq16 (Or.inr ⟨?hw16, rfl⟩) (by assumption) ?hr16
              case hi16 => (simp only [List.getElem?_toArray, List.getElem?_cons_succ, List.getElem?_cons_zero]; rfl)
              case hq16 => exact fun _ _ _ h => h
              case hw16 => rfl
              try simp only [Act.put, List.setIfInBounds_toArray, List.set_cons_zero, List.set_cons_succ]
              refine wpAnyH_take (i := 17) (oi := ?oi17) (v := undef) ?hi17 (by kernel_rfl) (by kernel_rfl) (by kernel_rfl) ?hq17 (Or.inr ⟨?hw17, rfl⟩) (by assumption) ?hr17
              case hi17 => (simp only [List.getElem?_toArray, List.getElem?_cons_succ, List.getElem?_cons_zero]; rfl)
              case hq17 => exact fun _ _ _ h => h
              case hw17 => rfl
              try simp only [Act.put, List.setIfInBounds_toArray, List.set_cons_zero, List.set_cons_succ]
              refine wpAnyH_take (i := 18) (oi := ?oi18) (v := undef) ?hi18 (by kernel_rfl) (by kernel_rfl) (by kernel_rfl) ?hq18 (Or.inr ⟨?hw18, rfl⟩) (by assumption) ?hr18
              case hi18 => (simp only [List.getElem?_toArray, List.getElem?_cons_succ, List.getElem?_cons_zero]; rfl)
              case hq18 => exact fun _ _ _ h => h
              case hw18 => rfl
              try simp only [Act.put, List.setIfInBounds_toArray, List.set_cons_zero, List.set_cons_succ]
              refine wpAnyH_take (i := 19) (oi := ?oi19) (v := undef) ?hi19 (by kernel_rfl) (by kernel_rfl) (by kernel_rfl) ?hq19 (Or.inr ⟨?hw19, rfl⟩) (by assumption) ?hr19
              case hi19 => (simp only [List.getElem?_toArray, List.getElem?_cons_succ, List.getElem?_cons_zero]; rfl)
              case hq19 => exact fun _ _ _ h => h
              case hw19 => rfl
              try simp only [Act.put, List.setIfInBounds_toArray, List.set_cons_zero, List.set_cons_succ]
              refine wpAnyH_take (i := 20) (oi := ?oi20) (v := undef) ?hi20 (by kernel_rfl) (by kernel_rfl) (by kernel_rfl) ?hq20 (Or.inr ⟨?hw20, rfl⟩) (by assumption) ?hr20
              case hi20 => (simp only [List.getElem?_toArray, List.getElem?_cons_succ, List.getElem?_cons_zero]; rfl)
              case hq20 => exact fun _ _ _ h => h
              case hw20 => rfl
              try simp only [Act.put, List.setIfInBounds_toArray, List.set_cons_zero, List.set_cons_succ]
              refine wpAnyH_take (i := 21) (oi := ?oi21) (v := undef) ?hi21 (by kernel_rfl) (by kernel_rfl) (by kernel_rfl) ?hq21 (Or.inr ⟨?hw21, rfl⟩) (by assumption) ?hr21
              case hi21 => (simp only [List.getElem?_toArray, List.getElem?_cons_succ, List.getElem?_cons_zero]; rfl)
              case hq21 => exact fun _ _ _ h => h
              case hw21 => rfl
              try simp only [Act.put, List.setIfInBounds_toArray, List.set_cons_zero, List.set_cons_succ]
              refine wpAnyH_take (i := 22) (oi := ?oi22) (v := undef) ?hi22 (by kernel_rfl) (by kernel_rfl) (by kernel_rfl) ?hq22 (Or.inr ⟨?hw22, rfl⟩) (by assumption) ?hr22
              case hi22 => (simp only [List.getElem?_toArray, List.getElem?_cons_succ, List.getElem?_cons_zero]; rfl)
              case hq22 => exact fun _ _ _ h => h
              case hw22 => rfl
              try simp only [Act.put, List.setIfInBounds_toArray, List.set_cons_zero, List.set_cons_succ]
              refine wpAnyH_take (i := 23) (oi := ?oi23) (v := undef) ?hi23 (by kernel_rfl) (by kernel_rfl) (by kernel_rfl) ?hq23 (Or.inr ⟨?hw23, rfl⟩) (by assumption) ?hr23
              case hi23 => (simp only [List.getElem?_toArray, List.getElem?_cons_succ, List.getElem?_cons_zero]; rfl)
              case hq23 => exact fun _ _ _ h => h
              case hw23 => rfl
              try simp only [Act.put, List.setIfInBounds_toArray, List.set_cons_zero, List.set_cons_succ]
              refine wpAnyH_take (i := 24) (oi := ?oi24) (v := undef) ?hi24 (by kernel_rfl) (by kernel_rfl) (by kernel_rfl) ?hq24 (Or.inr ⟨?hw24, rfl⟩) (by assumption) ?hr24
              case hi24 => (simp only [List.getElem?_toArray, List.getElem?_cons_succ, List.getElem?_cons_zero]; rfl)
              case hq24 => exact fun _ _ _ h => h
              case hw24 => rfl
              try simp only [Act.put, List.setIfInBounds_toArray, List.set_cons_zero, List.set_cons_succ]
              refine wpAnyH_take (i := 25) (oi := ?oi25) (v := undef) ?hi25 (by kernel_rfl) (by kernel_rfl) (by kernel_rfl) ?hq25 (Or.inr ⟨?hw25, rfl⟩) (by assumption) ?hr25
              case hi25 => (simp only [List.getElem?_toArray, List.getElem?_cons_succ, List.getElem?_cons_zero]; rfl)
              case hq25 => exact fun _ _ _ h => h
              case hw25 => rfl
              try simp only [Act.put, List.setIfInBounds_toArray, List.set_cons_zero, List.set_cons_succ]
              refine wpAnyH_take (i := 26) (oi := ?oi26) (v := undef) ?hi26 (by kernel_rfl) (by kernel_rfl) (by kernel_rfl) ?hq26 (Or.inr ⟨?hw26, rfl⟩) (by assumption) ?hr26
              case hi26 => (simp only [List.getElem?_toArray, List.getElem?_cons_succ, List.getElem?_cons_zero]; rfl)
              case hq26 => exact fun _ _ _ h => h
              case hw26 => rfl
              try simp only [Act.put, List.setIfInBounds_toArray, List.set_cons_zero, List.set_cons_succ]
              refine wpAnyH_take (i := 27) (oi := ?oi27) (v := ?v27) ?hi27 (by kernel_rfl) (by kernel_rfl) (by kernel_rfl) ?hq27 (Or.inl ⟨?hw27, ?hy27⟩) (by assumption) ?hr27
              case hi27 => (simp only [List.getElem?_toArray, List.getElem?_cons_succ, List.getElem?_cons_zero]; rfl)
              case hq27 => exact fun _ _ _ h => h
              case hw27 => rfl
              case hy27 => (intro w hSw; (try dsimp only at hSw); go_simp; (try with_reducible rfl))
              try simp only [Act.put, List.setIfInBounds_toArray, List.set_cons_zero, List.set_cons_succ]
              refine wpAnyH_take (i := 28) (oi := ?oi28) (v := ?v28) ?hi28 (by kernel_rfl) (by kernel_rfl) (by kernel_rfl) ?hq28 (Or.inl ⟨?hw28, ?hy28⟩) (by assumption) ?hr28
              case hi28 => (simp only [List.getElem?_toArray, List.getElem?_cons_succ, List.getElem?_cons_zero]; rfl)
              case hq28 => exact fun _ _ _ h => h
              case hw28 => rfl
              case hy28 => (intro w hSw; (try dsimp only at hSw); go_simp; (try with_reducible rfl))
              try simp only [Act.put, List.setIfInBounds_toArray, List.set_cons_zero, List.set_cons_succ]
              refine wpAnyH_take (i := 29) (oi := ?oi29) (v := ?v29) ?hi29 (by kernel_rfl) (by kernel_rfl) (by kernel_rfl) ?hq29 (Or.inl ⟨?hw29, ?hy29⟩) (by assumption) ?hr29
              case hi29 => (simp only [List.getElem?_toArray, List.getElem?_cons_succ, List.getElem?_cons_zero]; rfl)
              case hq29 => exact fun _ _ _ h => h
              case hw29 => rfl
              case hy29 => (intro w hSw; (try dsimp only at hSw); go_simp; (try with_reducible rfl))
              try simp only [Act.put, List.setIfInBounds_toArray, List.set_cons_zero, List.set_cons_succ]
              refine wpAnyH_done (by kernel_rfl) ?_ _
              have hkk := Lib.hid (((Kept.refl Nope wr).drew.trans' hk1))
              clear hS2
              go_wp2
              go_roundw
              case rel => exact ⟨false, jj + 1, by omega, rfl, by go_num, Lib.hid ⟨HQ.out.1.trans' hkk.out, ⟨fun h => (by cases h), fun h => (by have := HJP.out; omega)⟩⟩⟩
              case measure => simp [RowKit.intOf]; omega
          · go_wp2
            go_quiet (fail)
            go_wp2
            go_roundw
            case rel => exact ⟨true, jj + 1, by omega, rfl, by go_num, Lib.hid ⟨HQ.out.1.drewN _, ⟨fun _ => by have := HQ.out.2.1 trivial; omega, fun _ => rfl⟩⟩⟩
            case measure => simp [RowKit.intOf]; omega
        · have hjn' : ¬ 2 * (jj : Int) + 1 < (nl : Int) := by omega
          obtain rfl : f = true := HQ.out.2.2 (by omega)
          go_wp2
          go_roundw
          case rel => exact ⟨ii + 1, by omega, by go_num, Lib.hid (HR.out.trans' HQ.out.1)⟩
          case measure => simp [RowKit.intOf]; omega
    · have hkn' : ¬ 2 * (ii : Int) + 1 < (nl : Int) := by omega
      go_wp2
      go_ret
      exact ⟨rfl, HKW.out⟩
end Go.Proofs.YtapfahngeaojkaaGreatDoor
