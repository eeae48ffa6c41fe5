/- Package spec: SameValue. Package spec: pick: one of n. -/
import Derived.LoopTactic
import Derived.IntWalk
import Derived.Outline
import Derived.Test.YtbckofjoancdjaaGreatDoorK6
import Derived.Test.YtbckofjoancdjaaGreatDoorK4
namespace Go.Proofs.YtbckofjoancdjaaGreatDoor
open Go Go.RowKit Go.Lib
def Any_ : Nat → Prop := fun _ => True
def AskB (P : Prop) (w : World) : Ending → World → Prop := fun e w' => ((e = .returned (.bool true) ∧ P) ∨ (e = .returned (.bool false) ∧ ¬ P)) ∧ Kept Nope w w'
def AskT (P : Prop) (w : World) : Ending → World → Prop := fun e w' => ((e = .returned (.bool true) ∧ P) ∨ e = .returned (.bool false)) ∧ Kept Nope w w'
def AskF (P : Prop) (w : World) : Ending → World → Prop := fun e w' => (e = .returned (.bool true) ∨ (e = .returned (.bool false) ∧ P)) ∧ Kept Nope w w'
def vcells (v : V) (ks ds : Value) : Array Value := #[.int .i64 v.kind, .int .u64 v.num, .string v.text, ks, .int .i64 v.of_, ds]
theorem same_mk {k k' n n' o o' : Int} {t t' : ByteArray} {l l' d d' : List V} :
    Same (.mk k n t l o d) (.mk k' n' t' l' o' d') ↔ (k = k' ∧ n = n' ∧ t = t' ∧ l.length = l'.length ∧ d.length = d'.length ∧ (∀ (i : Nat) (x y : V), l[i]? = some x → l'[i]? = some y → Same x y) ∧ (∀ (x y : V), d[0]? = some x → d'[0]? = some y → Same x y)) := by
  constructor
  · rintro ⟨h0, h1, h2, h3, h4, h5, h6⟩
    exact ⟨h0, h1, h2, h3, h4, h5, h6⟩
  · rintro ⟨h0, h1, h2, h3, h4, h5, h6⟩
    exact .mk h0 h1 h2 h3 h4 h5 h6
theorem VSl.six {S : Nat → Prop} {w : World} {s : Value} {l : List V} (h : VSl S w s l) {i : Nat} {v : V} (hv : l[i]? = some v) : ∃ b off cap ks ds, s = .slice (some ⟨b, off, none⟩) l.length cap ∧ l.length ≤ cap ∧ cap ≤ maxLen ∧ VAgg S w (vagg v ks ds) v ∧
      w.cell? ⟨b, off + i * 6, none⟩ = some (.int .i64 v.kind) ∧ w.cell? ⟨b, off + i * 6 + 1, none⟩ = some (.int .u64 v.num) ∧
        w.cell? ⟨b, off + i * 6 + 2, none⟩ = some (.string v.text) ∧ w.cell? ⟨b, off + i * 6 + 3, none⟩ = some ks ∧
        w.cell? ⟨b, off + i * 6 + 4, none⟩ = some (.int .i64 v.of_) ∧ w.cell? ⟨b, off + i * 6 + 5, none⟩ = some ds := by
  obtain ⟨b, off, cap, ks, ds, e, _, h1, h2, h3, c0, c1, c2, c3, c4, c5, k0, k1⟩ := h.at_ hv
  exact ⟨b, off, cap, ks, ds, e, h1, h2, ⟨ks, ds, rfl, h3, k0, k1⟩, c0, c1, c2, c3, c4, c5⟩
theorem text_ne {t t' : ByteArray} (h : ¬ t = t') : ¬ t.toList = t'.toList := by
  intro e
  rw [ByteArray.toList_eq, ByteArray.toList_eq] at e
  exact h (by obtain ⟨a⟩ := t; obtain ⟨b⟩ := t'; exact congrArg ByteArray.mk (Array.toList_inj.1 e))
theorem VAgg.drew {S : Nat → Prop} {w : World} {x : Value} {v : V} (h : VAgg S w x v) : VAgg S w.drew x v := h.keep ((Kept.refl Nope w).drew) fun _ _ _ h => h
theorem Blk.two (w : World) (A B : Array Value) (t : TypeId) : Blk ((w.alloc (.cells A t)).alloc (.cells B t)) w.heap.size t A ∧ Blk ((w.alloc (.cells A t)).alloc (.cells B t)) (w.heap.size + 1) t B ∧ Kept Nope w ((w.alloc (.cells A t)).alloc (.cells B t)) := by
  have h := Blk.new (w.alloc (.cells A t)) t B
  rw [World.size_alloc] at h
  exact ⟨(Blk.new w t A).alloc _, h, ((Kept.refl _ _).alloc _).alloc _⟩
theorem Blk.one (w : World) (A : Array Value) (t : TypeId) : Blk (w.alloc (.cells A t)) w.heap.size t A ∧ Kept Nope w (w.alloc (.cells A t)) := ⟨Blk.new w t A, (Kept.refl _ _).alloc _⟩
set_option maxRecDepth 100000 in
set_option maxHeartbeats 1600000 in
theorem SameValue_step (a b : V) (w : World) (xa xb : Value) (ha : VAgg Any_ w xa a) (hb : VAgg Any_ w xb b)
    (ih : ∀ k, k ∈ a.kids ∨ k ∈ a.desc → ∀ (u : V) (W : World) (x y : Value), VAgg Any_ W x k → VAgg Any_ W y u → Calls Tryz.prog 24 #[x, y] W (AskB (Same k u) W)) :
    Calls Tryz.prog 24 #[xa, xb] w (AskB (Same a b) w) := by
  obtain ⟨ka, da, rfl, hna, hka, hda⟩ := ha
  obtain ⟨kb, db, rfl, hnb, hkb, hdb⟩ := hb
  obtain ⟨k, n, t, l, o, d⟩ := a
  obtain ⟨k', n', t', l', o', d'⟩ := b
  simp only [V.kids_mk, V.desc_mk] at hka hkb hda hdb ih
  unfold vagg
  simp only [V.kind_mk, V.num_mk, V.text_mk, V.of_mk]
  have HKA := Lib.hid (And.intro hka (And.intro hkb (And.intro hda hdb)))
  have HI := Lib.hid ih
  obtain ⟨p1, c1, rfl, q1, m1⟩ := hka.form
  obtain ⟨p2, c2, rfl, q2, m2⟩ := hkb.form
  obtain ⟨p3, c3, rfl, q3, m3⟩ := hda.form
  obtain ⟨p4, c4, rfl, q4, m4⟩ := hdb.form
  have hlm : l.length ≤ maxLen := by omega
  have hdm : d.length ≤ maxLen := by omega
  clear hna hnb hka hkb hda hdb ih q1 q2 q3 q4 m1 m2 m3 m4
  by_cases e0 : k = k'
  · subst e0
    by_cases e1 : n = n'
    · subst e1
      by_cases e2 : t = t'
      · subst e2
        by_cases e3 : l.length = l'.length
        · rw [← e3]
          by_cases e4 : d.length = d'.length
          · rw [← e4]
            have HE := Lib.hid (And.intro e3 e4)
            clear e3 e4
            unfold maxLen at hlm hdm
            obtain ⟨nl, hnl⟩ : ∃ m, l.length = m := ⟨_, rfl⟩
            obtain ⟨nd, hnd⟩ : ∃ m, d.length = m := ⟨_, rfl⟩
            rw [hnl] at hlm ⊢
            rw [hnd] at hdm ⊢
            have HL := Lib.hid (And.intro hnl hnd)
            clear hnl hnd
            go_enter Tryz.func24, Tryz.ntmps24
            go_wp2
            have HT := Blk.two w #[Value.int .i64 k, .int .u64 n, .string t, .slice p1 nl c1, .int .i64 o, .slice p3 nd c3] #[Value.int .i64 k, .int .u64 n, .string t, .slice p2 nl c2, .int .i64 o', .slice p4 nd c4] 92
            generalize (w.alloc (.cells #[Value.int .i64 k, .int .u64 n, .string t, .slice p1 nl c1, .int .i64 o, .slice p3 nd c3] 92)).alloc (.cells #[Value.int .i64 k, .int .u64 n, .string t, .slice p2 nl c2, .int .i64 o', .slice p4 nd c4] 92) = W2 at HT ⊢
            generalize w.heap.size + 1 = B at HT ⊢
            generalize w.heap.size = A at HT ⊢
            have HW := Lib.hid HT
            clear HT
            go_loopw [46] (fun c w' => ∃ kk : Nat, kk ≤ nl ∧ c = .int .i64 kk ∧ Hid (Kept Nope W2 w' ∧ ∀ (i : Nat) (x y : V), i < kk → l[i]? = some x → l'[i]? = some y → Same x y)) (fun c _ => nl - (RowKit.intOf c).toNat)
            case atStart => exact ⟨0, by omega, rfl, Lib.hid ⟨Kept.refl _ _, fun i x y hi => by omega⟩⟩
            case round =>
              obtain ⟨kk, hk, rfl, HR⟩ := hrel
              have bA3 := (HW.out.1.kept HR.out.1 (fun h => h)).cell 3
              have bB3 := (HW.out.2.1.kept HR.out.1 (fun h => h)).cell 3
              have bA5 := (HW.out.1.kept HR.out.1 (fun h => h)).cell 5
              have bB5 := (HW.out.2.1.kept HR.out.1 (fun h => h)).cell 5
              simp only [List.getElem?_toArray, List.getElem?_cons_zero, List.getElem?_cons_succ] at bA3 bB3 bA5 bB5
              have hkw : Kept Nope w wr := HW.out.2.2.trans' HR.out.1
              have HKW := Lib.hid hkw
              clear hkw
              by_cases hkn : kk < nl
              · have hkn' : (kk : Int) < (nl : Int) := by omega
                have hk0 : (0 : Int) ≤ (kk : Int) := by omega
                have e1 : IntKind.i64.wrap ((kk : Int) + 1) = (kk : Int) + 1 := IntWalk.i64_in _ (by omega)
                obtain ⟨x, hx⟩ : ∃ v, l[kk]? = some v := ⟨l[kk]'(by rw [HL.out.1]; exact hkn), List.getElem?_eq_getElem _⟩
                obtain ⟨y, hy⟩ : ∃ v, l'[kk]? = some v := ⟨l'[kk]'(by rw [← HE.out.1, HL.out.1]; exact hkn), List.getElem?_eq_getElem _⟩
                obtain ⟨b1, off1, cap1, ks1, ds1, q1, hc1, _, hvx, x0, x1, x2, x3, x4, x5⟩ := (HKA.out.1.keep HKW.out (fun _ _ _ h => h)).six hx
                obtain ⟨b2, off2, cap2, ks2, ds2, q2, hc2, _, hvy, y0, y1, y2, y3, y4, y5⟩ := (HKA.out.2.1.keep HKW.out (fun _ _ _ h => h)).six hy
                injection q1 with q1 _ q1'
                injection q2 with q2 _ q2'
                subst q1 q1' q2 q2'
                have HX := Lib.hid (And.intro hx (And.intro hy (And.intro hvx hvy)))
                clear hx hy hvx hvy hc1 hc2
                go_wp2
                refine wp_region_tail 10 (by kernel_rfl) (by kernel_rfl) (fun K hK => ?_)
                simp only [List.take_succ_cons, List.take_zero, List.drop_succ_cons, List.drop_zero] at hK ⊢
                repeat still_step
                refine wpStill_nil (hK _ ?_)
                clear hK K
                go_wp2_with (go_at_call 24; go_must (refine (HI.out x (.inl (List.mem_of_getElem? HX.out.1)) y _ _ _ HX.out.2.2.1.drew HX.out.2.2.2.drew).mono ?_; rintro e w1 ⟨⟨rfl, hb⟩ | ⟨rfl, hb⟩, hk1⟩; all_goals have H1 := Lib.hid (And.intro hb (((Kept.refl Nope wr).drew).trans' hk1)); clear hb hk1))
                · go_roundw
                  case rel =>
                    refine ⟨kk + 1, by omega, by go_num, Lib.hid ⟨HR.out.1.trans' H1.out.2, fun i x' y' hi hx' hy' => ?_⟩⟩
                    rcases Nat.lt_or_ge i kk with hlt | hge
                    · exact HR.out.2 i x' y' hlt hx' hy'
                    · obtain rfl : i = kk := by omega
                      have h1 := HX.out.1
                      have h2 := HX.out.2.1
                      rw [hx'] at h1
                      rw [hy'] at h2
                      cases h1
                      cases h2
                      exact H1.out.1
                  case measure => simp [RowKit.intOf]; omega
                · go_ret
                  exact ⟨.inr ⟨rfl, fun h => H1.out.1 ((same_mk.1 h).2.2.2.2.2.1 kk x y HX.out.1 HX.out.2.1)⟩, HKW.out.trans' H1.out.2⟩
              · obtain rfl : kk = nl := by omega
                have hlt : ¬ (kk : Int) < (kk : Int) := by omega
                have hall : ∀ (i : Nat) (x y : V), l[i]? = some x → l'[i]? = some y → Same x y := fun i x y hx hy => HR.out.2 i x y (by have := (List.getElem?_eq_some_iff.1 hx).1; have := HL.out.1; omega) hx hy
                have HALL := Lib.hid hall
                clear hall
                rcases Nat.eq_zero_or_pos nd with hz | hz
                · subst hz
                  go_wp2
                  go_quiet (fail)
                  go_wp2
                  go_ret
                  exact ⟨.inl ⟨rfl, same_mk.2 ⟨rfl, rfl, rfl, HE.out.1, HE.out.2, HALL.out, fun x y hx => by have := (List.getElem?_eq_some_iff.1 hx).1; have := HL.out.2; omega⟩⟩, (HKW.out).drewN _⟩
                · have hz1 : ((nd : Int) == 0) = false := by simp; omega
                  have hz2 : ¬ (nd : Int) = 0 := by omega
                  have hz3 : (0 : Int) < (nd : Int) := by omega
                  obtain ⟨x, hx⟩ : ∃ v, d[0]? = some v := ⟨d[0]'(by rw [HL.out.2]; exact hz), List.getElem?_eq_getElem _⟩
                  obtain ⟨y, hy⟩ : ∃ v, d'[0]? = some v := ⟨d'[0]'(by rw [← HE.out.2, HL.out.2]; exact hz), List.getElem?_eq_getElem _⟩
                  obtain ⟨b1, off1, cap1, ks1, ds1, q1, hc1, _, hvx, x0, x1, x2, x3, x4, x5⟩ := (HKA.out.2.2.1.keep HKW.out (fun _ _ _ h => h)).six hx
                  obtain ⟨b2, off2, cap2, ks2, ds2, q2, hc2, _, hvy, y0, y1, y2, y3, y4, y5⟩ := (HKA.out.2.2.2.keep HKW.out (fun _ _ _ h => h)).six hy
                  simp only [Nat.zero_mul, Nat.add_zero] at x0 x1 x2 x3 x4 x5 y0 y1 y2 y3 y4 y5
                  injection q1 with q1 _ q1'
                  injection q2 with q2 _ q2'
                  subst q1 q1' q2 q2'
                  have HX := Lib.hid (And.intro hx (And.intro hy (And.intro hvx hvy)))
                  clear hx hy hvx hvy hc1 hc2
                  go_wp2
                  refine wp_region_tail 13 (by kernel_rfl) (by kernel_rfl) (fun K hK => ?_)
                  simp only [List.take_succ_cons, List.take_zero, List.drop_succ_cons, List.drop_zero] at hK ⊢
                  repeat still_step
                  refine wpStill_nil (hK _ ?_)
                  clear hK K
                  go_wp2_with (go_at_call 24; go_must (refine (HI.out x (.inr (List.mem_of_getElem? HX.out.1)) y _ _ _ HX.out.2.2.1.drew HX.out.2.2.2.drew).mono ?_; rintro e w1 ⟨⟨rfl, hb⟩ | ⟨rfl, hb⟩, hk1⟩; all_goals have H1 := Lib.hid (And.intro hb (((Kept.refl Nope wr).drew).trans' hk1)); clear hb hk1))
                  · go_ret
                    refine ⟨.inl ⟨rfl, same_mk.2 ⟨rfl, rfl, rfl, HE.out.1, HE.out.2, HALL.out, fun x' y' hx' hy' => ?_⟩⟩, HKW.out.trans' H1.out.2⟩
                    have h1 := HX.out.1
                    have h2 := HX.out.2.1
                    rw [hx'] at h1
                    rw [hy'] at h2
                    cases h1
                    cases h2
                    exact H1.out.1
                  · go_ret
                    exact ⟨.inr ⟨rfl, fun h => H1.out.1 ((same_mk.1 h).2.2.2.2.2.2 x y HX.out.1 HX.out.2.1)⟩, HKW.out.trans' H1.out.2⟩
          · have e4' : ¬ (d.length : Int) = (d'.length : Int) := by omega
            go_enter Tryz.func24, Tryz.ntmps24
            go_wp2
            go_ret
            exact ⟨.inr ⟨rfl, fun h => e4 (same_mk.1 h).2.2.2.2.1⟩, ((Kept.refl _ _).alloc _).alloc _⟩
        · have e3' : ¬ (l.length : Int) = (l'.length : Int) := by omega
          go_enter Tryz.func24, Tryz.ntmps24
          go_wp2
          go_ret
          exact ⟨.inr ⟨rfl, fun h => e3 (same_mk.1 h).2.2.2.1⟩, ((Kept.refl _ _).alloc _).alloc _⟩
      · have e2' := text_ne e2
        go_enter Tryz.func24, Tryz.ntmps24
        go_wp2
        go_ret
        exact ⟨.inr ⟨rfl, fun h => e2 (same_mk.1 h).2.2.1⟩, ((Kept.refl _ _).alloc _).alloc _⟩
    · go_enter Tryz.func24, Tryz.ntmps24
      go_wp2
      go_ret
      exact ⟨.inr ⟨rfl, fun h => e1 (same_mk.1 h).2.1⟩, ((Kept.refl _ _).alloc _).alloc _⟩
  · go_enter Tryz.func24, Tryz.ntmps24
    go_wp2
    go_ret
    exact ⟨.inr ⟨rfl, fun h => e0 (same_mk.1 h).1⟩, ((Kept.refl _ _).alloc _).alloc _⟩
theorem SameValue_any : ∀ (n : Nat) (a : V), SizeOf.sizeOf a ≤ n → ∀ (b : V) (w : World) (xa xb : Value), VAgg Any_ w xa a → VAgg Any_ w xb b → Calls Tryz.prog 24 #[xa, xb] w (AskB (Same a b) w) := by
  intro n
  induction n using Nat.strongRecOn with
  | _ n ihn =>
    intro a hn b w xa xb ha hb
    refine SameValue_step a b w xa xb ha hb fun k hk u W x y hx hy => ?_
    have hs : SizeOf.sizeOf k < SizeOf.sizeOf a := by
      rcases hk with h | h
      · exact V.sizeOf_kid h
      · exact V.sizeOf_desc h
    exact ihn (SizeOf.sizeOf k) (by omega) k (Nat.le_refl _) u W x y hx hy
theorem SameValue_ok (a b : V) (w : World) (xa xb : Value) (ha : VAgg Any_ w xa a) (hb : VAgg Any_ w xb b) : Calls Tryz.prog 24 #[xa, xb] w (AskB (Same a b) w) := SameValue_any _ a (Nat.le_refl _) b w xa xb ha hb
end Go.Proofs.YtbckofjoancdjaaGreatDoor
namespace Go.Proofs.YtbckofjoancdjaaGreatDoor
open Go Go.RowKit Go.Lib
theorem u64_bd (x : Int) : 0 ≤ IntKind.u64.wrap x ∧ IntKind.u64.wrap x < 18446744073709551616 := by simp only [IntKind.wrap, IntKind.bits, IntKind.signed]; simp; omega
def FormsAt (w : World) (f : Nat) : Prop := ∃ (st : Int) (sh : Bool), Blk w f 34 #[.int .u64 st, .bool sh] ∧ 0 ≤ st ∧ st < 18446744073709551616
def PickP (f n : Nat) (w : World) : Ending → World → Prop := fun e w' => ∃ i : Nat, i < n ∧ e = .returned (.int .i64 i) ∧ FormsAt w' f ∧ Kept (Only f) w w'
set_option maxRecDepth 100000 in
set_option maxHeartbeats 1600000 in
theorem pick_ok (f n : Nat) (w : World) (h : FormsAt w f) (h1 : 1 ≤ n) (h2 : n ≤ 1000000) : Calls Tryz.prog 25 #[.pointer (some ⟨f, 0, none⟩), .int .i64 n] w (PickP f n w) := by
  have HF := Lib.hid h
  obtain ⟨st, sh, hb, s0, s1⟩ := h
  have c0 := hb.cell 0
  have c1 := hb.cell 1
  have f0 := hb.frozen 0
  simp only [List.getElem?_toArray, List.getElem?_cons_zero, List.getElem?_cons_succ] at c0 c1
  have HB := Lib.hid hb
  clear hb
  cases sh
  · by_cases hn : n ≤ 1
    · have hn' : (n : Int) ≤ 1 := by omega
      go_enter Tryz.func25, Tryz.ntmps25
      go_wp2
      go_ret
      exact ⟨0, by omega, rfl, HF.out, Kept.refl _ _⟩
    · have hn' : (1 : Int) < (n : Int) := by omega
      go_enter Tryz.func25, Tryz.ntmps25
      go_wp2
      go_ret
      have hb := u64_bd (IntKind.u64.wrap (st * 6364136223846793005) + 1442695040888963407)
      generalize IntKind.u64.wrap (IntKind.u64.wrap (st * 6364136223846793005) + 1442695040888963407) = X at hb ⊢
      have hw : wrap64 (X / 8589934592) = X / 8589934592 := by unfold wrap64; omega
      have hm : (X / 8589934592).tmod n = (X / 8589934592) % n := Int.tmod_eq_emod_of_nonneg (by omega)
      have hp : 0 ≤ (X / 8589934592) % (n : Int) := Int.emod_nonneg _ (by omega)
      have hl : (X / 8589934592) % (n : Int) < n := Int.emod_lt_of_pos _ (by omega)
      refine ⟨((X / 8589934592) % (n : Int)).toNat, by omega, ?_, ⟨X, false, ?_, hb⟩, (Kept.refl _ _).set1 0 _⟩
      · show Ending.returned (.int .i64 ((wrap64 (X / 8589934592)).tmod n)) = _
        rw [hw, hm, Int.toNat_of_nonneg hp]
      · have h := HB.out.set_ 0 (.int .u64 X)
        simpa using h
  · go_enter Tryz.func25, Tryz.ntmps25
    go_wp2
    go_ret
    exact ⟨0, by omega, rfl, HF.out, Kept.refl _ _⟩
end Go.Proofs.YtbckofjoancdjaaGreatDoor
