/- Package spec: numbered: the forms of a number. -/
import Derived.LoopTactic
import Derived.IntWalk
import Derived.Outline
import Derived.BigQuiet
import Derived.RegionTactic
import Derived.Deep.DeepCutAuto
import Derived.Test.YtbckofjoancdjaaGreatDoorK17
import Derived.Test.YtbckofjoancdjaaGreatDoorK18
namespace Go.Proofs.YtbckofjoancdjaaGreatDoor
open Go Go.RowKit Go.Lib
attribute [local go_sem ↓] Go.wp_at_zero Go.wp_at_succ
def NumFx (k : Int) : Prop := (∀ W, Calls Tryz.prog 89 #[.int .i64 k] W fun e w' => e = .returned (.int .i64 (coded k)) ∧ Kept Nope W w') ∧ (∀ W, Calls Tryz.prog 98 #[.int .i64 k] W fun e w' => e = .returned (.int .i64 (fsz k)) ∧ Kept Nope W w')
set_option maxRecDepth 100000 in
theorem upon_put {o : Oper} {a : Act} {K : Act → World → Prop} {Q : Exit → Act → World → Prop} {f : Unit → World → Result Next} {w : World} {b : Nat} {t : List (Int × Int)} {k n : Int} (h : MapAt w b (t.map ip)) (hn : t.all (fun p => decide (p.1 ≠ k)) = true)
    (hK : ∀ w', MapAt w' b ((t ++ [(k, n)]).map ip) → Kept (Only b) w w' → Oper.upon Tryz.prog o a K Q ((Result.ok () w').andThen f)) : Oper.upon Tryz.prog o a K Q ((Sem.run Tryz.prog (Instr.mapUpdate 243 (.map (some b)) (.int .i64 k) (.int .i64 n)) w).andThen f) := by
  obtain ⟨w', hrun, h1, h2⟩ := h.put (key := .int .i64 k) (val := .int .i64 n) Tryz.underlying243 (fun W => check_int false k W) (NoKey.int fun p hp => by have := List.all_eq_true.1 hn p hp; simpa using this)
  exact Eq.mpr (congrArg (fun r => Oper.upon Tryz.prog o a K Q (Result.andThen r f)) hrun) (hK w' (by simpa [ip] using h1) h2)
set_option maxRecDepth 100000 in
theorem upon_look {o : Oper} {a : Act} {K : Act → World → Prop} {Q : Exit → Act → World → Prop} {f : Value → World → Result Next} {w : World} {b : Nat} {t : List (Int × Int)} {k : Int} (h : MapAt w b (t.map ip))
    (hK : Oper.upon Tryz.prog o a K Q ((Result.ok (.int .i64 (look t k)) w).andThen f)) : Oper.upon Tryz.prog o a K Q ((Sem.run Tryz.prog (Instr.lookup 243 (.map (some b)) (.int .i64 k) false) w).andThen f) := by
  exact Eq.mpr (congrArg (fun r => Oper.upon Tryz.prog o a K Q (Result.andThen r f)) (lookup_int h k)) hK
theorem numForms_o (k n : Int) (t : ByteArray) (h4 : ¬ (k = 4 ∨ k = 5)) (h8 : ¬ (k = 8 ∨ k = 9)) : numForms (.mk k n t [] 0 []) = [(coded k, be (fsz k) n.toNat)] := by
  simp only [numForms, V.kind_mk, V.num_mk, h4, h8, false_and, if_false, List.nil_append]
theorem numForms_a (k n : Int) (t : ByteArray) (h4 : k = 4 ∨ k = 5) (h : ¬ n < 256) : numForms (.mk k n t [] 0 []) = [(coded k, be (fsz k) n.toNat)] := by
  have h8 : ¬ (k = 8 ∨ k = 9) := by omega
  have h0 : ¬ n = 0 := by omega
  simp only [numForms, V.kind_mk, V.num_mk, h8, h, h0, and_false, false_and, if_false, List.nil_append]
theorem numForms_b (k n : Int) (t : ByteArray) (h4 : k = 4 ∨ k = 5) (h : n < 256) (h0 : ¬ n = 0) : numForms (.mk k n t [] 0 []) = [(if k = 4 then 0x52 else 0x53, be 1 n.toNat), (coded k, be (fsz k) n.toNat)] := by
  have h8 : ¬ (k = 8 ∨ k = 9) := by omega
  simp only [numForms, V.kind_mk, V.num_mk, h4, h8, h, h0, true_and, if_true, and_false, false_and, if_false, List.nil_append, List.append_nil, List.cons_append]
  rfl
theorem numForms_c (k : Int) (t : ByteArray) (h4 : k = 4 ∨ k = 5) : numForms (.mk k 0 t [] 0 []) = [(if k = 4 then 0x43 else 0x44, []), (if k = 4 then 0x52 else 0x53, be 1 0), (coded k, be (fsz k) 0)] := by
  have h8 : ¬ (k = 8 ∨ k = 9) := by omega
  have h : (0 : Int) < 256 := by omega
  simp only [numForms, V.kind_mk, V.num_mk, h4, h8, h, true_and, if_true, false_and, if_false, List.nil_append, List.append_nil, List.cons_append]
  rfl
theorem numForms_d (k n : Int) (t : ByteArray) (h8 : k = 8 ∨ k = 9) (h : ¬ (n < 128 ∨ 18446744073709551488 ≤ n)) : numForms (.mk k n t [] 0 []) = [(coded k, be (fsz k) n.toNat)] := by
  have h4 : ¬ (k = 4 ∨ k = 5) := by omega
  simp only [numForms, V.kind_mk, V.num_mk, h4, h, and_false, false_and, if_false, List.nil_append]
theorem numForms_e (k n : Int) (t : ByteArray) (h8 : k = 8 ∨ k = 9) (h : n < 128 ∨ 18446744073709551488 ≤ n) : numForms (.mk k n t [] 0 []) = [(if k = 8 then 0x54 else 0x55, be 1 n.toNat), (coded k, be (fsz k) n.toNat)] := by
  have h4 : ¬ (k = 4 ∨ k = 5) := by omega
  simp only [numForms, V.kind_mk, V.num_mk, h4, h8, h, true_and, if_true, false_and, if_false, List.nil_append, List.append_nil, List.cons_append]
  rfl
theorem MapAt.keepd {M : Nat → Prop} {w w' : World} {b : Nat} {es : List (Value × Value)} (h : MapAt w b es) (hk : Kept M w.drew w') (hb : ¬ M b) : MapAt w' b es := MapAt.keep (w := w.drew) h hk hb
theorem BRow.apartM {base b : Nat} {w : World} {x : Value} {bs : List UInt8} {es : List (Value × Value)} (h : BRow base w x bs) (hb : MapAt w b es) : ∀ k, x.ownBlock = some k → ¬ Only b k := by
  intro k hk e
  have e' : k = b := e
  subst e'
  rcases h.2 with ⟨rfl, _⟩ | ⟨g', cap, cur, rfl, _, hg, _⟩
  · cases hk
  · have e2 : g' = k := by injection hk
    subst e2
    obtain ⟨arr, clock, h1, _⟩ := hb
    rw [hg] at h1
    injection h1 with h1
    cases h1
theorem BRow.put2 {base b : Nat} {w w' : World} {x : Value} {bs : List UInt8} {es : List (Value × Value)} (h : BRow base w x bs) (hk : Kept (Only b) w w') (hb : MapAt w b es) : BRow base w' x bs := ownsRow_keep h hk (h.apartM hb)
theorem BRow.put1 {base : Nat} {w w' : World} {x : Value} {bs : List UInt8} {o : Obj} (h : BRow base w x bs) (hk : Kept (Only w.heap.size) (w.alloc o) w') : BRow base w' x bs :=
  ownsRow_keep (h.nope ((Kept.refl _ w).alloc o)) hk fun k hk e => by have := (h.lt k hk).2; have e' : k = w.heap.size := e; omega
theorem k9 {w w' : World} {o : Obj} (h : Kept (Only w.heap.size) (w.alloc o) w') : Kept Nope w w' := ((Kept.refl Nope w).alloc o).trans h fun b hb e => by have e' : b = w.heap.size := e; omega
theorem lit_ok {base : Nat} {w : World} {x : Value} {l2 : List Pc} {o : Obj} (h : PRow base w x l2) : ∀ p ∈ l2, BSl (fun b => base ≤ b ∧ (Value.slice (some ⟨w.heap.size, 0, none⟩) 1 1).ownBlock ≠ some b) (w.alloc o) p.s p.data := fun p hp =>
  (((h.ok p hp).mono (S' := fun b => base ≤ b ∧ b < w.heap.size) fun b hb hS => ⟨hS.1, hb⟩).keep ((Kept.refl Nope w).alloc o) fun _ _ _ h => h).mono fun b _ hb => ⟨hb.1, fun e => by have e' : some w.heap.size = some b := e; injection e' with e'; omega⟩
theorem BRow.apart {base g : Nat} {w : World} {x : Value} {bs : List UInt8} {cs : Array Value} (h : BRow base w x bs) (hb : Blk w g 170 cs) : ∀ k, x.ownBlock = some k → ¬ Only g k := by
  intro k hk e
  have e' : k = g := e
  subst e'
  rcases h.2 with ⟨rfl, _⟩ | ⟨g', cap, cur, rfl, _, hg, _⟩
  · cases hk
  · have e2 : g' = k := by injection hk
    subst e2
    unfold Blk at hb
    rw [hg] at hb
    injection hb with hb
    injection hb with _ hb _
    exact absurd hb (by decide)
set_option maxRecDepth 100000 in
set_option maxHeartbeats 25600000 in
theorem numbered_ok (k n : Int) (t : ByteArray) (ks ds : Value) (o : Int) (w : World) (hk : numKind k) (hn : 0 ≤ n ∧ n ≤ 18446744073709551615) (hfx : NumFx k) :
    Calls Tryz.prog 92 #[.agg #[.int .i64 k, .int .u64 n, .string t, ks, .int .i64 o, ds]] w (Gives fun x w' => PSl w.heap.size w' x (numForms (.mk k n t [] 0 [])) ∧ Kept Nope w w') := by
  have HFX := Lib.hid hfx
  obtain ⟨s, hs⟩ : ∃ s, IntKind.i64.wrap n = s := ⟨_, rfl⟩
  have HSN := Lib.hid (And.intro hn ((i64_of n hn).symm.trans hs))
  have HKK := Lib.hid hk
  have HBL := Lib.hid (fsz_le k)
  clear hfx hn hk
  go_enter Tryz.func92, Tryz.ntmps92
  go_upto_region 1 with fail
  go_quiet (fail)
  go_upto_region 2 with fail
  have hA := (Blk.new w 92 #[.int .i64 k, .int .u64 n, .string t, ks, .int .i64 o, ds]).drewN nq
  have hKA := ((Kept.refl Nope w).alloc (.cells #[.int .i64 k, .int .u64 n, .string t, ks, .int .i64 o, ds] 92)).drewN nq
  generalize (w.alloc (.cells #[.int .i64 k, .int .u64 n, .string t, ks, .int .i64 o, ds] 92)).drewN nq = W1 at hA hKA ⊢
  generalize hAe : w.heap.size = A at hA ⊢
  have HAE := Lib.hid hAe
  clear hAe hs
  go_cut [5] (fun s5 wx => ∃ g p c, s5 = .pointer (some ⟨g, 0, none⟩) ∧ Hid (Blk wx g 170 #[.int .i64 (coded k), .slice p (fsz k) c] ∧ BRow A wx (.slice p (fsz k) c) (be (fsz k) n.toNat) ∧ Kept Nope W1 wx))
  case first =>
    have HM : Hid (∀ w', Kept Nope W1 w' → w'.cell? ⟨A, 0, none⟩ = some (.int .i64 k)) := Lib.hid fun w' h => (hA.kept h (fun h => h)).cell 0
    have HA := Lib.hid (And.intro hA.lt HSN.out.1)
    clear hA hKA
    go_region_held3 (fun w' => Kept Nope W1 w' ∧ w'.cell? ⟨A, 0, none⟩ = some (.int .i64 k)) (first | exact ⟨(Kept.refl _ W1).drew, HM.out _ (Kept.refl _ W1).drew⟩ | exact ⟨‹Kept Nope W1 _›, HM.out _ ‹Kept Nope W1 _›⟩ | exact ⟨‹Kept Nope W1 _›.alloc _, HM.out _ (‹Kept Nope W1 _›.alloc _)⟩ | exact ⟨(Kept.refl _ W1).drew.alloc _, HM.out _ ((Kept.refl _ W1).drew.alloc _)⟩ | exact ⟨(‹Kept Nope W1 _›.setCell (.inr (by first | exact Nat.le_refl _ | exact Kept.size ‹Kept Nope W1 _›)) _).setCell (.inr (by first | exact Nat.le_refl _ | exact Kept.size ‹Kept Nope W1 _›)) _, HM.out _ ((‹Kept Nope W1 _›.setCell (.inr (by first | exact Nat.le_refl _ | exact Kept.size ‹Kept Nope W1 _›)) _).setCell (.inr (by first | exact Nat.le_refl _ | exact Kept.size ‹Kept Nope W1 _›)) _)⟩) (first | (have _t := HG; go_at_call 89; refine (HFX.out.1 _).mono ?_; rintro e w2 ⟨rfl, hk⟩; have hN := (‹Kept Nope W1 _ ∧ _›).1.trans' hk; (try replace H4 := Lib.hid (H4.out.nope hk)); replace HG := Lib.hid (HG.out.kept hk (fun h => h)); clear q0 q1 f0 f1 _t; have q0 := HG.out.cell 0; have q1 := HG.out.cell 1; have f0 := HG.out.frozen 0; have f1 := HG.out.frozen 1; simp only [List.getElem?_toArray, List.getElem?_cons_zero, List.getElem?_cons_succ] at q0 q1; clear hk) | (go_at_call 89; refine (HFX.out.1 _).mono ?_; rintro e w2 ⟨rfl, hk⟩; have hN := (‹Kept Nope W1 _ ∧ _›).1.trans' hk; (try replace H4 := Lib.hid (H4.out.nope hk)); have HG := Lib.hid ((Blk.new _ 170 _).kept hk (fun h => h)); have q0 := HG.out.cell 0; have q1 := HG.out.cell 1; have f0 := HG.out.frozen 0; have f1 := HG.out.frozen 1; simp only [List.getElem?_toArray, List.getElem?_cons_zero, List.getElem?_cons_succ] at q0 q1; clear hk) | (go_at_call 89; refine (HFX.out.1 _).mono ?_; rintro e w2 ⟨rfl, hk⟩; have hN := (‹Kept Nope W1 _ ∧ _›).1.trans' hk; (try replace H4 := Lib.hid (H4.out.nope hk)); have HG := Lib.hid ((Blk.new _ 170 _).drew.kept hk (fun h => h)); have q0 := HG.out.cell 0; have q1 := HG.out.cell 1; have f0 := HG.out.frozen 0; have f1 := HG.out.frozen 1; simp only [List.getElem?_toArray, List.getElem?_cons_zero, List.getElem?_cons_succ] at q0 q1; clear hk) | (go_at_call 89; refine (HFX.out.1 _).mono ?_; rintro e w2 ⟨rfl, hk⟩; have hN := (‹Kept Nope W1 _ ∧ _›).1.trans' hk; (try replace H4 := Lib.hid (H4.out.nope hk)); clear hk) | (have _t := HG; go_at_call 98; refine (HFX.out.2 _).mono ?_; rintro e w3 ⟨rfl, hk⟩; have hN := (‹Kept Nope W1 _ ∧ _›).1.trans' hk; (try replace H4 := Lib.hid (H4.out.nope hk)); replace HG := Lib.hid (HG.out.kept hk (fun h => h)); clear q0 q1 f0 f1 _t; have q0 := HG.out.cell 0; have q1 := HG.out.cell 1; have f0 := HG.out.frozen 0; have f1 := HG.out.frozen 1; simp only [List.getElem?_toArray, List.getElem?_cons_zero, List.getElem?_cons_succ] at q0 q1; clear hk) | (go_at_call 98; refine (HFX.out.2 _).mono ?_; rintro e w3 ⟨rfl, hk⟩; have hN := (‹Kept Nope W1 _ ∧ _›).1.trans' hk; (try replace H4 := Lib.hid (H4.out.nope hk)); have HG := Lib.hid ((Blk.new _ 170 _).kept hk (fun h => h)); have q0 := HG.out.cell 0; have q1 := HG.out.cell 1; have f0 := HG.out.frozen 0; have f1 := HG.out.frozen 1; simp only [List.getElem?_toArray, List.getElem?_cons_zero, List.getElem?_cons_succ] at q0 q1; clear hk) | (go_at_call 98; refine (HFX.out.2 _).mono ?_; rintro e w3 ⟨rfl, hk⟩; have hN := (‹Kept Nope W1 _ ∧ _›).1.trans' hk; (try replace H4 := Lib.hid (H4.out.nope hk)); have HG := Lib.hid ((Blk.new _ 170 _).drew.kept hk (fun h => h)); have q0 := HG.out.cell 0; have q1 := HG.out.cell 1; have f0 := HG.out.frozen 0; have f1 := HG.out.frozen 1; simp only [List.getElem?_toArray, List.getElem?_cons_zero, List.getElem?_cons_succ] at q0 q1; clear hk) | (go_at_call 98; refine (HFX.out.2 _).mono ?_; rintro e w3 ⟨rfl, hk⟩; have hN := (‹Kept Nope W1 _ ∧ _›).1.trans' hk; (try replace H4 := Lib.hid (H4.out.nope hk)); clear hk) | (have _t := HG; go_at_call 96; refine (big_ok _ (fsz k) _ ⟨by have := HA.out.2; omega, by have := HA.out.2; omega⟩ (HBL.out)).mono ?_; rintro e w4 ⟨x4, rfl, ho4, hk⟩; obtain ⟨p4, c4, rfl⟩ := ownsRow_form0 ho4; have H4 := Lib.hid (show BRow A w4 (.slice p4 (fsz k) c4) (be (fsz k) n.toNat) from BRow.mono (by unfold BRow; rw [be_length]; exact ho4) (Nat.le_trans (Nat.le_of_lt HA.out.1) (‹Kept Nope W1 _ ∧ _›).1.size)); clear ho4; have hN := (‹Kept Nope W1 _ ∧ _›).1.trans' hk; replace HG := Lib.hid (HG.out.kept hk (fun h => h)); clear q0 q1 f0 f1 _t; have q0 := HG.out.cell 0; have q1 := HG.out.cell 1; have f0 := HG.out.frozen 0; have f1 := HG.out.frozen 1; simp only [List.getElem?_toArray, List.getElem?_cons_zero, List.getElem?_cons_succ] at q0 q1; clear hk) | (go_at_call 96; refine (big_ok _ (fsz k) _ ⟨by have := HA.out.2; omega, by have := HA.out.2; omega⟩ (HBL.out)).mono ?_; rintro e w4 ⟨x4, rfl, ho4, hk⟩; obtain ⟨p4, c4, rfl⟩ := ownsRow_form0 ho4; have H4 := Lib.hid (show BRow A w4 (.slice p4 (fsz k) c4) (be (fsz k) n.toNat) from BRow.mono (by unfold BRow; rw [be_length]; exact ho4) (Nat.le_trans (Nat.le_of_lt HA.out.1) (‹Kept Nope W1 _ ∧ _›).1.size)); clear ho4; have hN := (‹Kept Nope W1 _ ∧ _›).1.trans' hk; have HG := Lib.hid ((Blk.new _ 170 _).kept hk (fun h => h)); have q0 := HG.out.cell 0; have q1 := HG.out.cell 1; have f0 := HG.out.frozen 0; have f1 := HG.out.frozen 1; simp only [List.getElem?_toArray, List.getElem?_cons_zero, List.getElem?_cons_succ] at q0 q1; clear hk) | (go_at_call 96; refine (big_ok _ (fsz k) _ ⟨by have := HA.out.2; omega, by have := HA.out.2; omega⟩ (HBL.out)).mono ?_; rintro e w4 ⟨x4, rfl, ho4, hk⟩; obtain ⟨p4, c4, rfl⟩ := ownsRow_form0 ho4; have H4 := Lib.hid (show BRow A w4 (.slice p4 (fsz k) c4) (be (fsz k) n.toNat) from BRow.mono (by unfold BRow; rw [be_length]; exact ho4) (Nat.le_trans (Nat.le_of_lt HA.out.1) (‹Kept Nope W1 _ ∧ _›).1.size)); clear ho4; have hN := (‹Kept Nope W1 _ ∧ _›).1.trans' hk; have HG := Lib.hid ((Blk.new _ 170 _).drew.kept hk (fun h => h)); have q0 := HG.out.cell 0; have q1 := HG.out.cell 1; have f0 := HG.out.frozen 0; have f1 := HG.out.frozen 1; simp only [List.getElem?_toArray, List.getElem?_cons_zero, List.getElem?_cons_succ] at q0 q1; clear hk) | (go_at_call 96; refine (big_ok _ (fsz k) _ ⟨by have := HA.out.2; omega, by have := HA.out.2; omega⟩ (HBL.out)).mono ?_; rintro e w4 ⟨x4, rfl, ho4, hk⟩; obtain ⟨p4, c4, rfl⟩ := ownsRow_form0 ho4; have H4 := Lib.hid (show BRow A w4 (.slice p4 (fsz k) c4) (be (fsz k) n.toNat) from BRow.mono (by unfold BRow; rw [be_length]; exact ho4) (Nat.le_trans (Nat.le_of_lt HA.out.1) (‹Kept Nope W1 _ ∧ _›).1.size)); clear ho4; have hN := (‹Kept Nope W1 _ ∧ _›).1.trans' hk; clear hk))
    all_goals
      go_wp2_with fail
      go_meet
      refine ⟨_, p4, c4, rfl, Lib.hid ⟨?_, ?_, ?_⟩⟩
      · first
          | exact Blk.new _ 170 _
          | (have h := ((HG.out.set_ 0 (.int .i64 (coded k))).set_ 1 (.slice p4 (fsz k) c4)); simpa using h)
      · first
          | exact H4.out.nope ((Kept.refl _ _).alloc _)
          | exact ownsRow_keep H4.out (((Kept.refl (Only _) _).set1 0 _).set1 1 _) (H4.out.apart HG.out)
      · first
          | exact ‹Kept Nope W1 _›.alloc _
          | exact (‹Kept Nope W1 _›.setCell (.inr (by first | exact Nat.le_refl _ | exact Kept.size ‹Kept Nope W1 _›)) _).setCell (.inr (by first | exact Nat.le_refl _ | exact Kept.size ‹Kept Nope W1 _›)) _
  case rest =>
    obtain ⟨g, p, c, rfl, HC⟩ := hcut
    have hA2 := hA.kept HC.out.2.2 (fun h => h)
    have a0 := hA2.cell 0
    have g0 := HC.out.1.cell 0
    have g1 := HC.out.1.cell 1
    simp only [List.getElem?_toArray, List.getElem?_cons_zero, List.getElem?_cons_succ] at a0 g0 g1
    have aa : ∀ o, (wc.alloc o).cell? ⟨A, 0, none⟩ = some (.int .i64 k) := fun o => by have h := (hA2.alloc o).cell 0; exact h
    have hP := PRow.lit (base := A) (w := wc) ⟨coded k, be (fsz k) n.toNat, .slice p (fsz k) c⟩ (Nat.le_trans (Nat.le_of_lt hA.lt) HC.out.2.2.size) HC.out.2.1.bsl
    have hK := (hKA.trans' HC.out.2.2).alloc (.cells #[.int .i64 (coded k), .slice p (fsz k) c] 170)
    have HPS : Hid (PSl A (wc.alloc (.cells #[.int .i64 (coded k), .slice p (fsz k) c] 170)) (.slice (some ⟨wc.heap.size, 0, none⟩) 1 1) [(coded k, be (fsz k) n.toNat)]) := Lib.hid ⟨_, hP, rfl⟩
    have HP := Lib.hid (And.intro hP (And.intro hK (hA2.alloc (.cells #[.int .i64 (coded k), .slice p (fsz k) c] 170))))
    have hmk := fun W => run_makeMap (P := Tryz.prog) 243 W
    clear hA hA2 hKA hP hK
    by_cases h4 : k = 4 ∨ k = 5
    · by_cases hn : n < 256
      · rcases h4 with rfl | rfl
        · go_upto_region 8 with fail
          generalize wc.alloc (.cells #[.int .i64 (coded 4), .slice p (fsz 4) c] 170) = W3 at HP HPS ⊢
          have HLT : Hid (A < W3.heap.size) := Lib.hid HP.out.2.2.lt
          have HM : Hid (∀ w', Kept Nope W3 w' → w'.cell? ⟨A, 0, none⟩ = some (.int .i64 4)) := Lib.hid fun w' h => (HP.out.2.2.kept h (fun h => h)).cell 0
          clear a0 g0 g1 aa
          go_cut [6] (fun s6 wx => ∃ p6 c6, s6 = .slice p6 2 c6 ∧ Hid (Kept Nope W3 wx ∧ ∃ l : List Pc, l.length = 2 ∧ PRow A wx (.slice p6 2 c6) l ∧ l.map Pc.form = [(82, be 1 n.toNat), (coded 4, be (fsz 4) n.toNat)]))
          case first =>
            go_region_held3 (fun w' => Kept Nope W3 w' ∧ w'.cell? ⟨A, 0, none⟩ = some (.int .i64 4)) (first | exact ⟨(Kept.refl _ W3).drew, HM.out _ (Kept.refl _ W3).drew⟩ | exact ⟨‹Kept Nope W3 _›, HM.out _ ‹Kept Nope W3 _›⟩ | exact ⟨‹Kept Nope W3 _›.alloc _, HM.out _ (‹Kept Nope W3 _›.alloc _)⟩ | exact ⟨(Kept.refl _ W3).drew.alloc _, HM.out _ ((Kept.refl _ W3).drew.alloc _)⟩) (first | (have _t := HMP; refine upon_put HMP.out.1 (by decide) ?_; intro w5 hm5 hk5; have hN5 := (‹Kept Nope W3 _ ∧ _›).1.trans hk5 (fun x hx e => by have e' : x = _ := e; have := HMP.out.2; omega); (try replace H4 := Lib.hid (H4.out.put2 hk5 HMP.out.1)); replace HMP := Lib.hid (And.intro hm5 HMP.out.2); clear hm5 hk5 _t; go_simp) | (have hb0 : W3.heap.size ≤ W3.heap.size := Nat.le_refl _; refine upon_put (t := []) (MapAt.new _) (by decide) ?_; intro w5 hm5 hk5; have hN5 := (‹Kept Nope W3 _ ∧ _›).1.trans hk5 (fun x hx e => by have e' : x = _ := e; have := hb0; omega); (try replace H4 := Lib.hid (H4.out.put1 hk5)); have HMP := Lib.hid (And.intro hm5 hb0); clear hm5 hk5 hb0; go_simp) | (have hb0 := Kept.size ‹Kept Nope W3 _›; refine upon_put (t := []) (MapAt.new _) (by decide) ?_; intro w5 hm5 hk5; have hN5 := (‹Kept Nope W3 _ ∧ _›).1.trans hk5 (fun x hx e => by have e' : x = _ := e; have := hb0; omega); (try replace H4 := Lib.hid (H4.out.put1 hk5)); have HMP := Lib.hid (And.intro hm5 hb0); clear hm5 hk5 hb0; go_simp) | (have _t := HMP; refine upon_look HMP.out.1 ?_; clear _t; go_simp) | (have _t := HMP; go_at_call 96; refine (big_ok _ 1 _ ⟨by have := HSN.out.1; omega, by have := HSN.out.1; omega⟩ (by omega)).mono ?_; rintro e w4 ⟨x4, rfl, ho4, hk⟩; obtain ⟨p4, c4, rfl⟩ := ownsRow_form0 ho4; have H4 := Lib.hid (show BRow A w4 (.slice p4 1 c4) (be 1 n.toNat) from BRow.mono (by unfold BRow; rw [be_length]; exact ho4) (Nat.le_trans (Nat.le_of_lt HLT.out) (‹Kept Nope W3 _ ∧ _›).1.size)); clear ho4; have hN := (‹Kept Nope W3 _ ∧ _›).1.trans' hk; replace HMP := Lib.hid (And.intro (HMP.out.1.keep hk (fun h => h)) HMP.out.2); clear hk _t) | (go_at_call 96; refine (big_ok _ 1 _ ⟨by have := HSN.out.1; omega, by have := HSN.out.1; omega⟩ (by omega)).mono ?_; rintro e w4 ⟨x4, rfl, ho4, hk⟩; obtain ⟨p4, c4, rfl⟩ := ownsRow_form0 ho4; have H4 := Lib.hid (show BRow A w4 (.slice p4 1 c4) (be 1 n.toNat) from BRow.mono (by unfold BRow; rw [be_length]; exact ho4) (Nat.le_trans (Nat.le_of_lt HLT.out) (‹Kept Nope W3 _ ∧ _›).1.size)); clear ho4; have hN := (‹Kept Nope W3 _ ∧ _›).1.trans' hk; have HMP := Lib.hid (And.intro (show MapAt w4 W3.heap.size (([] : List (Int × Int)).map ip) from (MapAt.new W3).keep hk (fun h => h)) (Nat.le_refl W3.heap.size)); clear hk) | (go_at_call 96; refine (big_ok _ 1 _ ⟨by have := HSN.out.1; omega, by have := HSN.out.1; omega⟩ (by omega)).mono ?_; rintro e w4 ⟨x4, rfl, ho4, hk⟩; obtain ⟨p4, c4, rfl⟩ := ownsRow_form0 ho4; have H4 := Lib.hid (show BRow A w4 (.slice p4 1 c4) (be 1 n.toNat) from BRow.mono (by unfold BRow; rw [be_length]; exact ho4) (Nat.le_trans (Nat.le_of_lt HLT.out) (‹Kept Nope W3 _ ∧ _›).1.size)); clear ho4; have hN := (‹Kept Nope W3 _ ∧ _›).1.trans' hk; have HMP := Lib.hid (And.intro (show MapAt w4 W3.heap.size (([] : List (Int × Int)).map ip) from (MapAt.new W3).keepd hk (fun h => h)) (Nat.le_refl W3.heap.size)); clear hk) | (go_at_call 96; refine (big_ok _ 1 _ ⟨by have := HSN.out.1; omega, by have := HSN.out.1; omega⟩ (by omega)).mono ?_; rintro e w4 ⟨x4, rfl, ho4, hk⟩; obtain ⟨p4, c4, rfl⟩ := ownsRow_form0 ho4; have H4 := Lib.hid (show BRow A w4 (.slice p4 1 c4) (be 1 n.toNat) from BRow.mono (by unfold BRow; rw [be_length]; exact ho4) (Nat.le_trans (Nat.le_of_lt HLT.out) (‹Kept Nope W3 _ ∧ _›).1.size)); clear ho4; have hN := (‹Kept Nope W3 _ ∧ _›).1.trans' hk; clear hk) | (refine step_app_p _ (.tmp 38) (.tmp 39) rfl rfl A _ _ rfl (PRow.lit ⟨82, be 1 n.toNat, .slice p4 1 c4⟩ (Nat.le_trans (Nat.le_of_lt HLT.out) (Kept.size ‹Kept Nope W3 _›)) H4.out.bsl) Any_ _ _ rfl ((HP.out.1.keep (‹Kept Nope W3 _›.alloc _) (fun _ _ h => h)).toC.mono fun _ _ => trivial) (lit_ok (HP.out.1.keep ‹Kept Nope W3 _› (fun _ _ h => h))) (by simp) (Nat.le_trans (Nat.le_of_lt HLT.out) (Kept.size (‹Kept Nope W3 _›.alloc _))) ?_; intro p6 c6 w6 ha6; have hN6 := (‹Kept Nope W3 _›.alloc _).trans ha6.2 (fun b hb e => by have e' := Option.some.inj e; dsimp only at e'; have := Kept.size ‹Kept Nope W3 _›; omega); have H6 := Lib.hid (And.intro ha6.1 hN6); clear ha6))
            all_goals
              go_wp2_with fail
              go_meet
              exact ⟨_, _, rfl, Lib.hid ⟨H6.out.2, _, rfl, H6.out.1, rfl⟩⟩
          case rest =>
            obtain ⟨p6, c6, rfl, HC6⟩ := hcut
            by_cases h0 : n = 0
            · obtain rfl := h0
              obtain ⟨l, hl2, hl, hlf⟩ := HC6.out.2
              have HL := Lib.hid (And.intro hl2 (And.intro hl hlf))
              have BA := HP.out.2.2.kept HC6.out.1 (fun h => h)
              have az := BA.cell 0
              simp only [List.getElem?_toArray, List.getElem?_cons_zero] at az
              have hAc := BA.lt
              have HBA := Lib.hid (And.intro (BA.alloc (.map #[] 0)) hAc)
              have HM9 := Lib.hid (show MapAt (wc.alloc (.map #[] 0)) wc.heap.size (([] : List (Int × Int)).map ip) from MapAt.new wc)
              have HK9 := Lib.hid (Kept.refl (Only wc.heap.size) (wc.alloc (.map #[] 0)))
              clear hl2 hl hlf BA hAc
              go_wp2_with (first | (refine wpList_insert_int rfl (.tmp 43) _ _ rfl rfl rfl rfl HM9.out (by decide) ?_; intro w2 hm2 hk2; clear az; replace HM9 := Lib.hid hm2; replace HK9 := Lib.hid (HK9.out.trans' hk2); have az := (HBA.out.1.kept HK9.out (fun e => by have e' : A = wc.heap.size := e; have := HBA.out.2; omega)).cell 0; simp only [List.getElem?_toArray, List.getElem?_cons_zero] at az; clear hm2 hk2) | (refine wpList_lookup_int rfl (.tmp 44) (.tmp 46) rfl rfl rfl HM9.out ?_) | (at_builtin; go_must (refine wpList_app_p _ (.tmp 49) (.tmp 50) rfl rfl A _ _ rfl (PRow.lit ⟨67, [], .slice none 0 0⟩ (Nat.le_trans (Nat.le_of_lt HBA.out.2) (Nat.le_trans (Nat.le_succ _) (by have := HK9.out.size; rw [World.size_alloc] at this; exact this))) (BSl.nil none 0 (by simp [maxLen]))) Any_ _ _ rfl ((HL.out.2.1.keep ((k9 HK9.out).alloc _) (fun _ _ h => h)).toC.mono fun _ _ => trivial) (lit_ok (HL.out.2.1.keep (k9 HK9.out) (fun _ _ h => h))) (by rw [HL.out.1]; simp) (Nat.le_trans (Nat.le_of_lt HBA.out.2) (k9 (o := .map #[] 0) HK9.out |>.alloc _).size) ?_; intro p7 c7 w7 ha7; have H7 := Lib.hid ha7; clear ha7)))
              go_ret
              refine ⟨_, rfl, ?_, ((HP.out.2.1.trans' (HC6.out.1.trans' (k9 HK9.out))).alloc _).trans H7.out.2 (fun b hb e => by have e' := Option.some.inj e; dsimp only at e'; have h1 := HP.out.2.1.size; have h2 := HC6.out.1.size; have h3 := (k9 HK9.out).size; omega)⟩
              rw [numForms_c 4 t (by omega), HAE.out]
              refine ⟨_, H7.out.1, ?_⟩
              rw [List.map_append, HL.out.2.2]
              rfl
            · have h00 : (n == 0) = false := by simpa using h0
              have HN0 := Lib.hid (And.intro hn h0)
              clear h0
              go_wp2
              go_ret
              obtain ⟨l, _, h2, h3⟩ := HC6.out.2
              refine ⟨_, rfl, ?_, HP.out.2.1.trans' HC6.out.1⟩
              rw [numForms_b 4 n t (by omega) HN0.out.1 HN0.out.2, HAE.out]
              exact ⟨l, h2, h3⟩
        · go_upto_region 8 with fail
          generalize wc.alloc (.cells #[.int .i64 (coded 5), .slice p (fsz 5) c] 170) = W3 at HP HPS ⊢
          have HLT : Hid (A < W3.heap.size) := Lib.hid HP.out.2.2.lt
          have HM : Hid (∀ w', Kept Nope W3 w' → w'.cell? ⟨A, 0, none⟩ = some (.int .i64 5)) := Lib.hid fun w' h => (HP.out.2.2.kept h (fun h => h)).cell 0
          clear a0 g0 g1 aa
          go_cut [6] (fun s6 wx => ∃ p6 c6, s6 = .slice p6 2 c6 ∧ Hid (Kept Nope W3 wx ∧ ∃ l : List Pc, l.length = 2 ∧ PRow A wx (.slice p6 2 c6) l ∧ l.map Pc.form = [(83, be 1 n.toNat), (coded 5, be (fsz 5) n.toNat)]))
          case first =>
            go_region_held3 (fun w' => Kept Nope W3 w' ∧ w'.cell? ⟨A, 0, none⟩ = some (.int .i64 5)) (first | exact ⟨(Kept.refl _ W3).drew, HM.out _ (Kept.refl _ W3).drew⟩ | exact ⟨‹Kept Nope W3 _›, HM.out _ ‹Kept Nope W3 _›⟩ | exact ⟨‹Kept Nope W3 _›.alloc _, HM.out _ (‹Kept Nope W3 _›.alloc _)⟩ | exact ⟨(Kept.refl _ W3).drew.alloc _, HM.out _ ((Kept.refl _ W3).drew.alloc _)⟩) (first | (have _t := HMP; refine upon_put HMP.out.1 (by decide) ?_; intro w5 hm5 hk5; have hN5 := (‹Kept Nope W3 _ ∧ _›).1.trans hk5 (fun x hx e => by have e' : x = _ := e; have := HMP.out.2; omega); (try replace H4 := Lib.hid (H4.out.put2 hk5 HMP.out.1)); replace HMP := Lib.hid (And.intro hm5 HMP.out.2); clear hm5 hk5 _t; go_simp) | (have hb0 : W3.heap.size ≤ W3.heap.size := Nat.le_refl _; refine upon_put (t := []) (MapAt.new _) (by decide) ?_; intro w5 hm5 hk5; have hN5 := (‹Kept Nope W3 _ ∧ _›).1.trans hk5 (fun x hx e => by have e' : x = _ := e; have := hb0; omega); (try replace H4 := Lib.hid (H4.out.put1 hk5)); have HMP := Lib.hid (And.intro hm5 hb0); clear hm5 hk5 hb0; go_simp) | (have hb0 := Kept.size ‹Kept Nope W3 _›; refine upon_put (t := []) (MapAt.new _) (by decide) ?_; intro w5 hm5 hk5; have hN5 := (‹Kept Nope W3 _ ∧ _›).1.trans hk5 (fun x hx e => by have e' : x = _ := e; have := hb0; omega); (try replace H4 := Lib.hid (H4.out.put1 hk5)); have HMP := Lib.hid (And.intro hm5 hb0); clear hm5 hk5 hb0; go_simp) | (have _t := HMP; refine upon_look HMP.out.1 ?_; clear _t; go_simp) | (have _t := HMP; go_at_call 96; refine (big_ok _ 1 _ ⟨by have := HSN.out.1; omega, by have := HSN.out.1; omega⟩ (by omega)).mono ?_; rintro e w4 ⟨x4, rfl, ho4, hk⟩; obtain ⟨p4, c4, rfl⟩ := ownsRow_form0 ho4; have H4 := Lib.hid (show BRow A w4 (.slice p4 1 c4) (be 1 n.toNat) from BRow.mono (by unfold BRow; rw [be_length]; exact ho4) (Nat.le_trans (Nat.le_of_lt HLT.out) (‹Kept Nope W3 _ ∧ _›).1.size)); clear ho4; have hN := (‹Kept Nope W3 _ ∧ _›).1.trans' hk; replace HMP := Lib.hid (And.intro (HMP.out.1.keep hk (fun h => h)) HMP.out.2); clear hk _t) | (go_at_call 96; refine (big_ok _ 1 _ ⟨by have := HSN.out.1; omega, by have := HSN.out.1; omega⟩ (by omega)).mono ?_; rintro e w4 ⟨x4, rfl, ho4, hk⟩; obtain ⟨p4, c4, rfl⟩ := ownsRow_form0 ho4; have H4 := Lib.hid (show BRow A w4 (.slice p4 1 c4) (be 1 n.toNat) from BRow.mono (by unfold BRow; rw [be_length]; exact ho4) (Nat.le_trans (Nat.le_of_lt HLT.out) (‹Kept Nope W3 _ ∧ _›).1.size)); clear ho4; have hN := (‹Kept Nope W3 _ ∧ _›).1.trans' hk; have HMP := Lib.hid (And.intro (show MapAt w4 W3.heap.size (([] : List (Int × Int)).map ip) from (MapAt.new W3).keep hk (fun h => h)) (Nat.le_refl W3.heap.size)); clear hk) | (go_at_call 96; refine (big_ok _ 1 _ ⟨by have := HSN.out.1; omega, by have := HSN.out.1; omega⟩ (by omega)).mono ?_; rintro e w4 ⟨x4, rfl, ho4, hk⟩; obtain ⟨p4, c4, rfl⟩ := ownsRow_form0 ho4; have H4 := Lib.hid (show BRow A w4 (.slice p4 1 c4) (be 1 n.toNat) from BRow.mono (by unfold BRow; rw [be_length]; exact ho4) (Nat.le_trans (Nat.le_of_lt HLT.out) (‹Kept Nope W3 _ ∧ _›).1.size)); clear ho4; have hN := (‹Kept Nope W3 _ ∧ _›).1.trans' hk; have HMP := Lib.hid (And.intro (show MapAt w4 W3.heap.size (([] : List (Int × Int)).map ip) from (MapAt.new W3).keepd hk (fun h => h)) (Nat.le_refl W3.heap.size)); clear hk) | (go_at_call 96; refine (big_ok _ 1 _ ⟨by have := HSN.out.1; omega, by have := HSN.out.1; omega⟩ (by omega)).mono ?_; rintro e w4 ⟨x4, rfl, ho4, hk⟩; obtain ⟨p4, c4, rfl⟩ := ownsRow_form0 ho4; have H4 := Lib.hid (show BRow A w4 (.slice p4 1 c4) (be 1 n.toNat) from BRow.mono (by unfold BRow; rw [be_length]; exact ho4) (Nat.le_trans (Nat.le_of_lt HLT.out) (‹Kept Nope W3 _ ∧ _›).1.size)); clear ho4; have hN := (‹Kept Nope W3 _ ∧ _›).1.trans' hk; clear hk) | (refine step_app_p _ (.tmp 38) (.tmp 39) rfl rfl A _ _ rfl (PRow.lit ⟨83, be 1 n.toNat, .slice p4 1 c4⟩ (Nat.le_trans (Nat.le_of_lt HLT.out) (Kept.size ‹Kept Nope W3 _›)) H4.out.bsl) Any_ _ _ rfl ((HP.out.1.keep (‹Kept Nope W3 _›.alloc _) (fun _ _ h => h)).toC.mono fun _ _ => trivial) (lit_ok (HP.out.1.keep ‹Kept Nope W3 _› (fun _ _ h => h))) (by simp) (Nat.le_trans (Nat.le_of_lt HLT.out) (Kept.size (‹Kept Nope W3 _›.alloc _))) ?_; intro p6 c6 w6 ha6; have hN6 := (‹Kept Nope W3 _›.alloc _).trans ha6.2 (fun b hb e => by have e' := Option.some.inj e; dsimp only at e'; have := Kept.size ‹Kept Nope W3 _›; omega); have H6 := Lib.hid (And.intro ha6.1 hN6); clear ha6))
            all_goals
              go_wp2_with fail
              go_meet
              exact ⟨_, _, rfl, Lib.hid ⟨H6.out.2, _, rfl, H6.out.1, rfl⟩⟩
          case rest =>
            obtain ⟨p6, c6, rfl, HC6⟩ := hcut
            by_cases h0 : n = 0
            · obtain rfl := h0
              obtain ⟨l, hl2, hl, hlf⟩ := HC6.out.2
              have HL := Lib.hid (And.intro hl2 (And.intro hl hlf))
              have BA := HP.out.2.2.kept HC6.out.1 (fun h => h)
              have az := BA.cell 0
              simp only [List.getElem?_toArray, List.getElem?_cons_zero] at az
              have hAc := BA.lt
              have HBA := Lib.hid (And.intro (BA.alloc (.map #[] 0)) hAc)
              have HM9 := Lib.hid (show MapAt (wc.alloc (.map #[] 0)) wc.heap.size (([] : List (Int × Int)).map ip) from MapAt.new wc)
              have HK9 := Lib.hid (Kept.refl (Only wc.heap.size) (wc.alloc (.map #[] 0)))
              clear hl2 hl hlf BA hAc
              go_wp2_with (first | (refine wpList_insert_int rfl (.tmp 43) _ _ rfl rfl rfl rfl HM9.out (by decide) ?_; intro w2 hm2 hk2; clear az; replace HM9 := Lib.hid hm2; replace HK9 := Lib.hid (HK9.out.trans' hk2); have az := (HBA.out.1.kept HK9.out (fun e => by have e' : A = wc.heap.size := e; have := HBA.out.2; omega)).cell 0; simp only [List.getElem?_toArray, List.getElem?_cons_zero] at az; clear hm2 hk2) | (refine wpList_lookup_int rfl (.tmp 44) (.tmp 46) rfl rfl rfl HM9.out ?_) | (at_builtin; go_must (refine wpList_app_p _ (.tmp 49) (.tmp 50) rfl rfl A _ _ rfl (PRow.lit ⟨68, [], .slice none 0 0⟩ (Nat.le_trans (Nat.le_of_lt HBA.out.2) (Nat.le_trans (Nat.le_succ _) (by have := HK9.out.size; rw [World.size_alloc] at this; exact this))) (BSl.nil none 0 (by simp [maxLen]))) Any_ _ _ rfl ((HL.out.2.1.keep ((k9 HK9.out).alloc _) (fun _ _ h => h)).toC.mono fun _ _ => trivial) (lit_ok (HL.out.2.1.keep (k9 HK9.out) (fun _ _ h => h))) (by rw [HL.out.1]; simp) (Nat.le_trans (Nat.le_of_lt HBA.out.2) (k9 (o := .map #[] 0) HK9.out |>.alloc _).size) ?_; intro p7 c7 w7 ha7; have H7 := Lib.hid ha7; clear ha7)))
              go_ret
              refine ⟨_, rfl, ?_, ((HP.out.2.1.trans' (HC6.out.1.trans' (k9 HK9.out))).alloc _).trans H7.out.2 (fun b hb e => by have e' := Option.some.inj e; dsimp only at e'; have h1 := HP.out.2.1.size; have h2 := HC6.out.1.size; have h3 := (k9 HK9.out).size; omega)⟩
              rw [numForms_c 5 t (by omega), HAE.out]
              refine ⟨_, H7.out.1, ?_⟩
              rw [List.map_append, HL.out.2.2]
              rfl
            · have h00 : (n == 0) = false := by simpa using h0
              have HN0 := Lib.hid (And.intro hn h0)
              clear h0
              go_wp2
              go_ret
              obtain ⟨l, _, h2, h3⟩ := HC6.out.2
              refine ⟨_, rfl, ?_, HP.out.2.1.trans' HC6.out.1⟩
              rw [numForms_b 5 n t (by omega) HN0.out.1 HN0.out.2, HAE.out]
              exact ⟨l, h2, h3⟩
      · have hn' : ¬ n < 256 := hn
        have HKN := Lib.hid hn
        clear hn
        rcases h4 with rfl | rfl
        · go_wp2
          go_ret
          refine ⟨_, rfl, ?_, HP.out.2.1⟩
          rw [numForms_a 4 n t (by omega) (by have := HKN.out; omega), HAE.out]
          exact HPS.out
        · go_wp2
          go_ret
          refine ⟨_, rfl, ?_, HP.out.2.1⟩
          rw [numForms_a 5 n t (by omega) (by have := HKN.out; omega), HAE.out]
          exact HPS.out
    · by_cases h8 : k = 8 ∨ k = 9
      · by_cases hn : n < 128 ∨ 18446744073709551488 ≤ n
        · have hs1 : -128 ≤ s ∧ s < 128 := by have h1 := HSN.out.2; have h2 := HSN.out.1; split at h1 <;> omega
          obtain ⟨hs1, hs2⟩ := hs1
          have HKN := Lib.hid hn
          clear hn
          rcases h8 with rfl | rfl
          · go_upto_region 14 with fail
            generalize wc.alloc (.cells #[.int .i64 (coded 8), .slice p (fsz 8) c] 170) = W3 at HP HPS ⊢
            have HLT : Hid (A < W3.heap.size) := Lib.hid HP.out.2.2.lt
            have HM : Hid (∀ w', Kept Nope W3 w' → w'.cell? ⟨A, 0, none⟩ = some (.int .i64 8)) := Lib.hid fun w' h => (HP.out.2.2.kept h (fun h => h)).cell 0
            clear a0 g0 g1 aa
            go_region_held3 (fun w' => Kept Nope W3 w' ∧ w'.cell? ⟨A, 0, none⟩ = some (.int .i64 8)) (first | exact ⟨(Kept.refl _ W3).drew, HM.out _ (Kept.refl _ W3).drew⟩ | exact ⟨‹Kept Nope W3 _›, HM.out _ ‹Kept Nope W3 _›⟩ | exact ⟨‹Kept Nope W3 _›.alloc _, HM.out _ (‹Kept Nope W3 _›.alloc _)⟩ | exact ⟨(Kept.refl _ W3).drew.alloc _, HM.out _ ((Kept.refl _ W3).drew.alloc _)⟩) (first | (have _t := HMP; refine upon_put HMP.out.1 (by decide) ?_; intro w5 hm5 hk5; have hN5 := (‹Kept Nope W3 _ ∧ _›).1.trans hk5 (fun x hx e => by have e' : x = _ := e; have := HMP.out.2; omega); (try replace H4 := Lib.hid (H4.out.put2 hk5 HMP.out.1)); replace HMP := Lib.hid (And.intro hm5 HMP.out.2); clear hm5 hk5 _t; go_simp) | (have hb0 : W3.heap.size ≤ W3.heap.size := Nat.le_refl _; refine upon_put (t := []) (MapAt.new _) (by decide) ?_; intro w5 hm5 hk5; have hN5 := (‹Kept Nope W3 _ ∧ _›).1.trans hk5 (fun x hx e => by have e' : x = _ := e; have := hb0; omega); (try replace H4 := Lib.hid (H4.out.put1 hk5)); have HMP := Lib.hid (And.intro hm5 hb0); clear hm5 hk5 hb0; go_simp) | (have hb0 := Kept.size ‹Kept Nope W3 _›; refine upon_put (t := []) (MapAt.new _) (by decide) ?_; intro w5 hm5 hk5; have hN5 := (‹Kept Nope W3 _ ∧ _›).1.trans hk5 (fun x hx e => by have e' : x = _ := e; have := hb0; omega); (try replace H4 := Lib.hid (H4.out.put1 hk5)); have HMP := Lib.hid (And.intro hm5 hb0); clear hm5 hk5 hb0; go_simp) | (have _t := HMP; refine upon_look HMP.out.1 ?_; clear _t; go_simp) | (have _t := HMP; go_at_call 96; refine (big_ok _ 1 _ ⟨by have := HSN.out.1; omega, by have := HSN.out.1; omega⟩ (by omega)).mono ?_; rintro e w4 ⟨x4, rfl, ho4, hk⟩; obtain ⟨p4, c4, rfl⟩ := ownsRow_form0 ho4; have H4 := Lib.hid (show BRow A w4 (.slice p4 1 c4) (be 1 n.toNat) from BRow.mono (by unfold BRow; rw [be_length]; exact ho4) (Nat.le_trans (Nat.le_of_lt HLT.out) (‹Kept Nope W3 _ ∧ _›).1.size)); clear ho4; have hN := (‹Kept Nope W3 _ ∧ _›).1.trans' hk; replace HMP := Lib.hid (And.intro (HMP.out.1.keep hk (fun h => h)) HMP.out.2); clear hk _t) | (go_at_call 96; refine (big_ok _ 1 _ ⟨by have := HSN.out.1; omega, by have := HSN.out.1; omega⟩ (by omega)).mono ?_; rintro e w4 ⟨x4, rfl, ho4, hk⟩; obtain ⟨p4, c4, rfl⟩ := ownsRow_form0 ho4; have H4 := Lib.hid (show BRow A w4 (.slice p4 1 c4) (be 1 n.toNat) from BRow.mono (by unfold BRow; rw [be_length]; exact ho4) (Nat.le_trans (Nat.le_of_lt HLT.out) (‹Kept Nope W3 _ ∧ _›).1.size)); clear ho4; have hN := (‹Kept Nope W3 _ ∧ _›).1.trans' hk; have HMP := Lib.hid (And.intro (show MapAt w4 W3.heap.size (([] : List (Int × Int)).map ip) from (MapAt.new W3).keep hk (fun h => h)) (Nat.le_refl W3.heap.size)); clear hk) | (go_at_call 96; refine (big_ok _ 1 _ ⟨by have := HSN.out.1; omega, by have := HSN.out.1; omega⟩ (by omega)).mono ?_; rintro e w4 ⟨x4, rfl, ho4, hk⟩; obtain ⟨p4, c4, rfl⟩ := ownsRow_form0 ho4; have H4 := Lib.hid (show BRow A w4 (.slice p4 1 c4) (be 1 n.toNat) from BRow.mono (by unfold BRow; rw [be_length]; exact ho4) (Nat.le_trans (Nat.le_of_lt HLT.out) (‹Kept Nope W3 _ ∧ _›).1.size)); clear ho4; have hN := (‹Kept Nope W3 _ ∧ _›).1.trans' hk; have HMP := Lib.hid (And.intro (show MapAt w4 W3.heap.size (([] : List (Int × Int)).map ip) from (MapAt.new W3).keepd hk (fun h => h)) (Nat.le_refl W3.heap.size)); clear hk) | (go_at_call 96; refine (big_ok _ 1 _ ⟨by have := HSN.out.1; omega, by have := HSN.out.1; omega⟩ (by omega)).mono ?_; rintro e w4 ⟨x4, rfl, ho4, hk⟩; obtain ⟨p4, c4, rfl⟩ := ownsRow_form0 ho4; have H4 := Lib.hid (show BRow A w4 (.slice p4 1 c4) (be 1 n.toNat) from BRow.mono (by unfold BRow; rw [be_length]; exact ho4) (Nat.le_trans (Nat.le_of_lt HLT.out) (‹Kept Nope W3 _ ∧ _›).1.size)); clear ho4; have hN := (‹Kept Nope W3 _ ∧ _›).1.trans' hk; clear hk) | (refine step_app_p _ (.tmp 69) (.tmp 70) rfl rfl A _ _ rfl (PRow.lit ⟨84, be 1 n.toNat, .slice p4 1 c4⟩ (Nat.le_trans (Nat.le_of_lt HLT.out) (Kept.size ‹Kept Nope W3 _›)) H4.out.bsl) Any_ _ _ rfl ((HP.out.1.keep (‹Kept Nope W3 _›.alloc _) (fun _ _ h => h)).toC.mono fun _ _ => trivial) (lit_ok (HP.out.1.keep ‹Kept Nope W3 _› (fun _ _ h => h))) (by simp) (Nat.le_trans (Nat.le_of_lt HLT.out) (Kept.size (‹Kept Nope W3 _›.alloc _))) ?_; intro p6 c6 w6 ha6; have hN6 := (‹Kept Nope W3 _›.alloc _).trans ha6.2 (fun b hb e => by have e' := Option.some.inj e; dsimp only at e'; have := Kept.size ‹Kept Nope W3 _›; omega); have H6 := Lib.hid (And.intro ha6.1 hN6); clear ha6))
            all_goals
              go_wp2
              go_ret
              refine ⟨_, rfl, ?_, HP.out.2.1.trans' H6.out.2⟩
              rw [numForms_e 8 n t (by omega) HKN.out, HAE.out]
              exact ⟨_, H6.out.1, rfl⟩
          · go_upto_region 14 with fail
            generalize wc.alloc (.cells #[.int .i64 (coded 9), .slice p (fsz 9) c] 170) = W3 at HP HPS ⊢
            have HLT : Hid (A < W3.heap.size) := Lib.hid HP.out.2.2.lt
            have HM : Hid (∀ w', Kept Nope W3 w' → w'.cell? ⟨A, 0, none⟩ = some (.int .i64 9)) := Lib.hid fun w' h => (HP.out.2.2.kept h (fun h => h)).cell 0
            clear a0 g0 g1 aa
            go_region_held3 (fun w' => Kept Nope W3 w' ∧ w'.cell? ⟨A, 0, none⟩ = some (.int .i64 9)) (first | exact ⟨(Kept.refl _ W3).drew, HM.out _ (Kept.refl _ W3).drew⟩ | exact ⟨‹Kept Nope W3 _›, HM.out _ ‹Kept Nope W3 _›⟩ | exact ⟨‹Kept Nope W3 _›.alloc _, HM.out _ (‹Kept Nope W3 _›.alloc _)⟩ | exact ⟨(Kept.refl _ W3).drew.alloc _, HM.out _ ((Kept.refl _ W3).drew.alloc _)⟩) (first | (have _t := HMP; refine upon_put HMP.out.1 (by decide) ?_; intro w5 hm5 hk5; have hN5 := (‹Kept Nope W3 _ ∧ _›).1.trans hk5 (fun x hx e => by have e' : x = _ := e; have := HMP.out.2; omega); (try replace H4 := Lib.hid (H4.out.put2 hk5 HMP.out.1)); replace HMP := Lib.hid (And.intro hm5 HMP.out.2); clear hm5 hk5 _t; go_simp) | (have hb0 : W3.heap.size ≤ W3.heap.size := Nat.le_refl _; refine upon_put (t := []) (MapAt.new _) (by decide) ?_; intro w5 hm5 hk5; have hN5 := (‹Kept Nope W3 _ ∧ _›).1.trans hk5 (fun x hx e => by have e' : x = _ := e; have := hb0; omega); (try replace H4 := Lib.hid (H4.out.put1 hk5)); have HMP := Lib.hid (And.intro hm5 hb0); clear hm5 hk5 hb0; go_simp) | (have hb0 := Kept.size ‹Kept Nope W3 _›; refine upon_put (t := []) (MapAt.new _) (by decide) ?_; intro w5 hm5 hk5; have hN5 := (‹Kept Nope W3 _ ∧ _›).1.trans hk5 (fun x hx e => by have e' : x = _ := e; have := hb0; omega); (try replace H4 := Lib.hid (H4.out.put1 hk5)); have HMP := Lib.hid (And.intro hm5 hb0); clear hm5 hk5 hb0; go_simp) | (have _t := HMP; refine upon_look HMP.out.1 ?_; clear _t; go_simp) | (have _t := HMP; go_at_call 96; refine (big_ok _ 1 _ ⟨by have := HSN.out.1; omega, by have := HSN.out.1; omega⟩ (by omega)).mono ?_; rintro e w4 ⟨x4, rfl, ho4, hk⟩; obtain ⟨p4, c4, rfl⟩ := ownsRow_form0 ho4; have H4 := Lib.hid (show BRow A w4 (.slice p4 1 c4) (be 1 n.toNat) from BRow.mono (by unfold BRow; rw [be_length]; exact ho4) (Nat.le_trans (Nat.le_of_lt HLT.out) (‹Kept Nope W3 _ ∧ _›).1.size)); clear ho4; have hN := (‹Kept Nope W3 _ ∧ _›).1.trans' hk; replace HMP := Lib.hid (And.intro (HMP.out.1.keep hk (fun h => h)) HMP.out.2); clear hk _t) | (go_at_call 96; refine (big_ok _ 1 _ ⟨by have := HSN.out.1; omega, by have := HSN.out.1; omega⟩ (by omega)).mono ?_; rintro e w4 ⟨x4, rfl, ho4, hk⟩; obtain ⟨p4, c4, rfl⟩ := ownsRow_form0 ho4; have H4 := Lib.hid (show BRow A w4 (.slice p4 1 c4) (be 1 n.toNat) from BRow.mono (by unfold BRow; rw [be_length]; exact ho4) (Nat.le_trans (Nat.le_of_lt HLT.out) (‹Kept Nope W3 _ ∧ _›).1.size)); clear ho4; have hN := (‹Kept Nope W3 _ ∧ _›).1.trans' hk; have HMP := Lib.hid (And.intro (show MapAt w4 W3.heap.size (([] : List (Int × Int)).map ip) from (MapAt.new W3).keep hk (fun h => h)) (Nat.le_refl W3.heap.size)); clear hk) | (go_at_call 96; refine (big_ok _ 1 _ ⟨by have := HSN.out.1; omega, by have := HSN.out.1; omega⟩ (by omega)).mono ?_; rintro e w4 ⟨x4, rfl, ho4, hk⟩; obtain ⟨p4, c4, rfl⟩ := ownsRow_form0 ho4; have H4 := Lib.hid (show BRow A w4 (.slice p4 1 c4) (be 1 n.toNat) from BRow.mono (by unfold BRow; rw [be_length]; exact ho4) (Nat.le_trans (Nat.le_of_lt HLT.out) (‹Kept Nope W3 _ ∧ _›).1.size)); clear ho4; have hN := (‹Kept Nope W3 _ ∧ _›).1.trans' hk; have HMP := Lib.hid (And.intro (show MapAt w4 W3.heap.size (([] : List (Int × Int)).map ip) from (MapAt.new W3).keepd hk (fun h => h)) (Nat.le_refl W3.heap.size)); clear hk) | (go_at_call 96; refine (big_ok _ 1 _ ⟨by have := HSN.out.1; omega, by have := HSN.out.1; omega⟩ (by omega)).mono ?_; rintro e w4 ⟨x4, rfl, ho4, hk⟩; obtain ⟨p4, c4, rfl⟩ := ownsRow_form0 ho4; have H4 := Lib.hid (show BRow A w4 (.slice p4 1 c4) (be 1 n.toNat) from BRow.mono (by unfold BRow; rw [be_length]; exact ho4) (Nat.le_trans (Nat.le_of_lt HLT.out) (‹Kept Nope W3 _ ∧ _›).1.size)); clear ho4; have hN := (‹Kept Nope W3 _ ∧ _›).1.trans' hk; clear hk) | (refine step_app_p _ (.tmp 69) (.tmp 70) rfl rfl A _ _ rfl (PRow.lit ⟨85, be 1 n.toNat, .slice p4 1 c4⟩ (Nat.le_trans (Nat.le_of_lt HLT.out) (Kept.size ‹Kept Nope W3 _›)) H4.out.bsl) Any_ _ _ rfl ((HP.out.1.keep (‹Kept Nope W3 _›.alloc _) (fun _ _ h => h)).toC.mono fun _ _ => trivial) (lit_ok (HP.out.1.keep ‹Kept Nope W3 _› (fun _ _ h => h))) (by simp) (Nat.le_trans (Nat.le_of_lt HLT.out) (Kept.size (‹Kept Nope W3 _›.alloc _))) ?_; intro p6 c6 w6 ha6; have hN6 := (‹Kept Nope W3 _›.alloc _).trans ha6.2 (fun b hb e => by have e' := Option.some.inj e; dsimp only at e'; have := Kept.size ‹Kept Nope W3 _›; omega); have H6 := Lib.hid (And.intro ha6.1 hN6); clear ha6))
            all_goals
              go_wp2
              go_ret
              refine ⟨_, rfl, ?_, HP.out.2.1.trans' H6.out.2⟩
              rw [numForms_e 9 n t (by omega) HKN.out, HAE.out]
              exact ⟨_, H6.out.1, rfl⟩
        · have hs1 : ¬ (-128 ≤ s ∧ s < 128) := by have h1 := HSN.out.2; have h2 := HSN.out.1; split at h1 <;> omega
          have HKN := Lib.hid hn
          clear hn
          by_cases h9 : -128 ≤ s
          · have h10 : ¬ s < 128 := fun h => hs1 ⟨h9, h⟩
            clear hs1
            rcases h8 with rfl | rfl
            · go_wp2
              go_ret
              refine ⟨_, rfl, ?_, HP.out.2.1⟩
              rw [numForms_d 8 n t (by omega) (by have := HKN.out; omega), HAE.out]
              exact HPS.out
            · go_wp2
              go_ret
              refine ⟨_, rfl, ?_, HP.out.2.1⟩
              rw [numForms_d 9 n t (by omega) (by have := HKN.out; omega), HAE.out]
              exact HPS.out
          · clear hs1
            rcases h8 with rfl | rfl
            · go_wp2
              go_ret
              refine ⟨_, rfl, ?_, HP.out.2.1⟩
              rw [numForms_d 8 n t (by omega) (by have := HKN.out; omega), HAE.out]
              exact HPS.out
            · go_wp2
              go_ret
              refine ⟨_, rfl, ?_, HP.out.2.1⟩
              rw [numForms_d 9 n t (by omega) (by have := HKN.out; omega), HAE.out]
              exact HPS.out
      · have k4 : (k == 4) = false := by simp; omega
        have k5 : (k == 5) = false := by simp; omega
        have k8 : (k == 8) = false := by simp; omega
        have k9 : (k == 9) = false := by simp; omega
        have HKO := Lib.hid (And.intro h4 h8)
        clear h4 h8
        go_wp2
        go_ret
        refine ⟨_, rfl, ⟨_, HAE.out ▸ HP.out.1, ?_⟩, HP.out.2.1⟩
        exact (numForms_o k n t HKO.out.1 HKO.out.2).symm
end Go.Proofs.YtbckofjoancdjaaGreatDoor
