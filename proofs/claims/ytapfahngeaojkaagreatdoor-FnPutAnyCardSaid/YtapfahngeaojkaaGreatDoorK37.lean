/- The law FnPutAny: it answers yes, whatever the bytes and the value. -/
import Derived.LoopTactic
import Derived.Outline
import Derived.RegionTactic
import Derived.Deep.DrawnRows
import Derived.Deep.DeepCutAuto
import Derived.Deep.QuietTactic
import Derived.BigQuiet
import Derived.Test.YtapfahngeaojkaaGreatDoorK36
import Derived.Test.YtapfahngeaojkaaGreatDoorK20
import Derived.Test.YtapfahngeaojkaaGreatDoorK35
import Derived.Test.YtapfahngeaojkaaGreatDoorK23
namespace Go.Proofs.YtapfahngeaojkaaGreatDoor
open Go Go.RowKit Go.Lib
theorem one_byte {v : V} {ds : List UInt8} (hk : v.kind = 1) (h1 : v.num = 1) (hp : PutR v ds) : ds = [195] := by
  obtain ⟨r, hr, he⟩ := hp
  cases hr with
  | leaf _ _ =>
    have hk2 : (rd0 v).kind = 1 := by rw [rd0_kind (by omega), hk]
    have hn2 : (rd0 v).num = 1 := h1
    cases he with
    | bool _ _ _ => rw [hn2]; rfl
    | inum _ hf => unfold fitsI at hf; omega
    | _ => omega
  | arr h => omega
  | map _ h => omega
theorem Blk.five {w : World} {g : Nat} {t : TypeId} {a b c d e : Value} (h : Blk w g t #[a, b, c, d, e]) : w.cell? ⟨g, 0, none⟩ = some a ∧ w.cell? ⟨g, 1, none⟩ = some b ∧ w.cell? ⟨g, 2, none⟩ = some c ∧ w.cell? ⟨g, 3, none⟩ = some d ∧ w.cell? ⟨g, 4, none⟩ = some e :=
  ⟨h.cell 0, h.cell 1, h.cell 2, h.cell 3, h.cell 4⟩
def oneV : V := .mk 1 1 ⟨#[]⟩ [] 0 []
theorem oneV_agg (W : World) : KAgg Any_ W (.agg #[.int .i64 1, .int .u64 1, .string ⟨#[]⟩, .int .i64 0, .slice none 0 0]) oneV :=
  ⟨.slice none 0 0, rfl, ⟨⟨by decide, by decide, by decide, by decide⟩, rfl⟩, .nil _ _ (by decide)⟩
theorem oneV_fits : PFits 1 oneV := .mk ⟨by decide, .inr (.inr rfl), .inr (.inr (.inr rfl)), .inl (by decide), .inr rfl, by decide, by decide, by decide, by decide, by decide⟩ (fun k hk => by cases hk)
theorem oneV_plain : PPlain oneV := .mk (by decide) (fun k hk => by cases hk) (fun h => absurd h (by decide))
theorem oneV_count : oneV.count ≤ 2000 := by rw [V.count_eq]; simp [oneV, sumOf]
theorem PutAny_one (w : World) : Calls Tryz.prog 5 #[.slice none 0 0, .agg #[.int .i64 1, .int .u64 1, .string ⟨#[]⟩, .int .i64 0, .slice none 0 0]] w (fun e w' => ∃ p c, e = .returned (.tuple #[.slice p 1 c, .bool true]) ∧ (convert 22 9 (.slice p 1 c)).run Tryz.prog w' = .ok (.string ⟨#[195]⟩) w' ∧ Kept Nope w w') := by
  refine (PutAny_ok oneV 1 Any_ w _ _ [] (BSl.nil none 0 (by decide)) (by decide) (oneV_agg w) oneV_fits oneV_plain oneV_count).mono ?_
  rintro e w' ⟨x, ds, rfl, hp, hb, hk⟩
  have hd := one_byte (v := oneV) rfl rfl hp.1
  subst hd
  have hrun := run_bytes_str (P := Tryz.prog) 22 9 5 Tryz.underlying22 Tryz.underlying5 Tryz.underlying9 hb
  obtain ⟨p, c, rfl, _⟩ := hb
  exact ⟨p, c, rfl, hrun, hk⟩
theorem step_app0 {ops : Array Oper} {o : Oper} {a : Act} {K : Act → World → Prop} {Q : Exit → Act → World → Prop} {E : Prop} (w : World) (s x : Operand) (hgd : o.guard = none) (ho : o.op = .call { callee := .builtin .append, args := #[s, x], argTypes := #[22, 22] })
    (sv : Value) (hs : a.eval s = .slice (some ⟨w.heap.size, 0, none⟩) 0 0) (hx : a.eval x = sv) {S : Nat → Prop} {bs : List UInt8} (hbs : BSl S w sv bs) (hl : bs.length ≤ 4294967296)
    (h : ∀ v' w', BSl (fun b => w.heap.size ≤ b) w' v' bs ∧ Kept Nope w w' → K (a.put o.dst v') w') : if Region.wanted o (yielded ops a.tmps) = true then Oper.wp Tryz.prog o a (w.alloc (.cells #[] 5)) K Q else E := by
  rw [if_pos (by simp [Region.wanted, hgd])]
  obtain ⟨i1, hi, hz0, hz1, hz2⟩ := info_parts info_u8
  have hown0 : (w.alloc (.cells #[] 5)).ownsRow w.heap.size 5 1 (.slice (some ⟨w.heap.size, 0, none⟩) 0 0) 0 [] := World.ownsRow_made w #[] 0 (Nat.le_refl _) (by simp [maxLen]) rfl
  refine wp_append_c _ s x 22 ho w.heap.size 5 i1 _ 1 1 Tryz.underlying22 hi hz0 hz1 hz2 rfl (by omega) _ _ _ hs hown0 S _ _ _ hx (hbs.keep ((Kept.refl Nope w).alloc _) (fun _ _ _ h => h)).toC (u8_one bs) (by unfold maxLen; omega) (by omega) (by rw [World.size_alloc]; omega) fun v' w' h1 h2 h3 => h v' w' ⟨?_, ?_⟩
  · rw [Nat.zero_add, List.nil_append] at h1
    exact (BSl.ofOwn h1).mono fun b _ hb => (h1.lt b hb).1
  · have hg : (w.alloc (.cells #[] 5)).grownBy w' (some w.heap.size) := h2
    exact ((Kept.refl Nope w).alloc _).grown hg fun k hk => .inr (by injection hk with hk; omega)
set_option maxRecDepth 100000 in
set_option maxHeartbeats 3200000 in
theorem FnPutAny_ok (v : V) (S : Nat → Prop) (w : World) (s xa : Value) (bs : List UInt8) (hs : BSl S w s bs) (ha : KAgg Any_ w xa v) : Calls Tryz.prog 3 #[s, xa] w (fun e w' => e = .returned (.bool true) ∧ Kept Nope w w') := by
  have HA := Lib.hid ha
  have HS := Lib.hid hs
  obtain ⟨ka, rfl, hna, hka⟩ := ha
  obtain ⟨p1, c1, rfl, q1, m1⟩ := hka.form
  unfold kagg at HA ⊢
  obtain ⟨ps, cs, rfl, hcs, hcm, _⟩ := hs
  obtain ⟨n, hn⟩ : ∃ n, bs.length = n := ⟨_, rfl⟩
  rw [hn] at hcs HS ⊢
  have HN := Lib.hid hn
  obtain ⟨cnt, hcnt⟩ : ∃ n, v.count = n := ⟨_, rfl⟩
  have HC := Lib.hid hcnt
  unfold maxLen at hcm
  have hnm : n ≤ 9223372036854775807 := by omega
  have HB := Lib.hid (And.intro ((Kept.refl Nope w).alloc (.cells #[Value.int .i64 v.kind, .int .u64 v.num, .string v.text, .int .i64 v.of_, .slice p1 v.kids.length c1] 26)) (Blk.new w 26 #[Value.int .i64 v.kind, .int .u64 v.num, .string v.text, .int .i64 v.of_, .slice p1 v.kids.length c1]))
  clear hna hka q1 m1 hn hcnt
  by_cases hbig : 2147483647 < n
  · have g1 : (2147483647 : Int) < (n : Int) := by omega
    go_enter Tryz.func3, Tryz.ntmps3
    go_wp2
    go_ret
    exact ⟨rfl, HB.out.1⟩
  have g1 : ¬ (2147483647 : Int) < (n : Int) := by omega
  go_enter Tryz.func3, Tryz.ntmps3
  go_upto_region 5 with (first
    | (go_at_call 4; go_must (refine (zzFits17_ok v _ _ (HA.out.nope HB.out.1)).mono ?_; rintro e w1 ⟨b1, rfl, -, hk⟩; have H1 := Lib.hid hk; clear hk; rcases b1))
    | (go_at_call 5; go_must (refine (PutAny_one _).mono ?_; rintro e w2 ⟨p2, c2, rfl, hcv, hk⟩; have H2 := Lib.hid (H1.out.trans' hk); clear hk)))
  · go_ret
    exact ⟨rfl, HB.out.1.trans' H1.out⟩
  clear hcv
  go_cut [49] (fun s wx => ∃ b, s = .bool b ∧ Hid (Kept Nope (w.alloc (.cells #[Value.int .i64 v.kind, .int .u64 v.num, .string v.text, .int .i64 v.of_, .slice p1 v.kids.length c1] 26)) wx ∧ (b = false → n ≤ 200 ∧ cnt ≤ 500 ∧ PFits 6 v ∧ PPlain v)))
  case first =>
    have g5 : ((500 : Int) < (cnt : Int)) ∨ ¬ ((500 : Int) < (cnt : Int)) := Classical.em _
    rcases g5 with g5 | g5
    all_goals
      go_wp2_with (first
        | (go_at_call 6; go_must (refine (few_ok _ ps n cs hnm).mono ?_; rintro e w3 ⟨b3, rfl, hb, hk⟩; have H3 := Lib.hid (And.intro hb (H2.out.trans' hk)); clear hb hk; obtain ⟨a0, a1, a2, a3, a4⟩ := Blk.five (HB.out.2.kept H3.out.2 (fun h => h)); rcases b3))
        | (go_at_call 7; go_must (refine (PackFits_ok v _ _ (HA.out.nope (HB.out.1.trans' H3.out.2))).mono ?_; rintro e w4 ⟨b4, rfl, hb, hk⟩; have H4 := Lib.hid (And.intro hb (H3.out.2.trans' hk)); clear hb hk a0 a1 a2 a3 a4; obtain ⟨a0, a1, a2, a3, a4⟩ := Blk.five (HB.out.2.kept H4.out.2 (fun h => h)); rcases b4))
        | (go_at_call 8; go_must (refine (Plain_any _ v (Nat.le_refl _) _ _ (HA.out.nope (HB.out.1.trans' H4.out.2))).mono ?_; rintro e w5 ⟨b5, rfl, hb, hk⟩; have H5 := Lib.hid (And.intro hb (H4.out.2.trans' hk)); clear hb hk a0 a1 a2 a3 a4; obtain ⟨a0, a1, a2, a3, a4⟩ := Blk.five (HB.out.2.kept H5.out.2 (fun h => h)); rcases b5))
        | (go_at_call 9; go_must (refine (Packs_any _ v (Nat.le_refl _) _ _ (HA.out.nope (HB.out.1.trans' H5.out.2)) (H4.out.1 trivial).1).mono ?_; rintro e w6 ⟨he, hk⟩; rw [HC.out] at he; subst he; have H6 := Lib.hid (H5.out.2.trans' hk); clear hk)))
    all_goals
      go_meet
      first
        | exact ⟨_, rfl, Lib.hid ⟨H6.out, fun _ => ⟨H3.out.1 trivial, by omega, (H4.out.1 trivial).2, H5.out.1 trivial⟩⟩⟩
        | exact ⟨_, rfl, Lib.hid ⟨H6.out, fun h => by cases h⟩⟩
        | exact ⟨_, rfl, Lib.hid ⟨H5.out.2, fun h => by cases h⟩⟩
        | exact ⟨_, rfl, Lib.hid ⟨H4.out.2, fun h => by cases h⟩⟩
        | exact ⟨_, rfl, Lib.hid ⟨H3.out.2, fun h => by cases h⟩⟩
  case rest =>
    obtain ⟨b, rfl, HQ⟩ := hcut
    cases b
    case true =>
      go_wp2
      go_ret
      exact ⟨rfl, HB.out.1.trans' HQ.out.1⟩
    case false =>
      have hn200 : n ≤ 200 := (HQ.out.2 rfl).1
      have HF := Lib.hid (HQ.out.2 rfl).2
      have HW := Lib.hid (HB.out.1.trans' HQ.out.1)
      have HBc := Lib.hid (HB.out.2.kept HQ.out.1 (fun h => h))
      clear HQ H1 H2
      go_upto_region 7 with fail
      have HM : Hid (∀ w', Kept Nope wc w' → w'.cell? ⟨w.heap.size, 0, none⟩ = some (.int .i64 v.kind) ∧ w'.cell? ⟨w.heap.size, 1, none⟩ = some (.int .u64 v.num) ∧ w'.cell? ⟨w.heap.size, 2, none⟩ = some (.string v.text) ∧ w'.cell? ⟨w.heap.size, 3, none⟩ = some (.int .i64 v.of_) ∧ w'.cell? ⟨w.heap.size, 4, none⟩ = some (.slice p1 v.kids.length c1)) := Lib.hid fun w' hk => Blk.five (HBc.out.kept hk (fun h => h))
      go_region_held3 (fun w' => w'.cell? ⟨w.heap.size, 0, none⟩ = some (.int .i64 v.kind) ∧ w'.cell? ⟨w.heap.size, 1, none⟩ = some (.int .u64 v.num) ∧ w'.cell? ⟨w.heap.size, 2, none⟩ = some (.string v.text) ∧ w'.cell? ⟨w.heap.size, 3, none⟩ = some (.int .i64 v.of_) ∧ w'.cell? ⟨w.heap.size, 4, none⟩ = some (.slice p1 v.kids.length c1))
        (first | exact HM.out _ (Kept.refl _ wc).drew | exact HM.out _ ((Kept.refl _ wc).drew.alloc _) | exact HM.out _ ‹Kept Nope wc _›)
        (first
          | (refine step_app0 wc.drew (.tmp 52) (.tmp 53) rfl rfl _ rfl rfl ((HS.out.keep HW.out (fun _ _ _ h => h)).drew) (by have := HN.out; omega) ?_; intro v4 w4 h4; have hS4 : Kept Nope wc w4 := (Kept.refl _ wc).drew.trans' h4.2; have H4 := Lib.hid h4.1; clear h4)
          | (go_at_call 5; refine (PutAny_ok v 6 _ _ _ _ bs H4.out (by have := HN.out; omega) (HA.out.nope (HW.out.trans' hS4)) HF.out.2.1 HF.out.2.2 (by have := HF.out.1; have := HC.out; omega)).mono ?_; rintro e w5 ⟨x5, ds, rfl, hp5, hb5, hk5⟩; have hS5 : Kept Nope wc w5 := hS4.trans' hk5; obtain ⟨p5, c5, rfl, hcap5, hmax5, hcell5⟩ := hb5; have H5 := Lib.hid (And.intro hp5 hcell5); clear hp5 hcell5 hk5))
      obtain ⟨r, hrd, henc⟩ := H5.out.1.1
      have hdl := henc.pos
      have hroom := proom_le _ v (Nat.le_refl _) 6 HF.out.2.1 HA.out.nums
      have hdl2 : ds.length ≤ 262184000 := by have := H5.out.1.2; have := HF.out.1; have := HC.out; omega
      obtain ⟨m, hm⟩ : ∃ m, (bs ++ ds).length = m := ⟨_, rfl⟩
      have hlen : m = n + ds.length := by rw [← hm, List.length_append, HN.out]
      rw [hm] at hcap5
      have hm2 : bs.length + ds.length = m := by rw [← hm, List.length_append]
      rw [hm2]
      obtain ⟨g5, off5, rfl, hcl⟩ : ∃ g off, p5 = some ⟨g, off, none⟩ ∧ ∀ j x, (bs ++ ds)[j]? = some x → w5.cell? ⟨g, off + j, none⟩ = some (u8 x) := by
        rcases H5.out.2 with h0 | ⟨b, off, h1, _, h2⟩
        · rw [h0] at hm; simp at hm; omega
        · exact ⟨b, off, h1, h2⟩
      have hb5 : BSl Any_ w5 (.slice (some ⟨g5, off5, none⟩) m c5) (bs ++ ds) := ⟨_, c5, by rw [hm], by rw [hm]; exact hcap5, hmax5, .inr ⟨g5, off5, rfl, trivial, hcl⟩⟩
      have hcn : ¬ c5 = n := by omega
      have hcm5 : n ≤ m := by omega
      have hlt5 : decide ((m : Int) < (n : Int)) = false := decide_eq_false (by omega)
      have hlt6 : ¬ (m : Int) < (n : Int) := by omega
      have hcut1 : n ≤ c5 := by omega
      have hcut2 : (n : Int) ≤ (c5 : Int) := by omega
      have hcut3 : (0 : Int) ≤ (n : Int) := by omega
      have hfr : BSl Any_ w5 (.slice (some ⟨g5, off5 + n, none⟩) (m - n) (c5 - n)) ds := by
        have h := hb5.from_ hcm5
        rw [if_neg hcn] at h
        have e : (bs ++ ds).drop n = ds := by rw [← HN.out, List.drop_left]
        rw [e] at h
        simpa [Addr.add_lit] using h
      have hcv1 : ∀ k, (convert 22 9 (.slice (some ⟨g5, off5, none⟩) n c5)).run Tryz.prog (w5.drewN k) = .ok (.string ⟨bs.toArray⟩) (w5.drewN k) := fun k => by
        have h := (hb5.take hcm5).keep ((Kept.refl Nope w5).drewN k) (fun _ _ _ h => h)
        have e : (bs ++ ds).take n = bs := by rw [← HN.out, List.take_left]
        rw [e] at h
        exact run_bytes_str (P := Tryz.prog) 22 9 5 Tryz.underlying22 Tryz.underlying5 Tryz.underlying9 h
      have hcv2 : ∀ k, (convert 22 9 (.slice ps n cs)).run Tryz.prog (w5.drewN k) = .ok (.string ⟨bs.toArray⟩) (w5.drewN k) := fun k => run_bytes_str (P := Tryz.prog) 22 9 5 Tryz.underlying22 Tryz.underlying5 Tryz.underlying9 (HS.out.keep ((HW.out.trans' hS5).drewN k) (fun _ _ _ h => h))
      have HT := Lib.hid (And.intro hrd (And.intro henc (And.intro hfr hdl2)))
      have HK5 := Lib.hid (And.intro hS5 hlen)
      clear hlen hrd henc hfr hdl2 hb5 hcl hroom hm hm2 hS4 hS5 hcap5 hmax5 hdl
      go_upto_region 8 with fail
      go_cut [77] (fun s wx => ∃ k, s = .bool false ∧ w5.drewN k = wx)
      case first =>
        go_quiet (fail)
        go_wp2_with fail
        go_meet
        exact ⟨_, rfl, rfl⟩
      case rest =>
        obtain ⟨k5, rfl, rfl⟩ := hcut
        clear hcv1 hcv2
        have HKw := Lib.hid (And.intro ((HW.out.trans' HK5.out.1).drewN k5) (HBc.out.kept (HK5.out.1.drewN k5) (fun h => h)))
        have HFr := Lib.hid (HT.out.2.2.1.keep ((Kept.refl Nope w5).drewN k5) (fun _ _ _ h => h))
        generalize w5.drewN k5 = wd at HKw HFr ⊢
        have HNr := Lib.hid (rd_nrm HT.out.1 6 HF.out.2.1 HF.out.2.2 HA.out.nums)
        go_wp2_with (first
          | (go_at_call 10; go_must (refine (takePack_any 6 r HNr.out 8 (by omega) (by omega) Any_ _ _ ds [] HT.out.2.1 (by rw [List.append_nil]; exact HFr.out) (by rw [List.append_nil]; have := HT.out.2.2.2; omega)).mono ?_; rintro e w6 ⟨x6, y6, rfl, hx6, hy6, hk6⟩; obtain ⟨k6, rfl, hn6, hks6⟩ := hx6; obtain ⟨p6, c6, rfl, hc6, hm6⟩ := hks6.form; obtain ⟨a6, d6, rfl, -⟩ := hy6; have H6 := Lib.hid (And.intro (show KAgg Any_ w6 (kagg r (.slice p6 r.kids.length c6)) r from ⟨_, rfl, hn6, hks6.mono fun _ _ _ => trivial⟩) hk6); obtain ⟨a0, a1, a2, a3, a4⟩ := Blk.five ((HKw.out.2.kept hk6 (fun h => h)).alloc (.cells #[.int .i64 r.kind, .int .u64 r.num, .string r.text, .int .i64 r.of_, .slice p6 r.kids.length c6] 26)); clear hn6 hks6 hk6 hc6 hm6; unfold kagg))
          | (go_at_call 11; go_must (refine (SU_any _ v (Nat.le_refl _) 6 HF.out.2.1 HF.out.2.2 HA.out.nums r _ _ _ HT.out.1 (HA.out.nope (HKw.out.1.trans' (H6.out.2.trans' ((Kept.refl Nope w6).alloc _)))) (H6.out.1.nope ((Kept.refl Nope w6).alloc _))).mono ?_; rintro e w7 ⟨rfl, hk7⟩; have H7 := Lib.hid hk7; clear hk7)))
        go_ret
        exact ⟨rfl, HKw.out.1.trans' (H6.out.2.trans' (((Kept.refl Nope w6).alloc _).trans' H7.out))⟩
end Go.Proofs.YtapfahngeaojkaaGreatDoor
