/- Package impl: unpacked: values without kids. Package impl: unpacked over lists. Package impl: unpacked over maps; unpacked whole. -/
import Derived.Lib.ConvBytes
import Derived.Test.YtapfahngeaojkaaGreatDoorK14
import Derived.Test.YtapfahngeaojkaaGreatDoorK12
import Derived.LoopTactic
import Derived.IntWalk
import Derived.Test.YtapfahngeaojkaaGreatDoorK17
namespace Go.Proofs.YtapfahngeaojkaaGreatDoor
open Go Go.RowKit Go.Lib
def UnpP (v : V) (w : World) : Ending → World → Prop := fun e w' => ∃ x, e = .returned (.tuple #[x, .nilIface]) ∧ UAny (fun i => w.heap.size ≤ i) w' x v ∧ Kept Nope w w'
def UnpIH (l : List V) : Prop := ∀ k, k ∈ l → ∀ (W : World) (y : Value), KAgg Any_ W y k → Calls Tryz.prog 12 #[y] W (UnpP k W)
theorem conv_bytes (w : World) (s : ByteArray) (hs : s.size ≤ maxLen) : ∃ p c w', (convert 9 22 (.string s)).run Tryz.prog w = .ok (.slice p s.size c) w' ∧ BSl (fun b => w.heap.size ≤ b) w' (.slice p s.size c) (bytesOf s) ∧ Kept Nope w w' := by
  refine ⟨_, _, _, Lib.run_convert_string_bytes w 9 22 5 s Tryz.underlying9 Tryz.underlying22 Tryz.underlying5, ⟨_, _, by rw [bytesOf_length], ?_, ?_, .inr ⟨w.heap.size, 0, rfl, Nat.le_refl _, fun j x hx => ?_⟩⟩, ⟨rfl, rfl, rfl, by rw [bytesWorld_size]; omega, fun k hk _ => bytesWorld_at_old w 5 s k hk⟩⟩
  · rw [bytesOf_length]; exact grownCap_ge w s.size 0 5
  · exact grownCap_le_maxLen w s.size 0 5 hs
  · have hj : j < s.size := by have := (List.getElem?_eq_some_iff.1 hx).1; rwa [bytesOf_length] at this
    rw [Nat.zero_add, bytesWorld_cell w 5 s j hj]
    unfold bytesOf at hx
    rw [List.getD, hx]
    rfl
set_option maxRecDepth 100000 in
theorem upon_conv {o : Oper} {a : Act} {K : Act → World → Prop} {Q : Exit → Act → World → Prop} {f : Value → World → Result Next} {w : World} {s : ByteArray} (hs : s.size ≤ maxLen)
    (hK : ∀ p c w', BSl (fun b => w.heap.size ≤ b) w' (.slice p s.size c) (bytesOf s) → Kept Nope w w' → Oper.upon Tryz.prog o a K Q ((Result.ok (.slice p s.size c) w').andThen f)) : Oper.upon Tryz.prog o a K Q ((Sem.run Tryz.prog (convert 9 22 (.string s)) w).andThen f) := by
  obtain ⟨p, c, w', hrun, h1, h2⟩ := conv_bytes w s hs
  exact Eq.mpr (congrArg (fun r => Oper.upon Tryz.prog o a K Q (Result.andThen r f)) hrun) (hK p c w' h1 h2)
set_option maxRecDepth 100000 in
set_option maxHeartbeats 3200000 in
theorem unp_0 (v : V) (w : World) (xa : Value) (ha : KAgg Any_ w xa v) (hk : v.kind = 0) : Calls Tryz.prog 12 #[xa] w (UnpP v w) := by
  obtain ⟨ka, rfl, hna, hka⟩ := ha
  obtain ⟨p1, c1, rfl, q1, m1⟩ := hka.form
  unfold kagg
  rw [hk]
  have HK := Lib.hid hk
  clear hna hka q1 m1 hk
  go_enter Tryz.func12, Tryz.ntmps12
  go_wp2_with (fail)
  go_ret2
  exact ⟨_, rfl, .nil HK.out, (Kept.refl Nope w).alloc _⟩
set_option maxRecDepth 100000 in
set_option maxHeartbeats 3200000 in
theorem unp_1 (v : V) (w : World) (xa : Value) (ha : KAgg Any_ w xa v) (hk : v.kind = 1) : Calls Tryz.prog 12 #[xa] w (UnpP v w) := by
  obtain ⟨ka, rfl, hna, hka⟩ := ha
  obtain ⟨p1, c1, rfl, q1, m1⟩ := hka.form
  unfold kagg
  rw [hk]
  obtain ⟨c, hc⟩ : ∃ c, (v.num != 0) = c := ⟨_, rfl⟩
  have HC : Hid ((v.num != 0) = c) := Lib.hid hc
  have HK := Lib.hid hk
  clear hna hka q1 m1 hk
  go_enter Tryz.func12, Tryz.ntmps12
  go_wp2_with (fail)
  go_ret2
  exact ⟨_, rfl, HC.out ▸ .bool HK.out, (Kept.refl Nope w).alloc _⟩
set_option maxRecDepth 100000 in
set_option maxHeartbeats 3200000 in
theorem unp_2 (v : V) (w : World) (xa : Value) (ha : KAgg Any_ w xa v) (hk : v.kind = 2) : Calls Tryz.prog 12 #[xa] w (UnpP v w) := by
  obtain ⟨ka, rfl, hna, hka⟩ := ha
  obtain ⟨p1, c1, rfl, q1, m1⟩ := hka.form
  unfold kagg
  rw [hk]
  obtain ⟨i, hi⟩ : ∃ i, IntKind.i64.wrap v.num = i := ⟨_, rfl⟩
  have HC : Hid (IntKind.i64.wrap v.num = i) := Lib.hid hi
  have HK := Lib.hid hk
  clear hna hka q1 m1 hk
  go_enter Tryz.func12, Tryz.ntmps12
  go_wp2_with (fail)
  go_ret2
  exact ⟨_, rfl, HC.out ▸ .int HK.out, (Kept.refl Nope w).alloc _⟩
set_option maxRecDepth 100000 in
set_option maxHeartbeats 3200000 in
theorem unp_3 (v : V) (w : World) (xa : Value) (ha : KAgg Any_ w xa v) (hk : v.kind = 3) : Calls Tryz.prog 12 #[xa] w (UnpP v w) := by
  obtain ⟨ka, rfl, hna, hka⟩ := ha
  obtain ⟨p1, c1, rfl, q1, m1⟩ := hka.form
  unfold kagg
  rw [hk]
  have HK := Lib.hid hk
  clear hna hka q1 m1 hk
  go_enter Tryz.func12, Tryz.ntmps12
  go_wp2_with (fail)
  go_ret2
  exact ⟨_, rfl, .uint HK.out, (Kept.refl Nope w).alloc _⟩
set_option maxRecDepth 100000 in
set_option maxHeartbeats 3200000 in
theorem unp_4 (v : V) (w : World) (xa : Value) (ha : KAgg Any_ w xa v) (hk : v.kind = 4) (h0 : 0 ≤ v.num) (h1 : v.num < 4294967296) : Calls Tryz.prog 12 #[xa] w (UnpP v w) := by
  obtain ⟨ka, rfl, hna, hka⟩ := ha
  obtain ⟨p1, c1, rfl, q1, m1⟩ := hka.form
  unfold kagg
  rw [hk]
  obtain ⟨N, hN⟩ : ∃ N : Nat, v.num = N := ⟨v.num.toNat, (Int.toNat_of_nonneg h0).symm⟩
  have hN1 : N < 4294967296 := by omega
  have HC : Hid (v.num.toNat = N) := Lib.hid (by omega)
  rw [hN]
  clear hN h0 h1
  have hfl := fun W => f32frombits_run N W
  have HK := Lib.hid hk
  clear hna hka q1 m1 hk
  go_enter Tryz.func12, Tryz.ntmps12
  go_wp2_with (fail)
  go_ret2
  refine ⟨_, rfl, ?_, (Kept.refl Nope w).alloc _⟩
  have h := UAny.f32 (S := fun i => w.heap.size ≤ i) (w := w.alloc (.cells #[.int .i64 4, .int .u64 N, .string v.text, .int .i64 v.of_, .slice p1 v.kids.length c1] 26)) HK.out
  rw [HC.out] at h
  exact h
set_option maxRecDepth 100000 in
set_option maxHeartbeats 3200000 in
theorem unp_5 (v : V) (w : World) (xa : Value) (ha : KAgg Any_ w xa v) (hk : v.kind = 5) (h0 : 0 ≤ v.num) : Calls Tryz.prog 12 #[xa] w (UnpP v w) := by
  obtain ⟨ka, rfl, hna, hka⟩ := ha
  obtain ⟨p1, c1, rfl, q1, m1⟩ := hka.form
  unfold kagg
  rw [hk]
  obtain ⟨N, hN⟩ : ∃ N : Nat, v.num = N := ⟨v.num.toNat, (Int.toNat_of_nonneg h0).symm⟩
  have HC : Hid (v.num.toNat = N) := Lib.hid (by omega)
  rw [hN]
  clear hN h0
  have hfl := fun W => f64frombits_run N W
  have HK := Lib.hid hk
  clear hna hka q1 m1 hk
  go_enter Tryz.func12, Tryz.ntmps12
  go_wp2_with (fail)
  go_ret2
  refine ⟨_, rfl, ?_, (Kept.refl Nope w).alloc _⟩
  have h := UAny.f64 (S := fun i => w.heap.size ≤ i) (w := w.alloc (.cells #[.int .i64 5, .int .u64 N, .string v.text, .int .i64 v.of_, .slice p1 v.kids.length c1] 26)) HK.out
  rw [HC.out] at h
  exact h
set_option maxRecDepth 100000 in
set_option maxHeartbeats 3200000 in
theorem unp_6 (v : V) (w : World) (xa : Value) (ha : KAgg Any_ w xa v) (hk : v.kind = 6) : Calls Tryz.prog 12 #[xa] w (UnpP v w) := by
  obtain ⟨ka, rfl, hna, hka⟩ := ha
  obtain ⟨p1, c1, rfl, q1, m1⟩ := hka.form
  unfold kagg
  rw [hk]
  have HK := Lib.hid hk
  clear hna hka q1 m1 hk
  go_enter Tryz.func12, Tryz.ntmps12
  go_wp2_with (fail)
  go_ret2
  exact ⟨_, rfl, .text HK.out, (Kept.refl Nope w).alloc _⟩
set_option maxRecDepth 100000 in
set_option maxHeartbeats 3200000 in
theorem unp_7 (v : V) (w : World) (xa : Value) (ha : KAgg Any_ w xa v) (hk : v.kind = 7) : Calls Tryz.prog 12 #[xa] w (UnpP v w) := by
  obtain ⟨ka, rfl, hna, hka⟩ := ha
  obtain ⟨p1, c1, rfl, q1, m1⟩ := hka.form
  unfold kagg
  rw [hk]
  have HT := Lib.hid (show v.text.size ≤ maxLen from hna.1.text)
  have HK := Lib.hid hk
  clear hna hka q1 m1 hk
  go_enter Tryz.func12, Tryz.ntmps12
  go_wp2_with (refine upon_conv HT.out ?_; intro p2 c2 w2 hb2 hk2; have H2 := Lib.hid (And.intro hb2 hk2); clear hb2 hk2; go_simp)
  go_ret2
  refine ⟨_, rfl, .bin HK.out (H2.out.1.mono fun b _ h => ?_), ((Kept.refl Nope w).alloc _).trans' H2.out.2⟩
  have h' : (w.alloc (.cells #[.int .i64 7, .int .u64 v.num, .string v.text, .int .i64 v.of_, .slice p1 v.kids.length c1] 26)).heap.size ≤ b := h
  rw [World.size_alloc] at h'
  show w.heap.size ≤ b
  omega
end Go.Proofs.YtapfahngeaojkaaGreatDoor
namespace Go.Proofs.YtapfahngeaojkaaGreatDoor
open Go Go.RowKit Go.Lib
structure RowA (w0 w : World) (x : Value) (l : List (Value × V)) : Prop where
  own : w.ownsRow w0.heap.size 20 1 x l.length (l.map (·.1))
  ok : ∀ p ∈ l, UAny (fun b => w0.heap.size ≤ b ∧ x.ownBlock ≠ some b) w p.1 p.2
namespace RowA
variable {w0 w w' : World} {x x' : Value} {l : List (Value × V)}
theorem nope (h : RowA w0 w x l) (hk : Kept Nope w w') : RowA w0 w' x l := ⟨ownsRow_keep h.own hk fun _ _ h => h, fun a ha => (h.ok a ha).keep hk fun _ _ _ h => h⟩
theorem push {y : Value} {v : V} (h : RowA w0 w x l) (ha : UAny (fun b => w0.heap.size ≤ b ∧ x.ownBlock ≠ some b) w y v) (h2 : w'.ownsRow w0.heap.size 20 1 x' (l.length + 1) (l.map (·.1) ++ [y])) (hg : w.grownBy w' x.ownBlock)
    (h4 : x'.ownBlock = x.ownBlock ∨ x'.ownBlock = some w.heap.size) : RowA w0 w' x' (l ++ [(y, v)]) := by
  refine ⟨by simpa using h2, fun c hc => ?_⟩
  have hk : Kept (fun b => x.ownBlock = some b) w w' := ⟨hg.os, hg.tape, hg.output, hg.size, fun k hk hn => hg.block k hk (fun e => hn e.symm)⟩
  have hcok : UAny (fun b => w0.heap.size ≤ b ∧ x.ownBlock ≠ some b) w c.1 c.2 := by
    rcases List.mem_append.1 hc with h1 | h1
    · exact h.ok c h1
    · rw [List.mem_singleton.1 h1]; exact ha
  refine ((hcok.mono (S' := fun b => (w0.heap.size ≤ b ∧ x.ownBlock ≠ some b) ∧ b < w.heap.size) fun b hb hS => ⟨hS, hb⟩).keep hk (fun b _ hb hm => hb.1.2 hm)).mono fun b _ hb => ⟨hb.1.1, ?_⟩
  rcases h4 with e | e
  · rw [e]; exact hb.1.2
  · rw [e]
    intro e'
    have : w.heap.size = b := by injection e'
    omega
end RowA
theorem UAny.form {S : Nat → Prop} {w : World} {x : Value} {v : V} (h : UAny S w x v) : x = .nilIface ∨ ∃ T y, x = .iface T y := by
  cases h <;> first | exact .inl rfl | exact .inr ⟨_, _, rfl⟩
theorem info_any : (Tryz.prog.info? 20).map (fun i => (i.zero, i.size, i.bytes)) = some (some .nilIface, 1, 16) := by kernel_rfl
theorem CSl.one_any {W : World} {x : Value} {g : Nat} (hg : W.heap.size = g) : CSl Any_ (W.alloc (.cells #[x] 20)) 1 (.slice (some ⟨g, 0, none⟩) 1 1) 1 [x] := by
  subst hg
  refine ⟨rfl, _, 1, rfl, Nat.le_refl _, by decide, .inr ⟨W.heap.size, 0, rfl, trivial, fun j u hu => ?_⟩⟩
  rw [(Blk.new W 20 #[x]).cell, Nat.zero_add]
  simpa using hu
set_option maxRecDepth 100000 in
set_option maxHeartbeats 3200000 in
theorem unp_8 (v : V) (w : World) (xa : Value) (ha : KAgg Any_ w xa v) (h8 : v.kind = 8) (hf : v.kids.length ≤ 2000) (ih : UnpIH v.kids) : Calls Tryz.prog 12 #[xa] w (UnpP v w) := by
  obtain ⟨i1, hi, hz0, hz1, hz2⟩ := info_parts info_any
  obtain ⟨ka, rfl, hna, hka⟩ := ha
  have HKA := Lib.hid hka
  have HI := Lib.hid ih
  have H8 := Lib.hid h8
  obtain ⟨p1, c1, rfl, q1, m1⟩ := hka.form
  unfold kagg
  obtain ⟨n, hn⟩ : ∃ m, v.kids.length = m := ⟨_, rfl⟩
  rw [hn] at hf ⊢
  rw [h8]
  have HL := Lib.hid hn
  clear hna hka ih q1 m1 hn h8
  have HW := Lib.hid (And.intro ((Kept.refl Nope w).alloc (.cells #[Value.int .i64 8, .int .u64 v.num, .string v.text, .int .i64 v.of_, .slice p1 n c1] 26)) (Blk.new w 26 #[Value.int .i64 8, .int .u64 v.num, .string v.text, .int .i64 v.of_, .slice p1 n c1]))
  go_enter Tryz.func12, Tryz.ntmps12
  go_wp2_with (at_make; go_must (refine wpList_make0 _ rfl _ _ 55 rfl 20 i1 _ 1 16 Tryz.underlying55 hi hz0 hz1 hz2 n rfl rfl (by omega) (by unfold maxLen; omega) w.heap.size (HW.out.1.size) ?_; intro w0 H0; have hb4 := (HW.out.2.kept H0.out.2 (fun h => h)).cell 4; simp only [List.getElem?_toArray, List.getElem?_cons_zero, List.getElem?_cons_succ] at hb4))
  have HW0 := Lib.hid (HW.out.1.trans' H0.out.2)
  have HRW := Lib.hid H0.out.1
  clear H0 HW
  clear hb4
  go_loopw [4, 67] (fun o c w' => ∃ (k : Nat) (l : List (Value × V)), k ≤ n ∧ c = .int .i64 k ∧ l.length = k ∧ Hid (RowA w w' o l ∧ l.map (·.2) = v.kids.take k ∧ Kept Nope w w')) (fun _ c _ => n - (RowKit.intOf c).toNat)
  case atStart => exact ⟨0, [], by omega, rfl, rfl, Lib.hid ⟨⟨by have h := HRW.out; rw [World.size_alloc] at h; exact h, fun p hp => by cases hp⟩, rfl, HW0.out⟩⟩
  case round =>
    obtain ⟨k, l, hk, rfl, hlk, HR⟩ := hrel
    obtain ⟨pq, cq, ho⟩ := ownsRow_form0 HR.out.1.own
    rw [hlk] at ho
    subst ho
    by_cases hkn : k < n
    · have hkn' : (k : Int) < (n : Int) := by omega
      have hk0 : (0 : Int) ≤ (k : Int) := by omega
      have e1 : IntKind.i64.wrap ((k : Int) + 1) = (k : Int) + 1 := IntWalk.i64_in _ (by omega)
      obtain ⟨x, hx⟩ : ∃ u, v.kids[k]? = some u := ⟨v.kids[k]'(by rw [HL.out]; exact hkn), List.getElem?_eq_getElem _⟩
      obtain ⟨b2, off2, cap2, pk, ck, q2, -, -, y0, y1, y2, y3, y4, hvx⟩ := (HKA.out.keep HR.out.2.2 (fun _ _ _ h => h)).agg hx
      injection q2 with q2 q3 q2'
      clear q3
      subst q2 q2'
      have HX := Lib.hid (And.intro hx hvx)
      clear hx hvx
      go_wp2_with (first
        | (go_at_call 12; go_must (refine (HI.out x (List.mem_of_getElem? HX.out.1) _ _ (HX.out.2.nope ((Kept.refl _ _).alloc _))).mono ?_; rintro e w3 ⟨y, rfl, hu, hk3⟩; have HY := Lib.hid (Eq.refl y); have hka := (((Kept.refl Nope wr).alloc (.cells #[Value.int .i64 x.kind, .int .u64 x.num, .string x.text, .int .i64 x.of_, .slice pk x.kids.length ck] 26)).trans' hk3).trans' ((Kept.refl Nope w3).alloc (.cells #[y] 20)); have H3 := Lib.hid (And.intro hu (And.intro hk3 (And.intro hka (HR.out.1.nope hka)))); clear hk3 hka; rcases hu.form with rfl | ⟨T, z, rfl⟩; all_goals clear hu))
        | (at_builtin; go_must (refine wpList_append_c _ rfl (.tmp 79) (.tmp 81) 55 rfl w.heap.size 20 i1 _ 1 16 Tryz.underlying55 hi hz0 hz1 hz2 rfl (by decide) _ _ _ rfl (by have h := H3.out.2.2.2.own; rw [hlk] at h; exact h) Any_ _ 1 [_] rfl (CSl.one_any rfl) (by intro u hu; rw [List.mem_singleton.1 hu]; rfl) (by unfold maxLen; omega) (by omega) (Nat.le_trans HR.out.2.2.size H3.out.2.2.1.size) ?_; intro v4 w4 hown hgrow hblk; have HN := Lib.hid (And.intro hown (And.intro hgrow hblk)); clear hown hgrow hblk)))
      all_goals
        go_roundw
        case rel =>
          have hrow : ∀ b, (Value.slice pq k cq).ownBlock = some b → w.heap.size ≤ b ∧ b < wr.heap.size := fun b hb => HR.out.1.own.lt b hb
          refine ⟨k + 1, l ++ [(_, x)], by omega, by go_num, by simp [hlk], Lib.hid ⟨RowA.push (v := x) H3.out.2.2.2 ((H3.out.1.nope ((Kept.refl Nope w3).alloc _)).mono fun b _ hb => ?_) (by rw [hlk]; exact HN.out.1) HN.out.2.1 HN.out.2.2, ?_, ?_⟩⟩
          · rw [World.size_alloc] at hb
            exact ⟨by have := HR.out.2.2.size; omega, fun e => by have := (hrow b e).2; omega⟩
          · rw [List.map_append, List.take_add_one, HX.out.1, HR.out.2.1]
            rfl
          · exact (HR.out.2.2.trans' H3.out.2.2.1).trans (kept_grown HN.out.2.1) fun b hb e => by have := (hrow b e).1; omega
        case measure => simp [RowKit.intOf]; omega
    · obtain rfl : k = n := by omega
      have hlt : ¬ (k : Int) < (k : Int) := by omega
      go_wp2
      go_ret2
      have h1 := HR.out
      rw [List.take_of_length_le (by rw [HL.out]; exact Nat.le_refl _)] at h1
      have hc := CSl.ownRow h1.1.own
      rw [hlk] at hc
      refine ⟨_, rfl, .arr H8.out (by rw [HL.out]; exact hc) (fun i y u hy hu => ?_), h1.2.2⟩
      rw [List.getElem?_map] at hy
      cases hq : l[i]? with
      | none => rw [hq] at hy; cases hy
      | some q =>
        rw [hq] at hy
        have e1 : q.1 = y := by simpa using hy
        have h2 : (l.map (·.2))[i]? = some q.2 := by rw [List.getElem?_map, hq]; rfl
        rw [h1.2.1, hu] at h2
        injection h2 with h2
        rw [← e1, h2]
        exact (h1.1.ok q (List.mem_of_getElem? hq)).mono fun b _ hb => hb.1
end Go.Proofs.YtapfahngeaojkaaGreatDoor
namespace Go.Proofs.YtapfahngeaojkaaGreatDoor
open Go Go.RowKit Go.Lib
set_option maxRecDepth 100000 in
set_option maxHeartbeats 3200000 in
theorem unp_9 (v : V) (w : World) (xa : Value) (ha : KAgg Any_ w xa v) (h9 : v.kind = 9) (hf : v.kids.length ≤ 2000) (hev : v.kids.length % 2 = 0) (hkeys : ∀ (i : Nat) (k : V), v.kids[2 * i]? = some k → k.kind = 6 ∧ ∀ (j : Nat) (k' : V), j < i → v.kids[2 * j]? = some k' → k'.text ≠ k.text) (ih : UnpIH v.kids) : Calls Tryz.prog 12 #[xa] w (UnpP v w) := by
  obtain ⟨ka, rfl, hna, hka⟩ := ha
  have HKA := Lib.hid hka
  have HI := Lib.hid ih
  have H9 := Lib.hid (And.intro h9 hkeys)
  obtain ⟨p1, c1, rfl, q1, m1⟩ := hka.form
  have hpl := pairs_len v.kids hev
  unfold kagg
  obtain ⟨n, hn⟩ : ∃ m, v.kids.length = m := ⟨_, rfl⟩
  rw [hn] at hf hev hpl ⊢
  rw [h9]
  have HL := Lib.hid (And.intro hn hpl)
  clear hna hka ih q1 m1 hn h9 hkeys hpl
  have HW := Lib.hid (And.intro (((Kept.refl Nope w).alloc (.cells #[Value.int .i64 9, .int .u64 v.num, .string v.text, .int .i64 v.of_, .slice p1 n c1] 26)).alloc (.map #[] 0)) (And.intro ((Blk.new w 26 #[Value.int .i64 9, .int .u64 v.num, .string v.text, .int .i64 v.of_, .slice p1 n c1]).alloc (.map #[] 0)) (by have h := MapAt.new (w.alloc (.cells #[Value.int .i64 9, .int .u64 v.num, .string v.text, .int .i64 v.of_, .slice p1 n c1] 26)); rw [World.size_alloc] at h; exact h)))
  have hmk := fun W => run_makeMap (P := Tryz.prog) 56 W
  go_enter Tryz.func12, Tryz.ntmps12
  go_wp2_with fail
  clear hmk
  obtain ⟨A, hA⟩ : ∃ A, w.heap.size = A := ⟨_, rfl⟩
  obtain ⟨W3, hW3⟩ : ∃ W3, (w.alloc (.cells #[Value.int .i64 9, .int .u64 v.num, .string v.text, .int .i64 v.of_, .slice p1 n c1] 26)).alloc (.map #[] 0) = W3 := ⟨_, rfl⟩
  rw [hW3, hA] at HW
  rw [hW3, hA]
  have HA := Lib.hid hA
  clear hW3 hA
  go_loopw [10] (fun c w' => ∃ (k : Nat) (es : List (Value × Value)), 2 * k ≤ n ∧ c = .int .i64 (2 * (k : Int)) ∧ Hid (es.length = k ∧ MapAt w' (A + 1) es ∧ Kept (Only (A + 1)) W3 w' ∧ (∀ (i : Nat) (e : Value × Value) (p : V × V), es[i]? = some e → (pairs v.kids)[i]? = some p → p.1.kind = 6 ∧ e.1 = .string p.1.text) ∧ (∀ (i : Nat) (e : Value × Value) (p : V × V), es[i]? = some e → (pairs v.kids)[i]? = some p → UAny (fun b => A ≤ b ∧ b ≠ A + 1) w' e.2 p.2))) (fun c _ => n - (RowKit.intOf c).toNat)
  case atStart => exact ⟨0, [], by omega, rfl, Lib.hid ⟨rfl, HW.out.2.2, Kept.refl _ _, fun i e p h => by simp at h, fun i e p h => by simp at h⟩⟩
  case round =>
    obtain ⟨k, es, hk, rfl, HR⟩ := hrel
    have HKW := Lib.hid (HW.out.1.trans HR.out.2.2.1 fun b hb e => by have e' : b = A + 1 := e; have := HA.out; omega)
    have bb := (HW.out.2.1.kept HR.out.2.2.1 (fun e => by have e' : A = A + 1 := e; omega)).cell 4
    simp only [List.getElem?_toArray, List.getElem?_cons_zero, List.getElem?_cons_succ] at bb
    have e0 : IntKind.i64.wrap (2 * (k : Int) + 1) = 2 * (k : Int) + 1 := IntWalk.i64_in _ (by omega)
    by_cases hkn : 2 * k + 1 < n
    · have hkn' : 2 * (k : Int) + 1 < (n : Int) := by omega
      have hkn2 : 2 * (k : Int) < (n : Int) := by omega
      have hk0 : (0 : Int) ≤ 2 * (k : Int) := by omega
      have hk1 : (0 : Int) ≤ 2 * (k : Int) + 1 := by omega
      have e2 : IntKind.i64.wrap (2 * (k : Int) + 2) = 2 * (k : Int) + 2 := IntWalk.i64_in _ (by omega)
      have t0 : (2 * (k : Int)).toNat = 2 * k := by omega
      have t1 : (2 * (k : Int) + 1).toNat = 2 * k + 1 := by omega
      obtain ⟨x, hx⟩ : ∃ u, v.kids[2 * k]? = some u := ⟨v.kids[2 * k]'(by rw [HL.out.1]; omega), List.getElem?_eq_getElem _⟩
      obtain ⟨u, hu⟩ : ∃ u, v.kids[2 * k + 1]? = some u := ⟨v.kids[2 * k + 1]'(by rw [HL.out.1]; omega), List.getElem?_eq_getElem _⟩
      obtain ⟨b2, off2, cap2, pk, ck, q2, -, -, y0, y1, y2, y3, y4, hvu⟩ := (HKA.out.keep HKW.out (fun _ _ _ h => h)).agg hu
      injection q2 with q2 q3 q2'
      clear q3
      subst q2 q2'
      obtain ⟨b3, off3, cap3, pk3, ck3, q3, -, -, z0, -, z2, -, -, -⟩ := (HKA.out.keep HKW.out (fun _ _ _ h => h)).agg hx
      injection q3 with q3 q3m q3'
      injection q3 with q3
      injection q3 with q3a q3b
      subst q3a q3b
      clear q3m q3'
      have hkx := H9.out.2 k x hx
      have n6 : (x.kind != 6) = false := by rw [hkx.1]; rfl
      have HX := Lib.hid (And.intro hx (And.intro hu (And.intro hvu (And.intro hkx (pairs_of _ _ _ _ hx hu)))))
      have HZ := Lib.hid (And.intro z0 (And.intro z2 bb))
      clear hx hu hvu hkx z0 z2
      go_wp2_with (first
        | (go_at_call 12; go_must (refine (HI.out u (List.mem_of_getElem? HX.out.2.1) _ _ HX.out.2.2.1).mono ?_; rintro e w3 ⟨y, rfl, hu3, hk3⟩; have z0 := hk3.cell HZ.out.1 (fun h => h); have z2 := hk3.cell HZ.out.2.1 (fun h => h); have bb3 := hk3.cell HZ.out.2.2 (fun h => h); have H3 := Lib.hid (And.intro hu3 hk3); clear hu3 hk3))
        | (refine wpList_mapUpdate_new rfl (.tmp 119) (.tmp 125) (.tmp 126) 56 rfl rfl rfl rfl (HR.out.2.1.keep H3.out.2 (fun h => h)) Tryz.underlying56 (fun W => check_text false _ W) (NoKey.text Tryz.underlying9 (fun e he => by
            obtain ⟨i, hi⟩ := List.mem_iff_getElem?.1 he
            have hil := (List.getElem?_eq_some_iff.1 hi).1
            have hik : i < k := by rw [← HR.out.1]; exact hil
            have hpi : (pairs v.kids)[i]? = some ((pairs v.kids)[i]'(by have := HL.out.2; omega)) := List.getElem?_eq_getElem _
            exact ⟨_, (HR.out.2.2.2.1 i e _ hi hpi).2, HX.out.2.2.2.1.2 i _ hik (pairs_at _ _ _ hpi).1⟩)) ?_; intro w4 hm4 hk4; have H4 := Lib.hid (And.intro hm4 hk4); clear hm4 hk4))
      go_roundw
      case rel =>
        have hAs : A + 2 ≤ wr.heap.size := by have := HR.out.2.1.lt; omega
        refine ⟨k + 1, es ++ [(.string x.text, y)], by omega, by go_num, Lib.hid ⟨by rw [List.length_append, HR.out.1]; rfl, H4.out.1, HR.out.2.2.1.trans' ((H3.out.2.nope).trans' H4.out.2), fun i e p he hp => ?_, fun i e p he hp => ?_⟩⟩
        · rw [List.getElem?_append] at he
          split at he
          · exact HR.out.2.2.2.1 i e p he hp
          · next hge =>
            have h0 : i = k := by have := (List.getElem?_eq_some_iff.1 he).1; have h := HR.out.1; simp at this; omega
            subst h0
            rw [HR.out.1, Nat.sub_self] at he
            simp at he
            have h5 := HX.out.2.2.2.2
            rw [hp] at h5
            cases h5
            subst he
            exact ⟨HX.out.2.2.2.1.1, rfl⟩
        · rw [List.getElem?_append] at he
          split at he
          · exact ((HR.out.2.2.2.2 i e p he hp).nope H3.out.2).keep H4.out.2 fun b _ hb h2 => hb.2 h2
          · next hge =>
            have h0 : i = k := by have := (List.getElem?_eq_some_iff.1 he).1; have h := HR.out.1; simp at this; omega
            subst h0
            rw [HR.out.1, Nat.sub_self] at he
            simp at he
            have h5 := HX.out.2.2.2.2
            rw [hp] at h5
            cases h5
            subst he
            exact (H3.out.1.mono (S' := fun b => A ≤ b ∧ b ≠ A + 1) fun b _ hb => ⟨by omega, by omega⟩).keep H4.out.2 fun b _ hb h2 => hb.2 h2
      case measure => simp [RowKit.intOf]; omega
    · have hlt : ¬ 2 * (k : Int) + 1 < (n : Int) := by omega
      go_wp2
      go_ret2
      have h1 := HR.out
      have hA := HA.out
      refine ⟨_, rfl, .map H9.out.1 (by omega) h1.2.1 (by have := HL.out.2; omega) h1.2.2.2.1 (fun i e p he hp => (h1.2.2.2.2 i e p he hp).mono fun b _ hb => by have := hb.1; omega), HKW.out⟩
theorem unpacked_any : ∀ (n : Nat) (v : V), SizeOf.sizeOf v ≤ n → ∀ (L : Nat), PFits L v → PPlain v → Nums v → ∀ (W : World) (y : Value), KAgg Any_ W y v → Calls Tryz.prog 12 #[y] W (UnpP v W) := by
  intro n
  induction n using Nat.strongRecOn with
  | _ n ih =>
    intro v hn L hf hp hnu W y hy
    have ho := hf.own
    have hnum := hnu.num
    have h10 := hp.ne
    have hkd := ho.kind
    have hih : UnpIH v.kids := by
      intro k hk
      cases hf with
      | mk _ hfk =>
        cases hp with
        | mk _ hpk _ =>
          cases hnu with
          | mk _ _ _ hnk => exact ih (SizeOf.sizeOf k) (by have := V.sizeOf_kid hk; omega) k (Nat.le_refl _) _ (hfk k hk) (hpk k hk) (hnk k hk)
    rcases (show v.kind = 0 ∨ v.kind = 1 ∨ v.kind = 2 ∨ v.kind = 3 ∨ v.kind = 4 ∨ v.kind = 5 ∨ v.kind = 6 ∨ v.kind = 7 ∨ v.kind = 8 ∨ v.kind = 9 by omega) with h | h | h | h | h | h | h | h | h | h
    · exact unp_0 v W y hy h
    · exact unp_1 v W y hy h
    · exact unp_2 v W y hy h
    · exact unp_3 v W y hy h
    · exact unp_4 v W y hy h hnum.1 (ho.n4 h)
    · exact unp_5 v W y hy h hnum.1
    · exact unp_6 v W y hy h
    · exact unp_7 v W y hy h
    · exact unp_8 v W y hy h ho.few hih
    · exact unp_9 v W y hy h ho.few (ho.even h) (by cases hp with | mk _ _ hk => exact hk h) hih
end Go.Proofs.YtapfahngeaojkaaGreatDoor
