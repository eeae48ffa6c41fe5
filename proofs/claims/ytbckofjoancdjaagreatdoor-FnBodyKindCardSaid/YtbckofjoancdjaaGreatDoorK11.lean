/- Package encoding: times and uuids. Package encoding: a uuid. Package encoding: ReadAny, by the code: what the reader for it gives, in an interface. -/
import Derived.Test.YtbckofjoancdjaaGreatDoorK10
import Derived.Laws.ResultCell
import Derived.Laws.Tables
import Derived.Laws.CopyOwn
namespace Go.Proofs.YtbckofjoancdjaaGreatDoor
open Go Go.RowKit Go.Lib
theorem results_cell1 {fn : Func} {p : Tmp} {ty : TypeId} (h : fn.results = #[.cell p ty]) (tmps : Array Value) (P : Program) (w : World) :
    (results fn tmps).run P w = ((asAddr (tmps.getD p undef)).run P w).andThen fun a w₁ => ((loadVar ty a).run P w₁).andThen fun v w₂ => .ok v w₂ := by
  simp only [results, h]
  simp [Sem.run_bind, Result.andThen]
  rcases Sem.run P (asAddr (tmps[p]?.getD undef)) w with ⟨a, w1⟩ | ⟨h, w1⟩
  · simp only
    rcases Sem.run P (loadVar ty a) w1 with ⟨b, w2⟩ | ⟨h, w2⟩ <;> rfl
  · rfl
def tm (ms : Int) : Value := .agg #[.int .i64 (ms / 1000), .int .i64 (ms % 1000 * 1000000)]
theorem Buf.mem_lt {w : World} {r : Nat} {s : Value} {D : List UInt8} {i : Nat} (h : Buf w r s D i) {b off n c : Nat} (hs : s = .slice (some ⟨b, off, none⟩) n c) (hD : D ≠ []) : b < w.heap.size := by
  obtain ⟨a, c', e, _, _, hb⟩ := h.bytes
  rcases hb with hb | ⟨b', off', rfl, _, hb⟩
  · exact absurd hb hD
  · rw [hs] at e
    injection e with e1 e2 e3
    injection e1 with e1
    injection e1 with e1 e4
    subst e1
    obtain ⟨x, l, rfl⟩ : ∃ x l, D = x :: l := by cases D with | nil => exact absurd rfl hD | cons x l => exact ⟨x, l, rfl⟩
    exact World.block_lt_of_cell? w _ (hb 0 x rfl)
theorem At_.setNew {w w' : World} {r : Nat} {s : Value} {D : List UInt8} {i j : Nat} (h : At_ w w' r s D j) (h0 : Buf w r s D i) {p : Addr} (hp : w.heap.size ≤ p.block) (u : Value) : At_ w (w'.setCell p u) r s D j := by
  have hk := h.kept.setCell (p := p) (.inr hp) u
  refine ⟨⟨h.buf.blk.far (Nat.ne_of_lt (Nat.lt_of_lt_of_le h0.lt hp)) u, ?_, h.buf.le, h.buf.small, ?_, h.buf.ne⟩, hk⟩
  · obtain ⟨a, c, e, hc, hm, hb⟩ := h.buf.bytes
    refine ⟨a, c, e, hc, hm, ?_⟩
    rcases hb with rfl | ⟨b, off, rfl, hne, hb⟩
    · exact .inl rfl
    · rcases D with _ | ⟨x, l⟩
      · exact .inl rfl
      · refine .inr ⟨b, off, rfl, hne, fun j y hy => ?_⟩
        have hlt : b < w.heap.size := h0.mem_lt e (by simp)
        exact (World.cell?_of_block (Below.heap_setCell w' p u b (by omega))).trans (hb j y hy)
  · obtain ⟨v, hv, hc⟩ := h0.eof
    exact ⟨v, hv, hk.cell hc (fun e => h0.ne e.symm)⟩
set_option maxRecDepth 100000 in
set_option maxHeartbeats 800000 in
theorem At_pos (a b : Int) (w : World) (hb : 0 ≤ b) (hb' : b < 1000000000) :
    Calls Tryz.prog 153 #[.int .i64 a, .int .i64 b] w fun e w' => e = .returned (.agg #[.int .i64 a, .int .i64 b]) ∧ Kept Nope w w' := by
  have h1 : ¬ b < 0 := by omega
  have h2 : ¬ 1000000000 ≤ b := by omega
  go_enter Tryz.func153, Tryz.ntmps153
  go_wp2
  (try simp only [Exit.inBlock, Exit.then])
  refine bodyPost_ret (v := .agg #[.int .i64 a, .int .i64 b]) ?_ rfl ⟨rfl, (Kept.refl _ w).alloc _⟩
  rw [results_cell1 rfl]
  go_simp
set_option maxRecDepth 100000 in
set_option maxHeartbeats 800000 in
theorem At_neg (a b : Int) (w : World) (hb : b < 0) (hb' : -1000000000 < b) (ha : -9223372036854775000 ≤ a) (ha' : a ≤ 9223372036854775000) :
    Calls Tryz.prog 153 #[.int .i64 a, .int .i64 b] w fun e w' => e = .returned (.agg #[.int .i64 (a - 1), .int .i64 (b + 1000000000)]) ∧ Kept Nope w w' := by
  have h2 : b.tdiv 1000000000 = 0 := by
    rw [← Int.neg_neg b, Int.neg_tdiv, Int.tdiv_eq_ediv_of_nonneg (by omega)]; omega
  have e1 : IntKind.i64.wrap (a - 1) = a - 1 := IntWalk.i64_in _ (by omega)
  have e2 : IntKind.i64.wrap (b + 1000000000) = b + 1000000000 := IntWalk.i64_in _ (by omega)
  have e3 : IntKind.i64.wrap a = a := IntWalk.i64_in _ (by omega)
  have e4 : IntKind.i64.wrap b = b := IntWalk.i64_in _ (by omega)
  go_enter Tryz.func153, Tryz.ntmps153
  go_wp2
  (try simp only [Exit.inBlock, Exit.then])
  refine bodyPost_ret (v := .agg #[.int .i64 (a - 1), .int .i64 (b + 1000000000)]) ?_ rfl ⟨rfl, (Kept.refl _ w).alloc _⟩
  rw [results_cell1 rfl]
  go_simp
set_option maxRecDepth 100000 in
set_option maxHeartbeats 800000 in
theorem AtMilli_any (ms : Int) (w : World) (h0 : -9223372036854775808 ≤ ms) (h1 : ms ≤ 9223372036854775807) :
    Calls Tryz.prog 149 #[.int .i64 ms] w fun e w' => e = .returned (tm ms) ∧ Kept Nope w w' := by
  have hr : -1000 < ms.tmod 1000 ∧ ms.tmod 1000 < 1000 := by
    rcases Int.lt_or_le ms 0 with h | h
    · rw [← Int.neg_neg ms, Int.neg_tmod, Int.tmod_eq_emod_of_nonneg (by omega)]; omega
    · rw [Int.tmod_eq_emod_of_nonneg h]; omega
  have hm : ms = 1000 * ms.tdiv 1000 + ms.tmod 1000 := by rw [Int.mul_tdiv_add_tmod]
  obtain ⟨q, hq⟩ : ∃ q, ms.tdiv 1000 = q := ⟨_, rfl⟩
  obtain ⟨m, hmm⟩ : ∃ m, ms.tmod 1000 = m := ⟨_, rfl⟩
  rw [hq, hmm] at hm
  rw [hmm] at hr
  have e1 : IntKind.i64.wrap q = q := IntWalk.i64_in _ (by omega)
  have e2 : IntKind.i64.wrap (m * 1000000) = m * 1000000 := IntWalk.i64_in _ (by omega)
  have e3 : IntKind.i64.wrap m = m := IntWalk.i64_in _ (by omega)
  have ht : tm ms = if 0 ≤ m then .agg #[.int .i64 q, .int .i64 (m * 1000000)] else .agg #[.int .i64 (q - 1), .int .i64 (m * 1000000 + 1000000000)] := by
    unfold tm
    split
    · rw [show ms / 1000 = q by omega, show ms % 1000 = m by omega]
    · rw [show ms / 1000 = q - 1 by omega, show ms % 1000 * 1000000 = m * 1000000 + 1000000000 by omega]
  have HA : Hid (∀ W, Calls Tryz.prog 153 #[.int .i64 q, .int .i64 (m * 1000000)] W fun e w' => e = .returned (tm ms) ∧ Kept Nope W w') := by
    refine Lib.hid fun W => ?_
    by_cases hn : 0 ≤ m
    · rw [if_pos hn] at ht
      rw [ht]
      exact At_pos q (m * 1000000) W (by omega) (by omega)
    · rw [if_neg hn] at ht
      rw [ht]
      exact At_neg q (m * 1000000) W (by omega) (by omega) (by omega) (by omega)
  have HT : Hid (∃ a b, tm ms = .agg #[.int .i64 a, .int .i64 b]) := Lib.hid ⟨_, _, rfl⟩
  generalize tm ms = T at *
  obtain ⟨a, b, rfl⟩ := HT.out
  clear hm ht hr HT
  go_enter Tryz.func149, Tryz.ntmps149
  go_wp2_with (go_at_call 153; go_must (refine (HA.out _).mono ?_; rintro e w1 ⟨rfl, hK⟩; have hB := (Blk.new w 295 #[.int .i64 0, .int .i64 0]).kept hK (fun h => h); have c0 := hB.cell 0; have c1 := hB.cell 1; have f0 := hB.frozen 0; have f1 := hB.frozen 1; have H1 := Lib.hid (And.intro hB hK); clear hB hK))
  (try simp only [Exit.inBlock, Exit.then])
  have hB2 := (H1.out.1.set_ 0 (.int .i64 a)).set_ 1 (.int .i64 b)
  have hld := run_loadVar_row (P := Tryz.prog) _ w.heap.size 295 295 _ _ _ hB2 Tryz.underlying295 rfl (by kernel_rfl)
  refine bodyPost_ret (v := .agg #[.int .i64 a, .int .i64 b]) ?_ rfl ⟨rfl, ?_⟩
  · rw [results_cell1 rfl]
    simp only [Array.getD_eq_getD_getElem?, List.getElem?_toArray, List.getElem?_cons_zero, List.getElem?_cons_succ, Option.getD_some, asAddr, Sem.run_pure, Result.andThen_ok]
    rw [hld]
    rfl
  · have hk := ((Kept.refl Nope w).alloc (.cells #[.int .i64 0, .int .i64 0] 295)).trans' H1.out.2
    exact (hk.setCell (p := ⟨w.heap.size, 0, none⟩) (.inr (Nat.le_refl _)) _).setCell (p := ⟨w.heap.size, 1, none⟩) (.inr (Nat.le_refl _)) _
set_option maxRecDepth 100000 in
set_option maxHeartbeats 800000 in
theorem UTC_any (a b : Int) (w : World) :
    Calls Tryz.prog 154 #[.agg #[.int .i64 a, .int .i64 b]] w fun e w' => e = .returned (.agg #[.int .i64 a, .int .i64 b]) ∧ Kept Nope w w' := by
  go_enter Tryz.func154, Tryz.ntmps154
  go_wp2
  (try simp only [Exit.inBlock, Exit.then])
  refine bodyPost_ret (v := .agg #[.int .i64 a, .int .i64 b]) ?_ rfl ⟨rfl, ?_⟩
  · rw [results_cell1 rfl]
    go_simp
  · exact ((Kept.refl Nope w).alloc _).alloc _
set_option maxRecDepth 100000 in
set_option maxHeartbeats 800000 in
theorem readTimestamp_83 (r : Nat) (s : Value) (D : List UInt8) (i : Nat) (w : World) (x0 x1 x2 x3 x4 x5 x6 x7 : UInt8) (h : Buf w r s D i) (hc : D[i]? = some 131) (h0 : D[i + 1]? = some x0) (h1 : D[i + 2]? = some x1) (h2 : D[i + 3]? = some x2) (h3 : D[i + 4]? = some x3) (h4 : D[i + 5]? = some x4) (h5 : D[i + 6]? = some x5) (h6 : D[i + 7]? = some x6) (h7 : D[i + 8]? = some x7) :
    Calls Tryz.prog 116 #[.pointer (some ⟨r, 0, none⟩)] w fun e w' => e = .returned (.tuple #[tm (sg 64 (Lib.beNat [x0, x1, x2, x3, x4, x5, x6, x7])), .nilIface]) ∧ At_ w w' r s D (i + 9) := by
  have hne : r ≠ w.heap.size := Nat.ne_of_lt h.lt
  have hk0 : Kept (Only r) w (w.alloc (.cells #[.int .i64 0, .int .i64 0] 295)) := (Kept.refl _ w).alloc _
  have hb0 : Buf (w.alloc (.cells #[.int .i64 0, .int .i64 0] 295)) r s D i := h.nope ((Kept.refl Nope w).alloc _)
  have H0 := Lib.hid (And.intro (Blk.new w 295 #[.int .i64 0, .int .i64 0]) (show At_ w (w.alloc (.cells #[.int .i64 0, .int .i64 0] 295)) r s D i from ⟨hb0, hk0⟩))
  have HN := Lib.hid hne
  have HB := Lib.hid h
  have hb := beNat8_lt x0 x1 x2 x3 x4 x5 x6 x7
  have hsg := w64_sg _ hb
  have hsr : -9223372036854775808 ≤ sg 64 (Lib.beNat [x0, x1, x2, x3, x4, x5, x6, x7]) ∧ sg 64 (Lib.beNat [x0, x1, x2, x3, x4, x5, x6, x7]) ≤ 9223372036854775807 := by unfold sg; split <;> omega
  have HX := Lib.hid (And.intro hc (And.intro h0 (And.intro h1 (And.intro h2 (And.intro h3 (And.intro h4 (And.intro h5 (And.intro h6 h7))))))))
  obtain ⟨a, b, ht⟩ : ∃ a b, tm (sg 64 (Lib.beNat [x0, x1, x2, x3, x4, x5, x6, x7])) = .agg #[.int .i64 a, .int .i64 b] := ⟨_, _, rfl⟩
  rw [ht]
  have HT := Lib.hid ht
  clear hc h0 h1 h2 h3 h4 h5 h6 h7 ht hb
  clear h hk0 hb0 hne
  go_enter Tryz.func116, Tryz.ntmps116
  go_wp2_with (first | (go_at_call 99; go_must (refine (readType_yes r s D i _ _ H0.out.2.buf (by exact HX.out.1)).mono ?_; rintro e w1 ⟨rfl, hA⟩; have H1 := Lib.hid (And.intro (H0.out.1.kept hA.kept (fun e => HN.out e.symm)) (H0.out.2.trans hA)); clear hA)) | (go_at_call 141; go_must (refine (ReadUint64_yes r s D (i + 1) _ x0 x1 x2 x3 x4 x5 x6 x7 H1.out.2.buf (by exact HX.out.2.1) (by exact HX.out.2.2.1) (by exact HX.out.2.2.2.1) (by exact HX.out.2.2.2.2.1) (by exact HX.out.2.2.2.2.2.1) (by exact HX.out.2.2.2.2.2.2.1) (by exact HX.out.2.2.2.2.2.2.2.1) (by exact HX.out.2.2.2.2.2.2.2.2)).mono ?_; rintro e w2 ⟨rfl, hA⟩; have H2 := Lib.hid (And.intro (H1.out.1.kept hA.kept (fun e => HN.out e.symm)) (H1.out.2.trans hA)); clear hA)) | (go_at_call 149; go_must (refine (AtMilli_any (sg 64 (Lib.beNat [x0, x1, x2, x3, x4, x5, x6, x7])) _ (by omega) (by omega)).mono ?_; rw [HT.out]; rintro e w3 ⟨rfl, hK3⟩; have hB := H2.out.1.kept hK3 (fun h => h); have c0 := hB.cell 0; have c1 := hB.cell 1; have f0 := hB.frozen 0; have f1 := hB.frozen 1; have H3 := Lib.hid (And.intro hB (H2.out.2.nope hK3)); clear hB hK3)))
  (try simp only [Exit.inBlock, Exit.then])
  have hB2 := (H3.out.1.set_ 0 (.int .i64 a)).set_ 1 (.int .i64 b)
  have hld := run_loadVar_row (P := Tryz.prog) _ w.heap.size 295 295 _ _ _ hB2 Tryz.underlying295 rfl (by kernel_rfl)
  refine bodyPost_ret (v := .tuple #[.agg #[.int .i64 a, .int .i64 b], .nilIface]) ?_ rfl ?_
  · rw [results_cell_tmp rfl]
    simp only [Array.getD_eq_getD_getElem?, List.getElem?_toArray, List.getElem?_cons_zero, List.getElem?_cons_succ, Option.getD_some, asAddr, Sem.run_pure, Result.andThen_ok]
    rw [hld]
    rfl
  · have hf := (H3.out.2.setNew HB.out (p := ⟨w.heap.size, 0, none⟩) (Nat.le_refl _) (.int .i64 a)).setNew HB.out (p := ⟨w.heap.size, 1, none⟩) (Nat.le_refl _) (.int .i64 b)
    exact ⟨rfl, hf⟩
set_option maxRecDepth 100000 in
set_option maxHeartbeats 800000 in
theorem readTimestamp_83_cut (r : Nat) (s : Value) (D : List UInt8) (i : Nat) (w : World) (h : Buf w r s D i) (hc : D[i]? = some 131) (hn : D.length < i + 9) :
    Calls Tryz.prog 116 #[.pointer (some ⟨r, 0, none⟩)] w (Fails w r) := by
  have hne : r ≠ w.heap.size := Nat.ne_of_lt h.lt
  have hk0 : Kept (Only r) w (w.alloc (.cells #[.int .i64 0, .int .i64 0] 295)) := (Kept.refl _ w).alloc _
  have hb0 : Buf (w.alloc (.cells #[.int .i64 0, .int .i64 0] 295)) r s D i := h.nope ((Kept.refl Nope w).alloc _)
  have H0 := Lib.hid (And.intro (Blk.new w 295 #[.int .i64 0, .int .i64 0]) (show At_ w (w.alloc (.cells #[.int .i64 0, .int .i64 0] 295)) r s D i from ⟨hb0, hk0⟩))
  have HN := Lib.hid hne
  have HB := Lib.hid h
  have HX := Lib.hid (And.intro hc hn)
  obtain ⟨a, b, ht⟩ : ∃ a b, tm 0 = .agg #[.int .i64 a, .int .i64 b] := ⟨_, _, rfl⟩
  have HT := Lib.hid ht
  clear hc ht hn
  clear h hk0 hb0 hne
  go_enter Tryz.func116, Tryz.ntmps116
  go_wp2_with (first | (go_at_call 99; go_must (refine (readType_yes r s D i _ _ H0.out.2.buf (by exact HX.out.1)).mono ?_; rintro e w1 ⟨rfl, hA⟩; have H1 := Lib.hid (And.intro (H0.out.1.kept hA.kept (fun e => HN.out e.symm)) (H0.out.2.trans hA)); clear hA)) | (go_at_call 141; go_must (refine (ReadUint64_no r s D (i + 1) _ H1.out.2.buf (by have := HX.out.2; omega)).mono ?_; rintro e w2 ⟨x, v, rfl, rfl, ⟨T, z, rfl⟩, hA⟩; have H2 := Lib.hid (And.intro (H1.out.1.kept hA.kept (fun e => HN.out e.symm)) (H1.out.2.trans hA)); clear hA)) | (go_at_call 149; go_must (refine (AtMilli_any 0 _ (by omega) (by omega)).mono ?_; rw [HT.out]; rintro e w3 ⟨rfl, hK3⟩; have hB := H2.out.1.kept hK3 (fun h => h); have c0 := hB.cell 0; have c1 := hB.cell 1; have f0 := hB.frozen 0; have f1 := hB.frozen 1; have H3 := Lib.hid (And.intro hB (H2.out.2.nope hK3)); clear hB hK3)))
  (try simp only [Exit.inBlock, Exit.then])
  have hB2 := (H3.out.1.set_ 0 (.int .i64 a)).set_ 1 (.int .i64 b)
  have hld := run_loadVar_row (P := Tryz.prog) _ w.heap.size 295 295 _ _ _ hB2 Tryz.underlying295 rfl (by kernel_rfl)
  refine bodyPost_ret (v := .tuple #[.agg #[.int .i64 a, .int .i64 b], .iface T z]) ?_ rfl ?_
  · rw [results_cell_tmp rfl]
    simp only [Array.getD_eq_getD_getElem?, List.getElem?_toArray, List.getElem?_cons_zero, List.getElem?_cons_succ, Option.getD_some, asAddr, Sem.run_pure, Result.andThen_ok]
    rw [hld]
    rfl
  · have hf := (H3.out.2.setNew HB.out (p := ⟨w.heap.size, 0, none⟩) (Nat.le_refl _) (.int .i64 a)).setNew HB.out (p := ⟨w.heap.size, 1, none⟩) (Nat.le_refl _) (.int .i64 b)
    exact ⟨_, _, rfl, ⟨_, _, rfl⟩, hf.kept⟩
end Go.Proofs.YtbckofjoancdjaaGreatDoor
namespace Go.Proofs.YtbckofjoancdjaaGreatDoor
open Go Go.RowKit Go.Lib
def z16 : Array Value := #[.int .u8 0, .int .u8 0, .int .u8 0, .int .u8 0, .int .u8 0, .int .u8 0, .int .u8 0, .int .u8 0, .int .u8 0, .int .u8 0, .int .u8 0, .int .u8 0, .int .u8 0, .int .u8 0, .int .u8 0, .int .u8 0]
def uid (bs : List UInt8) : Value := .agg (bs.map u8).toArray
theorem At_.below {w w' w'' : World} {r : Nat} {s : Value} {D : List UInt8} {i j B : Nat} (h : At_ w w' r s D j) (h0 : Buf w r s D i) (hb : Below B w' w'') (hB : w.heap.size ≤ B) : At_ w w'' r s D j := by
  have hb' : ∀ k, k < w.heap.size → w''.heap[k]? = w'.heap[k]? := fun k hk => hb.block k (Nat.lt_of_lt_of_le hk hB)
  have hk : Kept (Only r) w w'' := ⟨hb.os.trans h.kept.os, hb.tape.trans h.kept.tape, hb.output.trans h.kept.output, Nat.le_trans h.kept.size hb.size, fun k hk hn => (hb' k hk).trans (h.kept.block k hk hn)⟩
  refine ⟨⟨(hb' r h0.lt).trans h.buf.blk, ?_, h.buf.le, h.buf.small, ?_, h.buf.ne⟩, hk⟩
  · obtain ⟨a, c, e, hc, hm, hB⟩ := h.buf.bytes
    refine ⟨a, c, e, hc, hm, ?_⟩
    rcases hB with rfl | ⟨b, off, rfl, hne, hB⟩
    · exact .inl rfl
    · rcases D with _ | ⟨x, l⟩
      · exact .inl rfl
      · refine .inr ⟨b, off, rfl, hne, fun j y hy => ?_⟩
        have hlt : b < w.heap.size := h0.mem_lt e (by simp)
        exact (World.cell?_of_block (hb' b hlt)).trans (hB j y hy)
  · obtain ⟨v, hv, hc⟩ := h0.eof
    exact ⟨v, hv, hk.cell hc (fun e => h0.ne e.symm)⟩
theorem Blk.setRow_ {w : World} {g : Nat} {t : TypeId} {cs : Array Value} (h : Blk w g t cs) (cs' : Array Value) : Blk (w.setRow g cs') g t cs' := setRow_heap w g _ _ t _ h
theorem Blk.farRow {w : World} {g k : Nat} {t : TypeId} {cs : Array Value} (h : Blk w g t cs) (hk : g ≠ k) (cs' : Array Value) : Blk (w.setRow k cs') g t cs := (setRow_other w k g cs' hk).trans h
theorem u8_all (bs : List UInt8) : ∀ v ∈ bs.map u8, v.oneCell' = true := by intro u hu; obtain ⟨x, _, rfl⟩ := List.mem_map.1 hu; rfl
theorem u8_arr (bs : List UInt8) : (bs.map u8).toArray.all (·.oneCell') = true := by
  rw [Array.all_eq_true_iff_forall_mem]; intro u hu; exact u8_all bs u (by simpa using hu)
theorem uuid_src {W : World} {g off k n : Nat} {D : List UInt8} (hc : ∀ j x, j < n → D[k + j]? = some x → W.cell? ⟨g, off + j, none⟩ = some (.int .u8 x.toNat)) :
    ∀ j v, ((sub D k n).map u8)[j]? = some v → W.cell? ((⟨g, off, none⟩ : Addr).add j) = some v := by
  intro j v hv
  rw [List.getElem?_map] at hv
  cases hx : (sub D k n)[j]? with
  | none => rw [hx] at hv; cases hv
  | some x =>
    rw [hx] at hv
    simp at hv
    subst hv
    unfold sub at hx
    rw [List.getElem?_take] at hx
    split at hx
    · rw [List.getElem?_drop] at hx
      rw [Addr.add_lit]
      exact hc j x (by omega) hx
    · cases hx
theorem uuid_spl {W : World} {g : Nat} {t : TypeId} {bs : List UInt8} (h : W.heap[g]? = some (.cells (splice z16.toList 0 (bs.map u8)).toArray t (0, 0))) (hl : bs.length = 16) : W.heap[g]? = some (.cells (bs.map u8).toArray t (0, 0)) := by
  rw [h]
  congr
  simp [splice, z16, hl]
set_option maxRecDepth 100000 in
set_option maxHeartbeats 800000 in
theorem readUUID_98 (r : Nat) (s : Value) (D : List UInt8) (i : Nat) (w : World) (h : Buf w r s D i) (hc : D[i]? = some 152) (hl : i + 17 ≤ D.length) :
    Calls Tryz.prog 160 #[.pointer (some ⟨r, 0, none⟩)] w fun e w' => e = .returned (.tuple #[uid (sub D (i + 1) 16), .nilIface]) ∧ At_ w w' r s D (i + 17) := by
  have hne : r < w.heap.size := h.lt
  have hk0 : Kept (Only r) w ((w.alloc (.cells z16 406)).alloc (.cells z16 406)) := ((Kept.refl _ w).alloc _).alloc _
  have hb0 : Buf ((w.alloc (.cells z16 406)).alloc (.cells z16 406)) r s D i := h.nope (((Kept.refl Nope w).alloc _).alloc _)
  have hn1 : (w.alloc (.cells z16 406)).heap.size = w.heap.size + 1 := by simp
  have H0 := Lib.hid (And.intro ((Blk.new w 406 z16).alloc (.cells z16 406)) (And.intro (hn1 ▸ Blk.new (w.alloc (.cells z16 406)) 406 z16) (show At_ w _ r s D i from ⟨hb0, hk0⟩)))
  have HN := Lib.hid hne
  have HB := Lib.hid h
  have HX := Lib.hid (And.intro hc hl)
  clear h hk0 hb0 hne hc hl hn1
  go_enter Tryz.func160, Tryz.ntmps160
  have hu : (Tryz.prog.info? 5).map (fun i => i.size) = some 1 := by kernel_rfl
  have hu2 : (Tryz.prog.info? 406).map (fun i => i.size) = some 16 := by kernel_rfl
  have hL : (sub D (i + 1) 16).length = 16 := sub_length D (i + 1) 16 HX.out.2
  have HL := Lib.hid hL
  have HU := Lib.hid hu2
  have HI := Lib.hid hu
  clear hu hu2 hL
  go_wp2_with (first | (go_at_call 99; go_must (refine (readType_yes r s D i _ _ H0.out.2.2.buf (by exact HX.out.1)).mono ?_; rintro e w1 ⟨rfl, hA⟩; have H1 := Lib.hid (And.intro (H0.out.1.kept hA.kept (fun e => absurd e (Nat.ne_of_gt HN.out))) (And.intro (H0.out.2.1.kept hA.kept (fun e => absurd e (Nat.ne_of_gt (Nat.lt_succ_of_lt HN.out)))) (H0.out.2.2.trans hA))); clear hA)) | (go_at_call 142; go_must (refine (Next_at r s D (i + 1) _ 16 H1.out.2.2.buf (by have := HX.out.2; omega) (by omega)).mono ?_; rintro e w2 ⟨v, b, rfl, rfl, ⟨g, off, c4, rfl, hg, hgc, hcm, hcell⟩, hA⟩; have H2 := Lib.hid (And.intro (H1.out.1.kept hA.kept (fun e => absurd e (Nat.ne_of_gt HN.out))) (And.intro (H1.out.2.1.kept hA.kept (fun e => absurd e (Nat.ne_of_gt (Nat.lt_succ_of_lt HN.out)))) (H1.out.2.2.trans hA))); have HS := Lib.hid hcell; clear hA hcell)) | (refine wpList_copy_splice rfl (.tmp 31) (.tmp 32) 26 26 rfl 5 Tryz.underlying26 (by exact HI.out) (some ⟨w.heap.size + 1, 0, none⟩) (some ⟨g, off, none⟩) 16 16 16 c4 rfl rfl (w.heap.size + 1) 0 z16.toList 406 (by exact H2.out.2.1) ((sub D (i + 1) 16).map u8) (by rw [List.length_map, HL.out]; rfl) (fun _ => ⟨rfl, _, rfl, by exact uuid_src HS.out⟩) (by rw [List.length_map, HL.out]; decide) (by exact u8_all _) (w.heap.size + 1) w2 (Below.refl _ _) (Nat.le_refl _) ?_; intro w3 hg3 hb3; have H3 := Lib.hid (And.intro hg3.out hb3); clear hg3 hb3) | (refine wpList_load_row rfl 406 (.tmp 4) rfl (w.heap.size + 1) rfl 406 ((sub D (i + 1) 16).map u8).toArray (0, 0) _ (by exact uuid_spl H3.out.1 HL.out) Tryz.underlying406 rfl (by rw [HU.out, List.size_toArray, List.length_map, HL.out]) ?_) | (refine wpList_store_row rfl 406 (.tmp 2) (.tmp 34) rfl w.heap.size ((sub D (i + 1) 16).map u8).toArray rfl rfl 406 z16 (by exact (H3.out.2.block _ (Nat.lt_succ_self _)).trans H2.out.1) (by rw [HU.out, List.size_toArray, List.length_map, HL.out]) (by show 16 = _; rw [List.size_toArray, List.length_map, HL.out]) (by exact u8_arr _) ?_))
  (try simp only [Exit.inBlock, Exit.then])
  have hB2 : Blk (w3.setRow w.heap.size ((sub D (i + 1) 16).map u8).toArray) w.heap.size 406 _ := Blk.setRow_ ((H3.out.2.block _ (Nat.lt_succ_self _)).trans H2.out.1) _
  have hld := run_loadVar_row (P := Tryz.prog) _ w.heap.size 406 406 _ _ _ hB2 Tryz.underlying406 rfl (by rw [HU.out, List.size_toArray, List.length_map, HL.out])
  refine bodyPost_ret (v := .tuple #[uid (sub D (i + 1) 16), .nilIface]) ?_ rfl ⟨rfl, ?_⟩
  · rw [results_cell_tmp rfl]
    simp only [Array.getD_eq_getD_getElem?, List.getElem?_toArray, List.getElem?_cons_zero, List.getElem?_cons_succ, Option.getD_some, asAddr, Sem.run_pure, Result.andThen_ok]
    rw [hld]
    rfl
  · exact (H2.out.2.2.below HB.out H3.out.2 (Nat.le_succ _)).below HB.out (below_setRow (Below.refl w.heap.size _) (Nat.le_refl _) _) (Nat.le_refl _)
theorem step_load_row {P : Program} {ops : Array Oper} {o : Oper} {a : Act} {w : World} {K : Act → World → Prop} {Q : Exit → Act → World → Prop} {E : Prop} (hgd : o.guard = none) (ty : TypeId) (x : Operand) (ho : o.op = .load ty x)
    (g : Nat) (hx : a.eval x = .pointer (some ⟨g, 0, none⟩)) (t : TypeId) (cs : Array Value) (fr : Nat × Nat) (d : TypeDesc) (hg : w.heap[g]? = some (.cells cs t fr))
    (hu : P.underlying ty = some d) (hd : (match d with | .struct _ | .array _ _ => true | _ => false) = true) (hi : (P.info? ty).map (·.size) = some cs.size)
    (h : K (a.put o.dst (.agg cs)) w) : if Region.wanted o (yielded ops a.tmps) = true then Oper.wp P o a w K Q else E := by
  have hw : Region.wanted o (yielded ops a.tmps) = true := by simp [Region.wanted, hgd]
  rw [if_pos hw]
  exact wp_load_row ty x ho g hx t cs fr d hg hu hd hi h
theorem step_store_row {P : Program} {ops : Array Oper} {o : Oper} {a : Act} {w : World} {K : Act → World → Prop} {Q : Exit → Act → World → Prop} {E : Prop} (hgd : o.guard = none) (ty : TypeId) (x y : Operand) (ho : o.op = .store ty x y)
    (g : Nat) (cells : Array Value) (hx : a.eval x = .pointer (some ⟨g, 0, none⟩)) (hy : a.eval y = .agg cells)
    (t : TypeId) (old : Array Value) (hg : w.heap[g]? = some (.cells old t (0, 0))) (hi : (P.info? ty).map (·.size) = some cells.size)
    (hold : old.size = cells.size) (h1 : cells.all (·.oneCell') = true)
    (h : K (a.put o.dst undef) (w.setRow g cells)) : if Region.wanted o (yielded ops a.tmps) = true then Oper.wp P o a w K Q else E := by
  have hw : Region.wanted o (yielded ops a.tmps) = true := by simp [Region.wanted, hgd]
  rw [if_pos hw]
  exact wp_store_row ty x y ho g cells hx hy t old hg hi hold h1 h
theorem z16_one : z16.all (·.oneCell') = true := by simp [z16, Value.oneCell']
set_option maxRecDepth 100000 in
set_option maxHeartbeats 800000 in
theorem readUUID_98_cut (r : Nat) (s : Value) (D : List UInt8) (i : Nat) (w : World) (h : Buf w r s D i) (hc : D[i]? = some 152) (hl : D.length < i + 17) :
    Calls Tryz.prog 160 #[.pointer (some ⟨r, 0, none⟩)] w (Fails w r) := by
  have hne : r < w.heap.size := h.lt
  have hk0 : Kept (Only r) w ((w.alloc (.cells z16 406)).alloc (.cells z16 406)) := ((Kept.refl _ w).alloc _).alloc _
  have hb0 : Buf ((w.alloc (.cells z16 406)).alloc (.cells z16 406)) r s D i := h.nope (((Kept.refl Nope w).alloc _).alloc _)
  have hn1 : (w.alloc (.cells z16 406)).heap.size = w.heap.size + 1 := by simp
  have H0 := Lib.hid (And.intro ((Blk.new w 406 z16).alloc (.cells z16 406)) (And.intro (hn1 ▸ Blk.new (w.alloc (.cells z16 406)) 406 z16) (show At_ w _ r s D i from ⟨hb0, hk0⟩)))
  have HN := Lib.hid hne
  have HB := Lib.hid h
  have HX := Lib.hid (And.intro hc hl)
  clear h hk0 hb0 hne hc hl hn1
  have hu2 : (Tryz.prog.info? 406).map (fun i => i.size) = some 16 := by kernel_rfl
  have HU := Lib.hid hu2
  clear hu2
  go_enter Tryz.func160, Tryz.ntmps160
  go_wp2_with (first | (go_at_call 99; go_must (refine (readType_yes r s D i _ _ H0.out.2.2.buf (by exact HX.out.1)).mono ?_; rintro e w1 ⟨rfl, hA⟩; have H1 := Lib.hid (And.intro (H0.out.1.kept hA.kept (fun e => absurd e (Nat.ne_of_gt HN.out))) (And.intro (H0.out.2.1.kept hA.kept (fun e => absurd e (Nat.ne_of_gt (Nat.lt_succ_of_lt HN.out)))) (H0.out.2.2.trans hA))); clear hA)) | (go_at_call 142; go_must (refine (Next_no r s D (i + 1) _ 16 H1.out.2.2.buf (by have := HX.out.2; omega) (by omega)).mono ?_; rintro e w2 ⟨v, b, rfl, rfl, hA⟩; have H2 := Lib.hid (And.intro (H1.out.1.kept hA.kept (fun e => absurd e (Nat.ne_of_gt HN.out))) (And.intro (H1.out.2.1.kept hA.kept (fun e => absurd e (Nat.ne_of_gt (Nat.lt_succ_of_lt HN.out)))) (H1.out.2.2.trans hA))); clear hA)))
  refine wp_region_any (by kernel_rfl) ?_
  (try (change wpAny _ _ _ _ _ _ _ (World.drew _)))
  refine wpAny_ready (rs := [0, 1]) (by kernel_rfl) (by simp) ?_
  refine AllReady.cons rfl (fun K hK => ?_) (AllReady.cons rfl (fun K hK => ?_) AllReady.nil)
  · refine step_load_row rfl 406 (.tmp 4) rfl (w.heap.size + 1) rfl 406 z16 (0, 0) _ (by exact H2.out.2.1) Tryz.underlying406 rfl (by rw [HU.out]; rfl) ?_
    refine hK _ _ ?_
    clear hK K
    refine wpAny_ready (rs := [1]) (by kernel_rfl) (by simp) ?_
    refine AllReady.cons rfl (fun K hK => ?_) AllReady.nil
    go_simp
    go_at_call 46
    refine (errorsNew_any _ _).mono ?_
    rintro e w9 ⟨v9, rfl, ⟨T, z, rfl⟩, hK9⟩
    have H9 := Lib.hid (And.intro (H2.out.1.drew.kept hK9 (fun h => h)) (And.intro ((H2.out.2.2.drew).nope hK9) (H2.out.2.1.drew.kept hK9 (fun h => h))))
    clear hK9
    (try go_simp)
    refine hK _ _ ?_
    clear hK K
    refine wpAny_ready (rs := [2]) (by kernel_rfl) (by simp) ?_
    refine AllReady.cons rfl (fun K hK => ?_) AllReady.nil
    refine step_store_row rfl 406 (.tmp 2) (.tmp 29) rfl w.heap.size z16 rfl rfl 406 z16 (by exact H9.out.1) (by rw [HU.out]; rfl) rfl z16_one ?_
    refine hK _ _ ?_
    clear hK K
    refine wpAny_ready (rs := [3]) (by kernel_rfl) (by simp) ?_
    refine AllReady.cons rfl (fun K hK => ?_) AllReady.nil
    go_simp
    refine hK _ _ ?_
    clear hK K
    refine wpAny_done (by kernel_rfl) ?_ _
    go_wp2
    (try simp only [Exit.inBlock, Exit.then])
    have hB2 : Blk (w9.setRow w.heap.size z16) w.heap.size 406 _ := Blk.setRow_ H9.out.1 _
    have hld := run_loadVar_row (P := Tryz.prog) _ w.heap.size 406 406 _ _ _ hB2 Tryz.underlying406 rfl (by rw [HU.out]; rfl)
    refine bodyPost_ret (v := .tuple #[.agg z16, .iface T z]) ?_ rfl ⟨_, _, rfl, ⟨_, _, rfl⟩, ?_⟩
    · rw [results_cell_tmp rfl]
      simp only [Array.getD_eq_getD_getElem?, List.getElem?_toArray, List.getElem?_cons_zero, List.getElem?_cons_succ, Option.getD_some, asAddr, Sem.run_pure, Result.andThen_ok]
      rw [hld]
      rfl
    · exact (H9.out.2.1.below HB.out (below_setRow (Below.refl w.heap.size _) (Nat.le_refl _) _) (Nat.le_refl _)).kept
  · go_simp
    go_at_call 46
    refine (errorsNew_any _ _).mono ?_
    rintro e w9 ⟨v9, rfl, ⟨T, z, rfl⟩, hK9⟩
    have H9 := Lib.hid (And.intro (H2.out.1.drew.kept hK9 (fun h => h)) (And.intro ((H2.out.2.2.drew).nope hK9) (H2.out.2.1.drew.kept hK9 (fun h => h))))
    clear hK9
    (try go_simp)
    refine hK _ _ ?_
    clear hK K
    refine wpAny_ready (rs := [0]) (by kernel_rfl) (by simp) ?_
    refine AllReady.cons rfl (fun K hK => ?_) AllReady.nil
    refine step_load_row rfl 406 (.tmp 4) rfl (w.heap.size + 1) rfl 406 z16 (0, 0) _ (by exact H9.out.2.2) Tryz.underlying406 rfl (by rw [HU.out]; rfl) ?_
    refine hK _ _ ?_
    clear hK K
    refine wpAny_ready (rs := [2]) (by kernel_rfl) (by simp) ?_
    refine AllReady.cons rfl (fun K hK => ?_) AllReady.nil
    refine step_store_row rfl 406 (.tmp 2) (.tmp 29) rfl w.heap.size z16 rfl rfl 406 z16 (by exact H9.out.1) (by rw [HU.out]; rfl) rfl z16_one ?_
    refine hK _ _ ?_
    clear hK K
    refine wpAny_ready (rs := [3]) (by kernel_rfl) (by simp) ?_
    refine AllReady.cons rfl (fun K hK => ?_) AllReady.nil
    go_simp
    refine hK _ _ ?_
    clear hK K
    refine wpAny_done (by kernel_rfl) ?_ _
    go_wp2
    (try simp only [Exit.inBlock, Exit.then])
    have hB2 : Blk (w9.setRow w.heap.size z16) w.heap.size 406 _ := Blk.setRow_ H9.out.1 _
    have hld := run_loadVar_row (P := Tryz.prog) _ w.heap.size 406 406 _ _ _ hB2 Tryz.underlying406 rfl (by rw [HU.out]; rfl)
    refine bodyPost_ret (v := .tuple #[.agg z16, .iface T z]) ?_ rfl ⟨_, _, rfl, ⟨_, _, rfl⟩, ?_⟩
    · rw [results_cell_tmp rfl]
      simp only [Array.getD_eq_getD_getElem?, List.getElem?_toArray, List.getElem?_cons_zero, List.getElem?_cons_succ, Option.getD_some, asAddr, Sem.run_pure, Result.andThen_ok]
      rw [hld]
      rfl
    · exact (H9.out.2.1.below HB.out (below_setRow (Below.refl w.heap.size _) (Nat.le_refl _) _) (Nat.le_refl _)).kept
end Go.Proofs.YtbckofjoancdjaaGreatDoor
namespace Go.Proofs.YtbckofjoancdjaaGreatDoor
open Go Go.RowKit Go.Lib
section
variable (r : Nat) (s : Value) (D : List UInt8) (i : Nat) (w : World)
set_option maxRecDepth 100000 in
set_option maxHeartbeats 400000 in
theorem ReadAny_none (h : Buf w r s D i) (hx : D.length ≤ i) : Calls Tryz.prog 138 #[.pointer (some ⟨r, 0, none⟩)] w (Fails w r) := by
  have H0 := Lib.hid h
  have HX := Lib.hid hx
  clear h hx
  go_enter Tryz.func138, Tryz.ntmps138
  go_wp2_with (first | (go_at_call 94; go_must (refine (tryReadNull_none r s D i _ H0.out HX.out).mono ?_; rintro e w1 ⟨rfl, hA⟩; have H1 := Lib.hid hA; clear hA)) | (go_at_call 144; go_must (refine (peekType_no r s D i _ H1.out.buf HX.out).mono ?_; rintro e w2 ⟨x, v, rfl, rfl, ⟨T, z, rfl⟩, k2, rfl⟩; have H2 := Lib.hid (H1.out.drewN k2); clear H1)) | (go_at_call 46; go_must (refine (errorsNew_any _ _).mono ?_; rintro e w9 ⟨v9, rfl, ⟨T9, z9, rfl⟩, hK9⟩; have H9 := Lib.hid (H2.out.nope hK9); clear hK9)))
  go_ret2
  exact ⟨_, _, rfl, ⟨_, _, rfl⟩, H9.out.kept⟩
set_option maxRecDepth 100000 in
set_option maxHeartbeats 400000 in
theorem ReadAny_null (h : Buf w r s D i) (hc : D[i]? = some 64) : Calls Tryz.prog 138 #[.pointer (some ⟨r, 0, none⟩)] w fun e w' => e = .returned (.tuple #[.nilIface, .nilIface]) ∧ At_ w w' r s D (i + 1) := by
  have H0 := Lib.hid (And.intro h hc)
  clear h hc
  go_enter Tryz.func138, Tryz.ntmps138
  go_wp2_with (first | (go_at_call 94; go_must (refine (tryReadNull_yes r s D i _ H0.out.1 H0.out.2).mono ?_; rintro e w1 ⟨rfl, hA⟩; have H1 := Lib.hid hA; clear hA)))
  go_ret2
  exact ⟨rfl, H1.out⟩
set_option maxRecDepth 100000 in
set_option maxHeartbeats 800000 in
theorem ReadAny_readBool (c : UInt8) (hcc : c = 86 ∨ c = 65 ∨ c = 66) (h : Buf w r s D i) (hc : D[i]? = some c) (R : Value → Value → World → Prop) (hr : ∀ W, At_ w W r s D i → Calls Tryz.prog 115 #[.pointer (some ⟨r, 0, none⟩)] W (Gives2 R)) :
    Calls Tryz.prog 138 #[.pointer (some ⟨r, 0, none⟩)] w (Gives2 fun y e w' => ∃ x, y = .iface 4 x ∧ R x e w') := by
  have H0 := Lib.hid (And.intro h hc)
  have HR := Lib.hid hr
  clear h hc hr
  rcases hcc with rfl | rfl | rfl
  all_goals
    go_enter Tryz.func138, Tryz.ntmps138
    go_wp2_with (first | (go_at_call 94; go_must (refine (tryReadNull_no r s D i _ _ H0.out.1 H0.out.2 (by decide)).mono ?_; rintro e w1 ⟨rfl, hA⟩; have H1 := Lib.hid hA; clear hA)) | (go_at_call 144; go_must (refine (peekType_yes r s D i _ _ H1.out.buf H0.out.2).mono ?_; rintro e w2 ⟨rfl, k2, rfl⟩; have H2 := Lib.hid (H1.out.drewN k2); clear H1)) | (go_at_call 115; go_must (refine (HR.out _ H2.out).mono ?_; rintro e w3 ⟨x, y, rfl, hR⟩; have H3 := Lib.hid hR; clear hR)))
    go_ret2
    exact ⟨_, _, rfl, _, rfl, H3.out⟩
set_option maxRecDepth 100000 in
set_option maxHeartbeats 800000 in
theorem ReadAny_ReadUbyte (c : UInt8) (hcc : c = 80) (h : Buf w r s D i) (hc : D[i]? = some c) (R : Value → Value → World → Prop) (hr : ∀ W, At_ w W r s D i → Calls Tryz.prog 110 #[.pointer (some ⟨r, 0, none⟩)] W (Gives2 R)) :
    Calls Tryz.prog 138 #[.pointer (some ⟨r, 0, none⟩)] w (Gives2 fun y e w' => ∃ x, y = .iface 5 x ∧ R x e w') := by
  have H0 := Lib.hid (And.intro h hc)
  have HR := Lib.hid hr
  clear h hc hr
  rcases hcc with rfl
  all_goals
    go_enter Tryz.func138, Tryz.ntmps138
    go_wp2_with (first | (go_at_call 94; go_must (refine (tryReadNull_no r s D i _ _ H0.out.1 H0.out.2 (by decide)).mono ?_; rintro e w1 ⟨rfl, hA⟩; have H1 := Lib.hid hA; clear hA)) | (go_at_call 144; go_must (refine (peekType_yes r s D i _ _ H1.out.buf H0.out.2).mono ?_; rintro e w2 ⟨rfl, k2, rfl⟩; have H2 := Lib.hid (H1.out.drewN k2); clear H1)) | (go_at_call 110; go_must (refine (HR.out _ H2.out).mono ?_; rintro e w3 ⟨x, y, rfl, hR⟩; have H3 := Lib.hid hR; clear hR)))
    go_ret2
    exact ⟨_, _, rfl, _, rfl, H3.out⟩
set_option maxRecDepth 100000 in
set_option maxHeartbeats 800000 in
theorem ReadAny_readUshort (c : UInt8) (hcc : c = 96) (h : Buf w r s D i) (hc : D[i]? = some c) (R : Value → Value → World → Prop) (hr : ∀ W, At_ w W r s D i → Calls Tryz.prog 109 #[.pointer (some ⟨r, 0, none⟩)] W (Gives2 R)) :
    Calls Tryz.prog 138 #[.pointer (some ⟨r, 0, none⟩)] w (Gives2 fun y e w' => ∃ x, y = .iface 38 x ∧ R x e w') := by
  have H0 := Lib.hid (And.intro h hc)
  have HR := Lib.hid hr
  clear h hc hr
  rcases hcc with rfl
  all_goals
    go_enter Tryz.func138, Tryz.ntmps138
    go_wp2_with (first | (go_at_call 94; go_must (refine (tryReadNull_no r s D i _ _ H0.out.1 H0.out.2 (by decide)).mono ?_; rintro e w1 ⟨rfl, hA⟩; have H1 := Lib.hid hA; clear hA)) | (go_at_call 144; go_must (refine (peekType_yes r s D i _ _ H1.out.buf H0.out.2).mono ?_; rintro e w2 ⟨rfl, k2, rfl⟩; have H2 := Lib.hid (H1.out.drewN k2); clear H1)) | (go_at_call 109; go_must (refine (HR.out _ H2.out).mono ?_; rintro e w3 ⟨x, y, rfl, hR⟩; have H3 := Lib.hid hR; clear hR)))
    go_ret2
    exact ⟨_, _, rfl, _, rfl, H3.out⟩
set_option maxRecDepth 100000 in
set_option maxHeartbeats 800000 in
theorem ReadAny_readUint32 (c : UInt8) (hcc : c = 112 ∨ c = 82 ∨ c = 67) (h : Buf w r s D i) (hc : D[i]? = some c) (R : Value → Value → World → Prop) (hr : ∀ W, At_ w W r s D i → Calls Tryz.prog 108 #[.pointer (some ⟨r, 0, none⟩)] W (Gives2 R)) :
    Calls Tryz.prog 138 #[.pointer (some ⟨r, 0, none⟩)] w (Gives2 fun y e w' => ∃ x, y = .iface 37 x ∧ R x e w') := by
  have H0 := Lib.hid (And.intro h hc)
  have HR := Lib.hid hr
  clear h hc hr
  rcases hcc with rfl | rfl | rfl
  all_goals
    go_enter Tryz.func138, Tryz.ntmps138
    go_wp2_with (first | (go_at_call 94; go_must (refine (tryReadNull_no r s D i _ _ H0.out.1 H0.out.2 (by decide)).mono ?_; rintro e w1 ⟨rfl, hA⟩; have H1 := Lib.hid hA; clear hA)) | (go_at_call 144; go_must (refine (peekType_yes r s D i _ _ H1.out.buf H0.out.2).mono ?_; rintro e w2 ⟨rfl, k2, rfl⟩; have H2 := Lib.hid (H1.out.drewN k2); clear H1)) | (go_at_call 108; go_must (refine (HR.out _ H2.out).mono ?_; rintro e w3 ⟨x, y, rfl, hR⟩; have H3 := Lib.hid hR; clear hR)))
    go_ret2
    exact ⟨_, _, rfl, _, rfl, H3.out⟩
set_option maxRecDepth 100000 in
set_option maxHeartbeats 800000 in
theorem ReadAny_readUlong (c : UInt8) (hcc : c = 128 ∨ c = 83 ∨ c = 68) (h : Buf w r s D i) (hc : D[i]? = some c) (R : Value → Value → World → Prop) (hr : ∀ W, At_ w W r s D i → Calls Tryz.prog 100 #[.pointer (some ⟨r, 0, none⟩)] W (Gives2 R)) :
    Calls Tryz.prog 138 #[.pointer (some ⟨r, 0, none⟩)] w (Gives2 fun y e w' => ∃ x, y = .iface 27 x ∧ R x e w') := by
  have H0 := Lib.hid (And.intro h hc)
  have HR := Lib.hid hr
  clear h hc hr
  rcases hcc with rfl | rfl | rfl
  all_goals
    go_enter Tryz.func138, Tryz.ntmps138
    go_wp2_with (first | (go_at_call 94; go_must (refine (tryReadNull_no r s D i _ _ H0.out.1 H0.out.2 (by decide)).mono ?_; rintro e w1 ⟨rfl, hA⟩; have H1 := Lib.hid hA; clear hA)) | (go_at_call 144; go_must (refine (peekType_yes r s D i _ _ H1.out.buf H0.out.2).mono ?_; rintro e w2 ⟨rfl, k2, rfl⟩; have H2 := Lib.hid (H1.out.drewN k2); clear H1)) | (go_at_call 100; go_must (refine (HR.out _ H2.out).mono ?_; rintro e w3 ⟨x, y, rfl, hR⟩; have H3 := Lib.hid hR; clear hR)))
    go_ret2
    exact ⟨_, _, rfl, _, rfl, H3.out⟩
set_option maxRecDepth 100000 in
set_option maxHeartbeats 800000 in
theorem ReadAny_readSbyte (c : UInt8) (hcc : c = 81) (h : Buf w r s D i) (hc : D[i]? = some c) (R : Value → Value → World → Prop) (hr : ∀ W, At_ w W r s D i → Calls Tryz.prog 104 #[.pointer (some ⟨r, 0, none⟩)] W (Gives2 R)) :
    Calls Tryz.prog 138 #[.pointer (some ⟨r, 0, none⟩)] w (Gives2 fun y e w' => ∃ x, y = .iface 260 x ∧ R x e w') := by
  have H0 := Lib.hid (And.intro h hc)
  have HR := Lib.hid hr
  clear h hc hr
  rcases hcc with rfl
  all_goals
    go_enter Tryz.func138, Tryz.ntmps138
    go_wp2_with (first | (go_at_call 94; go_must (refine (tryReadNull_no r s D i _ _ H0.out.1 H0.out.2 (by decide)).mono ?_; rintro e w1 ⟨rfl, hA⟩; have H1 := Lib.hid hA; clear hA)) | (go_at_call 144; go_must (refine (peekType_yes r s D i _ _ H1.out.buf H0.out.2).mono ?_; rintro e w2 ⟨rfl, k2, rfl⟩; have H2 := Lib.hid (H1.out.drewN k2); clear H1)) | (go_at_call 104; go_must (refine (HR.out _ H2.out).mono ?_; rintro e w3 ⟨x, y, rfl, hR⟩; have H3 := Lib.hid hR; clear hR)))
    go_ret2
    exact ⟨_, _, rfl, _, rfl, H3.out⟩
set_option maxRecDepth 100000 in
set_option maxHeartbeats 800000 in
theorem ReadAny_readShort (c : UInt8) (hcc : c = 97) (h : Buf w r s D i) (hc : D[i]? = some c) (R : Value → Value → World → Prop) (hr : ∀ W, At_ w W r s D i → Calls Tryz.prog 105 #[.pointer (some ⟨r, 0, none⟩)] W (Gives2 R)) :
    Calls Tryz.prog 138 #[.pointer (some ⟨r, 0, none⟩)] w (Gives2 fun y e w' => ∃ x, y = .iface 264 x ∧ R x e w') := by
  have H0 := Lib.hid (And.intro h hc)
  have HR := Lib.hid hr
  clear h hc hr
  rcases hcc with rfl
  all_goals
    go_enter Tryz.func138, Tryz.ntmps138
    go_wp2_with (first | (go_at_call 94; go_must (refine (tryReadNull_no r s D i _ _ H0.out.1 H0.out.2 (by decide)).mono ?_; rintro e w1 ⟨rfl, hA⟩; have H1 := Lib.hid hA; clear hA)) | (go_at_call 144; go_must (refine (peekType_yes r s D i _ _ H1.out.buf H0.out.2).mono ?_; rintro e w2 ⟨rfl, k2, rfl⟩; have H2 := Lib.hid (H1.out.drewN k2); clear H1)) | (go_at_call 105; go_must (refine (HR.out _ H2.out).mono ?_; rintro e w3 ⟨x, y, rfl, hR⟩; have H3 := Lib.hid hR; clear hR)))
    go_ret2
    exact ⟨_, _, rfl, _, rfl, H3.out⟩
set_option maxRecDepth 100000 in
set_option maxHeartbeats 800000 in
theorem ReadAny_readInt32 (c : UInt8) (hcc : c = 113 ∨ c = 84) (h : Buf w r s D i) (hc : D[i]? = some c) (R : Value → Value → World → Prop) (hr : ∀ W, At_ w W r s D i → Calls Tryz.prog 106 #[.pointer (some ⟨r, 0, none⟩)] W (Gives2 R)) :
    Calls Tryz.prog 138 #[.pointer (some ⟨r, 0, none⟩)] w (Gives2 fun y e w' => ∃ x, y = .iface 21 x ∧ R x e w') := by
  have H0 := Lib.hid (And.intro h hc)
  have HR := Lib.hid hr
  clear h hc hr
  rcases hcc with rfl | rfl
  all_goals
    go_enter Tryz.func138, Tryz.ntmps138
    go_wp2_with (first | (go_at_call 94; go_must (refine (tryReadNull_no r s D i _ _ H0.out.1 H0.out.2 (by decide)).mono ?_; rintro e w1 ⟨rfl, hA⟩; have H1 := Lib.hid hA; clear hA)) | (go_at_call 144; go_must (refine (peekType_yes r s D i _ _ H1.out.buf H0.out.2).mono ?_; rintro e w2 ⟨rfl, k2, rfl⟩; have H2 := Lib.hid (H1.out.drewN k2); clear H1)) | (go_at_call 106; go_must (refine (HR.out _ H2.out).mono ?_; rintro e w3 ⟨x, y, rfl, hR⟩; have H3 := Lib.hid hR; clear hR)))
    go_ret2
    exact ⟨_, _, rfl, _, rfl, H3.out⟩
set_option maxRecDepth 100000 in
set_option maxHeartbeats 800000 in
theorem ReadAny_readLong (c : UInt8) (hcc : c = 129 ∨ c = 85) (h : Buf w r s D i) (hc : D[i]? = some c) (R : Value → Value → World → Prop) (hr : ∀ W, At_ w W r s D i → Calls Tryz.prog 107 #[.pointer (some ⟨r, 0, none⟩)] W (Gives2 R)) :
    Calls Tryz.prog 138 #[.pointer (some ⟨r, 0, none⟩)] w (Gives2 fun y e w' => ∃ x, y = .iface 2 x ∧ R x e w') := by
  have H0 := Lib.hid (And.intro h hc)
  have HR := Lib.hid hr
  clear h hc hr
  rcases hcc with rfl | rfl
  all_goals
    go_enter Tryz.func138, Tryz.ntmps138
    go_wp2_with (first | (go_at_call 94; go_must (refine (tryReadNull_no r s D i _ _ H0.out.1 H0.out.2 (by decide)).mono ?_; rintro e w1 ⟨rfl, hA⟩; have H1 := Lib.hid hA; clear hA)) | (go_at_call 144; go_must (refine (peekType_yes r s D i _ _ H1.out.buf H0.out.2).mono ?_; rintro e w2 ⟨rfl, k2, rfl⟩; have H2 := Lib.hid (H1.out.drewN k2); clear H1)) | (go_at_call 107; go_must (refine (HR.out _ H2.out).mono ?_; rintro e w3 ⟨x, y, rfl, hR⟩; have H3 := Lib.hid hR; clear hR)))
    go_ret2
    exact ⟨_, _, rfl, _, rfl, H3.out⟩
set_option maxRecDepth 100000 in
set_option maxHeartbeats 800000 in
theorem ReadAny_readFloat (c : UInt8) (hcc : c = 114) (h : Buf w r s D i) (hc : D[i]? = some c) (R : Value → Value → World → Prop) (hr : ∀ W, At_ w W r s D i → Calls Tryz.prog 111 #[.pointer (some ⟨r, 0, none⟩)] W (Gives2 R)) :
    Calls Tryz.prog 138 #[.pointer (some ⟨r, 0, none⟩)] w (Gives2 fun y e w' => ∃ x, y = .iface 279 x ∧ R x e w') := by
  have H0 := Lib.hid (And.intro h hc)
  have HR := Lib.hid hr
  clear h hc hr
  rcases hcc with rfl
  all_goals
    go_enter Tryz.func138, Tryz.ntmps138
    go_wp2_with (first | (go_at_call 94; go_must (refine (tryReadNull_no r s D i _ _ H0.out.1 H0.out.2 (by decide)).mono ?_; rintro e w1 ⟨rfl, hA⟩; have H1 := Lib.hid hA; clear hA)) | (go_at_call 144; go_must (refine (peekType_yes r s D i _ _ H1.out.buf H0.out.2).mono ?_; rintro e w2 ⟨rfl, k2, rfl⟩; have H2 := Lib.hid (H1.out.drewN k2); clear H1)) | (go_at_call 111; go_must (refine (HR.out _ H2.out).mono ?_; rintro e w3 ⟨x, y, rfl, hR⟩; have H3 := Lib.hid hR; clear hR)))
    go_ret2
    exact ⟨_, _, rfl, _, rfl, H3.out⟩
set_option maxRecDepth 100000 in
set_option maxHeartbeats 800000 in
theorem ReadAny_readDouble (c : UInt8) (hcc : c = 130) (h : Buf w r s D i) (hc : D[i]? = some c) (R : Value → Value → World → Prop) (hr : ∀ W, At_ w W r s D i → Calls Tryz.prog 112 #[.pointer (some ⟨r, 0, none⟩)] W (Gives2 R)) :
    Calls Tryz.prog 138 #[.pointer (some ⟨r, 0, none⟩)] w (Gives2 fun y e w' => ∃ x, y = .iface 283 x ∧ R x e w') := by
  have H0 := Lib.hid (And.intro h hc)
  have HR := Lib.hid hr
  clear h hc hr
  rcases hcc with rfl
  all_goals
    go_enter Tryz.func138, Tryz.ntmps138
    go_wp2_with (first | (go_at_call 94; go_must (refine (tryReadNull_no r s D i _ _ H0.out.1 H0.out.2 (by decide)).mono ?_; rintro e w1 ⟨rfl, hA⟩; have H1 := Lib.hid hA; clear hA)) | (go_at_call 144; go_must (refine (peekType_yes r s D i _ _ H1.out.buf H0.out.2).mono ?_; rintro e w2 ⟨rfl, k2, rfl⟩; have H2 := Lib.hid (H1.out.drewN k2); clear H1)) | (go_at_call 112; go_must (refine (HR.out _ H2.out).mono ?_; rintro e w3 ⟨x, y, rfl, hR⟩; have H3 := Lib.hid hR; clear hR)))
    go_ret2
    exact ⟨_, _, rfl, _, rfl, H3.out⟩
set_option maxRecDepth 100000 in
set_option maxHeartbeats 800000 in
theorem ReadAny_readBinary (c : UInt8) (hcc : c = 160 ∨ c = 176) (h : Buf w r s D i) (hc : D[i]? = some c) (R : Value → Value → World → Prop) (hr : ∀ W, At_ w W r s D i → Calls Tryz.prog 114 #[.pointer (some ⟨r, 0, none⟩)] W (Gives2 R)) :
    Calls Tryz.prog 138 #[.pointer (some ⟨r, 0, none⟩)] w (Gives2 fun y e w' => ∃ x, y = .iface 26 x ∧ R x e w') := by
  have H0 := Lib.hid (And.intro h hc)
  have HR := Lib.hid hr
  clear h hc hr
  rcases hcc with rfl | rfl
  all_goals
    go_enter Tryz.func138, Tryz.ntmps138
    go_wp2_with (first | (go_at_call 94; go_must (refine (tryReadNull_no r s D i _ _ H0.out.1 H0.out.2 (by decide)).mono ?_; rintro e w1 ⟨rfl, hA⟩; have H1 := Lib.hid hA; clear hA)) | (go_at_call 144; go_must (refine (peekType_yes r s D i _ _ H1.out.buf H0.out.2).mono ?_; rintro e w2 ⟨rfl, k2, rfl⟩; have H2 := Lib.hid (H1.out.drewN k2); clear H1)) | (go_at_call 114; go_must (refine (HR.out _ H2.out).mono ?_; rintro e w3 ⟨x, y, rfl, hR⟩; have H3 := Lib.hid hR; clear hR)))
    go_ret2
    exact ⟨_, _, rfl, _, rfl, H3.out⟩
set_option maxRecDepth 100000 in
set_option maxHeartbeats 800000 in
theorem ReadAny_ReadString (c : UInt8) (hcc : c = 161 ∨ c = 177 ∨ c = 163 ∨ c = 179) (h : Buf w r s D i) (hc : D[i]? = some c) (R : Value → Value → World → Prop) (hr : ∀ W, At_ w W r s D i → Calls Tryz.prog 113 #[.pointer (some ⟨r, 0, none⟩)] W (Gives2 R)) :
    Calls Tryz.prog 138 #[.pointer (some ⟨r, 0, none⟩)] w (Gives2 fun y e w' => ∃ x, y = .iface 9 x ∧ R x e w') := by
  have H0 := Lib.hid (And.intro h hc)
  have HR := Lib.hid hr
  clear h hc hr
  rcases hcc with rfl | rfl | rfl | rfl
  all_goals
    go_enter Tryz.func138, Tryz.ntmps138
    go_wp2_with (first | (go_at_call 94; go_must (refine (tryReadNull_no r s D i _ _ H0.out.1 H0.out.2 (by decide)).mono ?_; rintro e w1 ⟨rfl, hA⟩; have H1 := Lib.hid hA; clear hA)) | (go_at_call 144; go_must (refine (peekType_yes r s D i _ _ H1.out.buf H0.out.2).mono ?_; rintro e w2 ⟨rfl, k2, rfl⟩; have H2 := Lib.hid (H1.out.drewN k2); clear H1)) | (go_at_call 113; go_must (refine (HR.out _ H2.out).mono ?_; rintro e w3 ⟨x, y, rfl, hR⟩; have H3 := Lib.hid hR; clear hR)))
    go_ret2
    exact ⟨_, _, rfl, _, rfl, H3.out⟩
set_option maxRecDepth 100000 in
set_option maxHeartbeats 800000 in
theorem ReadAny_readTimestamp (c : UInt8) (hcc : c = 131) (h : Buf w r s D i) (hc : D[i]? = some c) (R : Value → Value → World → Prop) (hr : ∀ W, At_ w W r s D i → Calls Tryz.prog 116 #[.pointer (some ⟨r, 0, none⟩)] W (Gives2 R)) :
    Calls Tryz.prog 138 #[.pointer (some ⟨r, 0, none⟩)] w (Gives2 fun y e w' => ∃ x, y = .iface 295 x ∧ R x e w') := by
  have H0 := Lib.hid (And.intro h hc)
  have HR := Lib.hid hr
  clear h hc hr
  rcases hcc with rfl
  all_goals
    go_enter Tryz.func138, Tryz.ntmps138
    go_wp2_with (first | (go_at_call 94; go_must (refine (tryReadNull_no r s D i _ _ H0.out.1 H0.out.2 (by decide)).mono ?_; rintro e w1 ⟨rfl, hA⟩; have H1 := Lib.hid hA; clear hA)) | (go_at_call 144; go_must (refine (peekType_yes r s D i _ _ H1.out.buf H0.out.2).mono ?_; rintro e w2 ⟨rfl, k2, rfl⟩; have H2 := Lib.hid (H1.out.drewN k2); clear H1)) | (go_at_call 116; go_must (refine (HR.out _ H2.out).mono ?_; rintro e w3 ⟨x, y, rfl, hR⟩; have H3 := Lib.hid hR; clear hR)))
    go_ret2
    exact ⟨_, _, rfl, _, rfl, H3.out⟩
set_option maxRecDepth 100000 in
set_option maxHeartbeats 800000 in
theorem ReadAny_readUUID (c : UInt8) (hcc : c = 152) (h : Buf w r s D i) (hc : D[i]? = some c) (R : Value → Value → World → Prop) (hr : ∀ W, At_ w W r s D i → Calls Tryz.prog 160 #[.pointer (some ⟨r, 0, none⟩)] W (Gives2 R)) :
    Calls Tryz.prog 138 #[.pointer (some ⟨r, 0, none⟩)] w (Gives2 fun y e w' => ∃ x, y = .iface 406 x ∧ R x e w') := by
  have H0 := Lib.hid (And.intro h hc)
  have HR := Lib.hid hr
  clear h hc hr
  rcases hcc with rfl
  all_goals
    go_enter Tryz.func138, Tryz.ntmps138
    go_wp2_with (first | (go_at_call 94; go_must (refine (tryReadNull_no r s D i _ _ H0.out.1 H0.out.2 (by decide)).mono ?_; rintro e w1 ⟨rfl, hA⟩; have H1 := Lib.hid hA; clear hA)) | (go_at_call 144; go_must (refine (peekType_yes r s D i _ _ H1.out.buf H0.out.2).mono ?_; rintro e w2 ⟨rfl, k2, rfl⟩; have H2 := Lib.hid (H1.out.drewN k2); clear H1)) | (go_at_call 160; go_must (refine (HR.out _ H2.out).mono ?_; rintro e w3 ⟨x, y, rfl, hR⟩; have H3 := Lib.hid hR; clear hR)))
    go_ret2
    exact ⟨_, _, rfl, _, rfl, H3.out⟩
set_option maxRecDepth 100000 in
set_option maxHeartbeats 800000 in
theorem ReadAny_readAnyArray (c : UInt8) (hcc : c = 224 ∨ c = 240) (h : Buf w r s D i) (hc : D[i]? = some c) (R : Value → Value → World → Prop) (hr : ∀ W, At_ w W r s D i → Calls Tryz.prog 161 #[.pointer (some ⟨r, 0, none⟩)] W (Gives2 R)) :
    Calls Tryz.prog 138 #[.pointer (some ⟨r, 0, none⟩)] w (Gives2 fun y e w' => R y e w') := by
  have H0 := Lib.hid (And.intro h hc)
  have HR := Lib.hid hr
  clear h hc hr
  rcases hcc with rfl | rfl
  all_goals
    go_enter Tryz.func138, Tryz.ntmps138
    go_wp2_with (first | (go_at_call 94; go_must (refine (tryReadNull_no r s D i _ _ H0.out.1 H0.out.2 (by decide)).mono ?_; rintro e w1 ⟨rfl, hA⟩; have H1 := Lib.hid hA; clear hA)) | (go_at_call 144; go_must (refine (peekType_yes r s D i _ _ H1.out.buf H0.out.2).mono ?_; rintro e w2 ⟨rfl, k2, rfl⟩; have H2 := Lib.hid (H1.out.drewN k2); clear H1)) | (go_at_call 161; go_must (refine (HR.out _ H2.out).mono ?_; rintro e w3 ⟨x, y, rfl, hR⟩; have H3 := Lib.hid hR; clear hR)))
    go_ret2
    exact ⟨_, _, rfl, H3.out⟩
set_option maxRecDepth 100000 in
set_option maxHeartbeats 800000 in
theorem ReadAny_readAnyList (c : UInt8) (hcc : c = 69 ∨ c = 192 ∨ c = 208) (h : Buf w r s D i) (hc : D[i]? = some c) (R : Value → Value → World → Prop) (hr : ∀ W, At_ w W r s D i → Calls Tryz.prog 162 #[.pointer (some ⟨r, 0, none⟩)] W (Gives2 R)) :
    Calls Tryz.prog 138 #[.pointer (some ⟨r, 0, none⟩)] w (Gives2 fun y e w' => R y e w') := by
  have H0 := Lib.hid (And.intro h hc)
  have HR := Lib.hid hr
  clear h hc hr
  rcases hcc with rfl | rfl | rfl
  all_goals
    go_enter Tryz.func138, Tryz.ntmps138
    go_wp2_with (first | (go_at_call 94; go_must (refine (tryReadNull_no r s D i _ _ H0.out.1 H0.out.2 (by decide)).mono ?_; rintro e w1 ⟨rfl, hA⟩; have H1 := Lib.hid hA; clear hA)) | (go_at_call 144; go_must (refine (peekType_yes r s D i _ _ H1.out.buf H0.out.2).mono ?_; rintro e w2 ⟨rfl, k2, rfl⟩; have H2 := Lib.hid (H1.out.drewN k2); clear H1)) | (go_at_call 162; go_must (refine (HR.out _ H2.out).mono ?_; rintro e w3 ⟨x, y, rfl, hR⟩; have H3 := Lib.hid hR; clear hR)))
    go_ret2
    exact ⟨_, _, rfl, H3.out⟩
set_option maxRecDepth 100000 in
set_option maxHeartbeats 800000 in
theorem ReadAny_readAnyMap (c : UInt8) (hcc : c = 193 ∨ c = 209) (h : Buf w r s D i) (hc : D[i]? = some c) (R : Value → Value → World → Prop) (hr : ∀ W, At_ w W r s D i → Calls Tryz.prog 163 #[.pointer (some ⟨r, 0, none⟩)] W (Gives2 R)) :
    Calls Tryz.prog 138 #[.pointer (some ⟨r, 0, none⟩)] w (Gives2 fun y e w' => R y e w') := by
  have H0 := Lib.hid (And.intro h hc)
  have HR := Lib.hid hr
  clear h hc hr
  rcases hcc with rfl | rfl
  all_goals
    go_enter Tryz.func138, Tryz.ntmps138
    go_wp2_with (first | (go_at_call 94; go_must (refine (tryReadNull_no r s D i _ _ H0.out.1 H0.out.2 (by decide)).mono ?_; rintro e w1 ⟨rfl, hA⟩; have H1 := Lib.hid hA; clear hA)) | (go_at_call 144; go_must (refine (peekType_yes r s D i _ _ H1.out.buf H0.out.2).mono ?_; rintro e w2 ⟨rfl, k2, rfl⟩; have H2 := Lib.hid (H1.out.drewN k2); clear H1)) | (go_at_call 163; go_must (refine (HR.out _ H2.out).mono ?_; rintro e w3 ⟨x, y, rfl, hR⟩; have H3 := Lib.hid hR; clear hR)))
    go_ret2
    exact ⟨_, _, rfl, H3.out⟩
end
end Go.Proofs.YtbckofjoancdjaaGreatDoor
