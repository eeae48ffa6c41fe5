/- Package spec: pieces, PutValue: what is written is one of the forms of a value. PLAIN DATA: how many bytes a value takes at most, by how many values there are in it; the numbers of all values in a tree that lies in memory. Package spec: pieces of lists and maps; PutValue: what is written is one of the forms of a value ('Enc'). -/
import Derived.LoopTactic
import Derived.IntWalk
import Derived.Outline
import Derived.Lib.ConvBytes
import Derived.Test.YtbckofjoancdjaaGreatDoorK20
import Derived.Test.YtbckofjoancdjaaGreatDoorK5
import Derived.Test.YtbckofjoancdjaaGreatDoorK4
namespace Go.Proofs.YtbckofjoancdjaaGreatDoor
open Go Go.RowKit Go.Lib
attribute [local go_sem ↓] Go.wp_at_zero Go.wp_at_succ
theorem conv_bytes (w : World) (s : ByteArray) (hs : s.size ≤ maxLen) : ∃ p c w', (convert 9 26 (.string s)).run Tryz.prog w = .ok (.slice p s.size c) w' ∧ BSl (fun b => w.heap.size ≤ b) w' (.slice p s.size c) (bytesOf s) ∧ Kept Nope w w' := by
  refine ⟨_, _, _, Lib.run_convert_string_bytes w 9 26 5 s Tryz.underlying9 Tryz.underlying26 Tryz.underlying5, ⟨_, _, by rw [bytesOf_length], ?_, ?_, .inr ⟨w.heap.size, 0, rfl, Nat.le_refl _, fun j x hx => ?_⟩⟩, ⟨rfl, rfl, rfl, by rw [bytesWorld_size]; omega, fun k hk _ => bytesWorld_at_old w 5 s k hk⟩⟩
  · rw [bytesOf_length]; exact grownCap_ge w s.size 0 5
  · exact grownCap_le_maxLen w s.size 0 5 hs
  · have hj : j < s.size := by have := (List.getElem?_eq_some_iff.1 hx).1; rwa [bytesOf_length] at this
    rw [Nat.zero_add, bytesWorld_cell w 5 s j hj]
    unfold bytesOf at hx
    rw [List.getD, hx]
    rfl
set_option maxRecDepth 100000 in
theorem upon_conv {o : Oper} {a : Act} {K : Act → World → Prop} {Q : Exit → Act → World → Prop} {f : Value → World → Result Next} {w : World} {s : ByteArray} (hs : s.size ≤ maxLen)
    (hK : ∀ p c w', BSl (fun b => w.heap.size ≤ b) w' (.slice p s.size c) (bytesOf s) → Kept Nope w w' → Oper.upon Tryz.prog o a K Q ((Result.ok (.slice p s.size c) w').andThen f)) : Oper.upon Tryz.prog o a K Q ((Sem.run Tryz.prog (convert 9 26 (.string s)) w).andThen f) := by
  obtain ⟨p, c, w', hrun, h1, h2⟩ := conv_bytes w s hs
  exact Eq.mpr (congrArg (fun r => Oper.upon Tryz.prog o a K Q (Result.andThen r f)) hrun) (hK p c w' h1 h2)
theorem PRow.litL {base g : Nat} {w : World} (l : List Pc) (hg : w.heap.size = g) (hb : base ≤ w.heap.size) (hw : ∀ p ∈ l, BSl (fun b => base ≤ b) w p.s p.data) (hl : l.length ≤ maxLen) : PRow base (w.alloc (.cells (l.flatMap Pc.cells).toArray 170)) (.slice (some ⟨g, 0, none⟩) l.length l.length) l := by
  subst hg
  refine ⟨⟨flatMap_two_len l, .inr ⟨w.heap.size, l.length, (l.flatMap Pc.cells).toArray, rfl, hb, heap_alloc_new w _, Nat.le_refl _, hl, by rw [List.size_toArray, flatMap_two_len], by simp only [← flatMap_two_len]; exact List.take_of_length_le (Nat.le_refl _)⟩⟩, fun p hp => ?_⟩
  refine (((hw p hp).mono (S' := fun b => base ≤ b ∧ b < w.heap.size) fun b hb hS => ⟨hS, hb⟩).keep ((Kept.refl Nope w).alloc _) fun _ _ _ h => h).mono fun b _ hb => ⟨hb.1, fun e => ?_⟩
  have e' : some w.heap.size = some b := e
  injection e' with e'
  omega
set_option maxRecDepth 100000 in
set_option maxHeartbeats 6400000 in
theorem pieces_18 (v : V) (f : Nat) (w : World) (x : Value) (h18 : v.kind = 18) (hl : v.text.size ≤ 131072) (hf : FormsAt w f) (hx : VAgg (fun b => b ≠ f) w x v) :
    Calls Tryz.prog 59 #[.pointer (some ⟨f, 0, none⟩), x] w (PcPost f w (Forms v)) := by
  have hx' := hx
  obtain ⟨ks, ds, rfl, hn, hks, hds⟩ := hx
  have HX := Lib.hid hx'
  obtain ⟨pk, ck, rfl, _⟩ := hks.form
  obtain ⟨pd, cd, rfl, _⟩ := hds.form
  have HF := Lib.hid (And.intro hf h18)
  clear hks hds hn hf hx'
  unfold vagg
  rw [h18]
  clear h18
  obtain ⟨t, ht⟩ : ∃ t, v.text = t := ⟨_, rfl⟩
  rw [ht] at hl ⊢
  have HT := Lib.hid (And.intro ht (show t.size ≤ maxLen by unfold maxLen; omega))
  clear ht
  go_enter Tryz.func59, Tryz.ntmps59
  go_wp2_with (first | (refine upon_conv HT.out.2 ?_; intro p2 c2 w2 hb2 hk2; have H2 := Lib.hid (And.intro hb2 hk2); clear hb2 hk2; go_simp) | (go_at_call 90; go_must (refine (lengthed_ok 0xa0 0xb0 _ (bytesOf t) (-1) _ (H2.out.1.mono fun _ _ _ => trivial) (by rw [bytesOf_length]; omega) (.inl rfl)).mono ?_; rintro e w9 ⟨x9, rfl, hps9, hk9⟩; obtain ⟨p9, c9, rfl, _⟩ := hps9.form; have H9 := Lib.hid (And.intro hps9 (((Kept.refl Nope w).alloc _).trans' (H2.out.2.trans' hk9))); clear hps9 hk9)))
  go_ret
  refine ⟨_, lenForms 0xa0 0xb0 (bytesOf t) (-1), rfl, H9.out.1.mono ?_, ?_, HF.out.1.keep H9.out.2 (fun h => h), H9.out.2.nope⟩
  · have h1 := H2.out.2.size
    rw [World.size_alloc] at h1
    omega
  · rw [← HT.out.1]
    exact Forms.text (.inl HF.out.2) (by rw [HF.out.2]; rfl) (by rw [HF.out.2]; rfl)
set_option maxRecDepth 100000 in
set_option maxHeartbeats 6400000 in
theorem pieces_19 (v : V) (f : Nat) (w : World) (x : Value) (h18 : v.kind = 19) (hl : v.text.size ≤ 131072) (hf : FormsAt w f) (hx : VAgg (fun b => b ≠ f) w x v) :
    Calls Tryz.prog 59 #[.pointer (some ⟨f, 0, none⟩), x] w (PcPost f w (Forms v)) := by
  have hx' := hx
  obtain ⟨ks, ds, rfl, hn, hks, hds⟩ := hx
  have HX := Lib.hid hx'
  obtain ⟨pk, ck, rfl, _⟩ := hks.form
  obtain ⟨pd, cd, rfl, _⟩ := hds.form
  have HF := Lib.hid (And.intro hf h18)
  clear hks hds hn hf hx'
  unfold vagg
  rw [h18]
  clear h18
  obtain ⟨t, ht⟩ : ∃ t, v.text = t := ⟨_, rfl⟩
  rw [ht] at hl ⊢
  have HT := Lib.hid (And.intro ht (show t.size ≤ maxLen by unfold maxLen; omega))
  clear ht
  go_enter Tryz.func59, Tryz.ntmps59
  go_wp2_with (first | (refine upon_conv HT.out.2 ?_; intro p2 c2 w2 hb2 hk2; have H2 := Lib.hid (And.intro hb2 hk2); clear hb2 hk2; go_simp) | (go_at_call 90; go_must (refine (lengthed_ok 0xa1 0xb1 _ (bytesOf t) (-1) _ (H2.out.1.mono fun _ _ _ => trivial) (by rw [bytesOf_length]; omega) (.inl rfl)).mono ?_; rintro e w9 ⟨x9, rfl, hps9, hk9⟩; obtain ⟨p9, c9, rfl, _⟩ := hps9.form; have H9 := Lib.hid (And.intro hps9 (((Kept.refl Nope w).alloc _).trans' (H2.out.2.trans' hk9))); clear hps9 hk9)))
  go_ret
  refine ⟨_, lenForms 0xa1 0xb1 (bytesOf t) (-1), rfl, H9.out.1.mono ?_, ?_, HF.out.1.keep H9.out.2 (fun h => h), H9.out.2.nope⟩
  · have h1 := H2.out.2.size
    rw [World.size_alloc] at h1
    omega
  · rw [← HT.out.1]
    exact Forms.text (.inr (.inl HF.out.2)) (by rw [HF.out.2]; rfl) (by rw [HF.out.2]; rfl)
set_option maxRecDepth 100000 in
set_option maxHeartbeats 6400000 in
theorem pieces_20 (v : V) (f : Nat) (w : World) (x : Value) (h18 : v.kind = 20) (hl : v.text.size ≤ 131072) (hf : FormsAt w f) (hx : VAgg (fun b => b ≠ f) w x v) :
    Calls Tryz.prog 59 #[.pointer (some ⟨f, 0, none⟩), x] w (PcPost f w (Forms v)) := by
  have hx' := hx
  obtain ⟨ks, ds, rfl, hn, hks, hds⟩ := hx
  have HX := Lib.hid hx'
  obtain ⟨pk, ck, rfl, _⟩ := hks.form
  obtain ⟨pd, cd, rfl, _⟩ := hds.form
  have HF := Lib.hid (And.intro hf h18)
  clear hks hds hn hf hx'
  unfold vagg
  rw [h18]
  clear h18
  obtain ⟨t, ht⟩ : ∃ t, v.text = t := ⟨_, rfl⟩
  rw [ht] at hl ⊢
  have HT := Lib.hid (And.intro ht (show t.size ≤ maxLen by unfold maxLen; omega))
  clear ht
  go_enter Tryz.func59, Tryz.ntmps59
  go_wp2_with (first | (refine upon_conv HT.out.2 ?_; intro p2 c2 w2 hb2 hk2; have H2 := Lib.hid (And.intro hb2 hk2); clear hb2 hk2; go_simp) | (go_at_call 90; go_must (refine (lengthed_ok 0xa3 0xb3 _ (bytesOf t) (-1) _ (H2.out.1.mono fun _ _ _ => trivial) (by rw [bytesOf_length]; omega) (.inl rfl)).mono ?_; rintro e w9 ⟨x9, rfl, hps9, hk9⟩; obtain ⟨p9, c9, rfl, _⟩ := hps9.form; have H9 := Lib.hid (And.intro hps9 (((Kept.refl Nope w).alloc _).trans' (H2.out.2.trans' hk9))); clear hps9 hk9)))
  go_ret
  refine ⟨_, lenForms 0xa3 0xb3 (bytesOf t) (-1), rfl, H9.out.1.mono ?_, ?_, HF.out.1.keep H9.out.2 (fun h => h), H9.out.2.nope⟩
  · have h1 := H2.out.2.size
    rw [World.size_alloc] at h1
    omega
  · rw [← HT.out.1]
    exact Forms.text (.inr (.inr HF.out.2)) (by rw [HF.out.2]; rfl) (by rw [HF.out.2]; rfl)
set_option maxRecDepth 100000 in
set_option maxHeartbeats 6400000 in
theorem pieces_0 (v : V) (f : Nat) (w : World) (x : Value) (h0 : v.kind = 0) (hf : FormsAt w f) (hx : VAgg (fun b => b ≠ f) w x v) :
    Calls Tryz.prog 59 #[.pointer (some ⟨f, 0, none⟩), x] w (PcPost f w (Forms v)) := by
  have hx' := hx
  obtain ⟨ks, ds, rfl, hn, hks, hds⟩ := hx
  have HX := Lib.hid hx'
  obtain ⟨pk, ck, rfl, _⟩ := hks.form
  obtain ⟨pd, cd, rfl, _⟩ := hds.form
  have HF := Lib.hid (And.intro hf h0)
  clear hks hds hn hf hx'
  unfold vagg
  rw [h0]
  clear h0
  go_enter Tryz.func59, Tryz.ntmps59
  go_wp2
  go_ret
  have hk := ((Kept.refl Nope w).alloc (.cells #[.int .i64 0, .int .u64 v.num, .string v.text, .slice pk v.kids.length ck, .int .i64 v.of_, .slice pd v.desc.length cd] 92)).alloc (.cells #[.int .i64 64, .slice none 0 0] 170)
  exact ⟨_, [(64, [])], rfl, ⟨[⟨64, [], .slice none 0 0⟩], PRow.litL [⟨64, [], .slice none 0 0⟩] (by simp) (by simp) (fun p hp => by rw [List.mem_singleton.1 hp]; exact BSl.nil none 0 (by simp [maxLen])) (by simp [maxLen]), rfl⟩, ⟨fun p hp => by rw [List.mem_singleton.1 hp]; exact ⟨.null HF.out.2, by simp⟩, ⟨[], by rw [HF.out.2]; exact List.mem_singleton.2 rfl⟩, by simp⟩, HF.out.1.keep hk (fun h => h), hk.nope⟩
set_option maxRecDepth 100000 in
set_option maxHeartbeats 6400000 in
theorem pieces_1 (v : V) (f : Nat) (w : World) (x : Value) (h1 : v.kind = 1) (hn1 : v.num = 0 ∨ v.num = 1) (hf : FormsAt w f) (hx : VAgg (fun b => b ≠ f) w x v) :
    Calls Tryz.prog 59 #[.pointer (some ⟨f, 0, none⟩), x] w (PcPost f w (Forms v)) := by
  have hx' := hx
  obtain ⟨ks, ds, rfl, hn, hks, hds⟩ := hx
  have HX := Lib.hid hx'
  obtain ⟨pk, ck, rfl, _⟩ := hks.form
  obtain ⟨pd, cd, rfl, _⟩ := hds.form
  have HF := Lib.hid (And.intro hf h1)
  clear hks hds hn hf hx'
  unfold vagg
  rw [h1]
  clear h1
  obtain ⟨n, hnn⟩ : ∃ n, v.num = n := ⟨_, rfl⟩
  have HN := Lib.hid hnn
  rw [hnn] at hn1 ⊢
  clear hnn
  rcases hn1 with rfl | rfl
  · go_enter Tryz.func59, Tryz.ntmps59
    go_wp2
    go_ret
    have hb := BRow.lit1 (base := w.heap.size) (w := w.alloc (.cells #[.int .i64 1, .int .u64 0, .string v.text, .slice pk v.kids.length ck, .int .i64 v.of_, .slice pd v.desc.length cd] 92)) (c := 0) (g := w.heap.size + 1) (by simp) (by simp) (by decide)
    have hk := (((Kept.refl Nope w).alloc (.cells #[.int .i64 1, .int .u64 0, .string v.text, .slice pk v.kids.length ck, .int .i64 v.of_, .slice pd v.desc.length cd] 92)).alloc (.cells #[.int .u8 0] 5)).alloc (.cells #[.int .i64 66, .slice none 0 0, .int .i64 86, .slice (some ⟨w.heap.size + 1, 0, none⟩) 1 1] 170)
    refine ⟨_, [(66, []), (86, [UInt8.ofNat 0])], rfl, ⟨[⟨66, [], .slice none 0 0⟩, ⟨86, [UInt8.ofNat 0], .slice (some ⟨w.heap.size + 1, 0, none⟩) 1 1⟩], PRow.litL (w := (w.alloc (.cells #[.int .i64 1, .int .u64 0, .string v.text, .slice pk v.kids.length ck, .int .i64 v.of_, .slice pd v.desc.length cd] 92)).alloc (.cells #[.int .u8 0] 5)) [⟨66, [], .slice none 0 0⟩, ⟨86, [UInt8.ofNat 0], .slice (some ⟨w.heap.size + 1, 0, none⟩) 1 1⟩] (by simp) (by simp; omega) (fun p hp => ?_) (by simp [maxLen]), rfl⟩, ⟨fun p hp => ?_, ⟨[UInt8.ofNat 0], by rw [HF.out.2]; simp [coded]⟩, by simp⟩, HF.out.1.keep hk (fun h => h), hk.nope⟩
    · simp only [List.mem_cons, List.mem_nil_iff, or_false] at hp
      rcases hp with rfl | rfl
      · exact BSl.nil none 0 (by simp [maxLen])
      · exact hb.bsl
    · simp only [List.mem_cons, List.mem_nil_iff, or_false] at hp
      rcases hp with rfl | rfl
      · have h := Form.flag (v := v) HF.out.2
        rw [HN.out] at h
        exact ⟨h, by simp⟩
      · have h := Form.bool (v := v) HF.out.2
        rw [HN.out] at h
        exact ⟨h, by simp⟩
  · go_enter Tryz.func59, Tryz.ntmps59
    go_wp2
    go_ret
    have hb := BRow.lit1 (base := w.heap.size) (w := w.alloc (.cells #[.int .i64 1, .int .u64 1, .string v.text, .slice pk v.kids.length ck, .int .i64 v.of_, .slice pd v.desc.length cd] 92)) (c := 1) (g := w.heap.size + 1) (by simp) (by simp) (by decide)
    have hk := (((Kept.refl Nope w).alloc (.cells #[.int .i64 1, .int .u64 1, .string v.text, .slice pk v.kids.length ck, .int .i64 v.of_, .slice pd v.desc.length cd] 92)).alloc (.cells #[.int .u8 1] 5)).alloc (.cells #[.int .i64 65, .slice none 0 0, .int .i64 86, .slice (some ⟨w.heap.size + 1, 0, none⟩) 1 1] 170)
    refine ⟨_, [(65, []), (86, [UInt8.ofNat 1])], rfl, ⟨[⟨65, [], .slice none 0 0⟩, ⟨86, [UInt8.ofNat 1], .slice (some ⟨w.heap.size + 1, 0, none⟩) 1 1⟩], PRow.litL (w := (w.alloc (.cells #[.int .i64 1, .int .u64 1, .string v.text, .slice pk v.kids.length ck, .int .i64 v.of_, .slice pd v.desc.length cd] 92)).alloc (.cells #[.int .u8 1] 5)) [⟨65, [], .slice none 0 0⟩, ⟨86, [UInt8.ofNat 1], .slice (some ⟨w.heap.size + 1, 0, none⟩) 1 1⟩] (by simp) (by simp; omega) (fun p hp => ?_) (by simp [maxLen]), rfl⟩, ⟨fun p hp => ?_, ⟨[UInt8.ofNat 1], by rw [HF.out.2]; simp [coded]⟩, by simp⟩, HF.out.1.keep hk (fun h => h), hk.nope⟩
    · simp only [List.mem_cons, List.mem_nil_iff, or_false] at hp
      rcases hp with rfl | rfl
      · exact BSl.nil none 0 (by simp [maxLen])
      · exact hb.bsl
    · simp only [List.mem_cons, List.mem_nil_iff, or_false] at hp
      rcases hp with rfl | rfl
      · have h := Form.flag (v := v) HF.out.2
        rw [HN.out] at h
        exact ⟨h, by simp⟩
      · have h := Form.bool (v := v) HF.out.2
        rw [HN.out] at h
        exact ⟨h, by simp⟩
set_option maxRecDepth 100000 in
set_option maxHeartbeats 6400000 in
theorem pieces_14 (v : V) (f : Nat) (w : World) (x : Value) (h14 : v.kind = 14) (hl : v.text.size = 16) (hf : FormsAt w f) (hx : VAgg (fun b => b ≠ f) w x v) :
    Calls Tryz.prog 59 #[.pointer (some ⟨f, 0, none⟩), x] w (PcPost f w (Forms v)) := by
  have hx' := hx
  obtain ⟨ks, ds, rfl, hn, hks, hds⟩ := hx
  have HX := Lib.hid hx'
  obtain ⟨pk, ck, rfl, _⟩ := hks.form
  obtain ⟨pd, cd, rfl, _⟩ := hds.form
  have HF := Lib.hid (And.intro hf (And.intro h14 hl))
  clear hks hds hn hf hx'
  unfold vagg
  rw [h14]
  clear h14
  obtain ⟨t, ht⟩ : ∃ t, v.text = t := ⟨_, rfl⟩
  rw [ht] at hl ⊢
  have HT := Lib.hid (And.intro ht (show t.size ≤ maxLen by unfold maxLen; omega))
  clear ht hl
  have HCD := Lib.hid (fun W => coded_at (k := 14) (by omega) W)
  go_enter Tryz.func59, Tryz.ntmps59
  go_upto_region 8 with fail
  have hA := Blk.new w 92 #[.int .i64 14, .int .u64 v.num, .string t, .slice pk v.kids.length ck, .int .i64 v.of_, .slice pd v.desc.length cd]
  have HK1 := Lib.hid ((Kept.refl Nope w).alloc (.cells #[.int .i64 14, .int .u64 v.num, .string t, .slice pk v.kids.length ck, .int .i64 v.of_, .slice pd v.desc.length cd] 92))
  generalize w.alloc (.cells #[.int .i64 14, .int .u64 v.num, .string t, .slice pk v.kids.length ck, .int .i64 v.of_, .slice pd v.desc.length cd] 92) = W1 at hA HK1 ⊢
  generalize w.heap.size = A at hA ⊢
  have HM : Hid (∀ w', Kept Nope W1 w' → w'.cell? ⟨A, 0, none⟩ = some (.int .i64 14) ∧ w'.cell? ⟨A, 2, none⟩ = some (.string t)) := Lib.hid fun w' h => ⟨(hA.kept h (fun h => h)).cell 0, (hA.kept h (fun h => h)).cell 2⟩
  clear hA
  obtain ⟨a0, a2⟩ := HM.out _ (Kept.refl _ W1).drew
  have hN0 := (Kept.refl Nope W1).drew
  go_region_with (first | (go_at_call 89; refine (HCD.out _).mono ?_; rintro e w2 ⟨rfl, hk⟩; have hN := ‹Kept Nope W1 _›.trans' hk; obtain ⟨b0, b2⟩ := HM.out _ hN; (try replace H2 := Lib.hid (H2.out.keep hk (fun _ _ _ h => h))); clear hk) | (refine upon_conv HT.out.2 ?_; intro p2 c2 w2 hb2 hk; have H2 := Lib.hid (hb2.mono (S' := fun b => W1.heap.size ≤ b) fun b _ hb => Nat.le_trans ‹Kept Nope W1 _›.size hb); have hN := ‹Kept Nope W1 _›.trans' hk; obtain ⟨b0, b2⟩ := HM.out _ hN; clear hb2 hk; go_simp))
  all_goals
    go_wp2
    go_ret
    have hk := HK1.out.trans' (‹Kept Nope W1 _›.alloc (.cells #[.int .i64 (coded 14), .slice p2 t.size c2] 170))
    refine ⟨_, [(coded 14, bytesOf t)], rfl, ⟨[⟨coded 14, bytesOf t, .slice p2 t.size c2⟩], PRow.litL [⟨coded 14, bytesOf t, .slice p2 t.size c2⟩] rfl (Nat.le_trans HK1.out.size (Kept.size ‹Kept Nope W1 _›)) (fun p hp => ?_) (by simp [maxLen]), rfl⟩, ⟨fun p hp => ?_, ⟨bytesOf t, by rw [HF.out.2.1]; exact List.mem_singleton.2 rfl⟩, by simp⟩, HF.out.1.keep hk (fun h => h), hk.nope⟩
    · rw [List.mem_singleton.1 hp]
      exact H2.out.mono fun b _ hb => Nat.le_trans HK1.out.size hb
    · rw [List.mem_singleton.1 hp, ← HT.out.1]
      have h := Form.wide (v := v) (.inl HF.out.2.1) HF.out.2.2
      rw [HF.out.2.1] at h
      exact ⟨h, coded_lt 14⟩
set_option maxRecDepth 100000 in
set_option maxHeartbeats 6400000 in
theorem pieces_17 (v : V) (f : Nat) (w : World) (x : Value) (h14 : v.kind = 17) (hl : v.text.size = 16) (hf : FormsAt w f) (hx : VAgg (fun b => b ≠ f) w x v) :
    Calls Tryz.prog 59 #[.pointer (some ⟨f, 0, none⟩), x] w (PcPost f w (Forms v)) := by
  have hx' := hx
  obtain ⟨ks, ds, rfl, hn, hks, hds⟩ := hx
  have HX := Lib.hid hx'
  obtain ⟨pk, ck, rfl, _⟩ := hks.form
  obtain ⟨pd, cd, rfl, _⟩ := hds.form
  have HF := Lib.hid (And.intro hf (And.intro h14 hl))
  clear hks hds hn hf hx'
  unfold vagg
  rw [h14]
  clear h14
  obtain ⟨t, ht⟩ : ∃ t, v.text = t := ⟨_, rfl⟩
  rw [ht] at hl ⊢
  have HT := Lib.hid (And.intro ht (show t.size ≤ maxLen by unfold maxLen; omega))
  clear ht hl
  have HCD := Lib.hid (fun W => coded_at (k := 17) (by omega) W)
  go_enter Tryz.func59, Tryz.ntmps59
  go_upto_region 8 with fail
  have hA := Blk.new w 92 #[.int .i64 17, .int .u64 v.num, .string t, .slice pk v.kids.length ck, .int .i64 v.of_, .slice pd v.desc.length cd]
  have HK1 := Lib.hid ((Kept.refl Nope w).alloc (.cells #[.int .i64 17, .int .u64 v.num, .string t, .slice pk v.kids.length ck, .int .i64 v.of_, .slice pd v.desc.length cd] 92))
  generalize w.alloc (.cells #[.int .i64 17, .int .u64 v.num, .string t, .slice pk v.kids.length ck, .int .i64 v.of_, .slice pd v.desc.length cd] 92) = W1 at hA HK1 ⊢
  generalize w.heap.size = A at hA ⊢
  have HM : Hid (∀ w', Kept Nope W1 w' → w'.cell? ⟨A, 0, none⟩ = some (.int .i64 17) ∧ w'.cell? ⟨A, 2, none⟩ = some (.string t)) := Lib.hid fun w' h => ⟨(hA.kept h (fun h => h)).cell 0, (hA.kept h (fun h => h)).cell 2⟩
  clear hA
  obtain ⟨a0, a2⟩ := HM.out _ (Kept.refl _ W1).drew
  have hN0 := (Kept.refl Nope W1).drew
  go_region_with (first | (go_at_call 89; refine (HCD.out _).mono ?_; rintro e w2 ⟨rfl, hk⟩; have hN := ‹Kept Nope W1 _›.trans' hk; obtain ⟨b0, b2⟩ := HM.out _ hN; (try replace H2 := Lib.hid (H2.out.keep hk (fun _ _ _ h => h))); clear hk) | (refine upon_conv HT.out.2 ?_; intro p2 c2 w2 hb2 hk; have H2 := Lib.hid (hb2.mono (S' := fun b => W1.heap.size ≤ b) fun b _ hb => Nat.le_trans ‹Kept Nope W1 _›.size hb); have hN := ‹Kept Nope W1 _›.trans' hk; obtain ⟨b0, b2⟩ := HM.out _ hN; clear hb2 hk; go_simp))
  all_goals
    go_wp2
    go_ret
    have hk := HK1.out.trans' (‹Kept Nope W1 _›.alloc (.cells #[.int .i64 (coded 17), .slice p2 t.size c2] 170))
    refine ⟨_, [(coded 17, bytesOf t)], rfl, ⟨[⟨coded 17, bytesOf t, .slice p2 t.size c2⟩], PRow.litL [⟨coded 17, bytesOf t, .slice p2 t.size c2⟩] rfl (Nat.le_trans HK1.out.size (Kept.size ‹Kept Nope W1 _›)) (fun p hp => ?_) (by simp [maxLen]), rfl⟩, ⟨fun p hp => ?_, ⟨bytesOf t, by rw [HF.out.2.1]; exact List.mem_singleton.2 rfl⟩, by simp⟩, HF.out.1.keep hk (fun h => h), hk.nope⟩
    · rw [List.mem_singleton.1 hp]
      exact H2.out.mono fun b _ hb => Nat.le_trans HK1.out.size hb
    · rw [List.mem_singleton.1 hp, ← HT.out.1]
      have h := Form.wide (v := v) (.inr HF.out.2.1) HF.out.2.2
      rw [HF.out.2.1] at h
      exact ⟨h, coded_lt 17⟩
set_option maxRecDepth 100000 in
set_option maxHeartbeats 6400000 in
theorem pieces_num (v : V) (f : Nat) (w : World) (x : Value) (hk : numKind v.kind) (hnn : 0 ≤ v.num ∧ v.num ≤ 18446744073709551615) (hf : FormsAt w f) (hx : VAgg (fun b => b ≠ f) w x v) :
    Calls Tryz.prog 59 #[.pointer (some ⟨f, 0, none⟩), x] w (PcPost f w (Forms v)) := by
  have hx' := hx
  obtain ⟨ks, ds, rfl, hn, hks, hds⟩ := hx
  have HX := Lib.hid hx'
  obtain ⟨pk, ck, rfl, _⟩ := hks.form
  obtain ⟨pd, cd, rfl, _⟩ := hds.form
  have HF := Lib.hid (And.intro hf (And.intro hk hnn))
  obtain ⟨k, hkk⟩ : ∃ k, v.kind = k := ⟨_, rfl⟩
  rw [hkk] at hk
  have HFX : Hid (NumFx k) := Lib.hid ⟨fun W => coded_at (by unfold numKind at hk; omega) W, fun W => by
    have h := fixedSize_ok k 0 W (.inl rfl) fun W => boolSize_zero k W (by unfold numKind at hk; omega)
    rw [fsz_look hk, Int.sub_zero] at h
    exact h⟩
  have k0 : (k == 0) = false := by unfold numKind at hk; simp; omega
  have k1 : (k == 1) = false := by unfold numKind at hk; simp; omega
  have k14 : (k == 14) = false := by unfold numKind at hk; simp; omega
  have k17 : (k == 17) = false := by unfold numKind at hk; simp; omega
  have k18 : (k == 18) = false := by unfold numKind at hk; simp; omega
  have k19 : (k == 19) = false := by unfold numKind at hk; simp; omega
  have k20 : (k == 20) = false := by unfold numKind at hk; simp; omega
  have k21 : (k == 21) = false := by unfold numKind at hk; simp; omega
  have k22 : (k == 22) = false := by unfold numKind at hk; simp; omega
  have k23 : (k == 23) = false := by unfold numKind at hk; simp; omega
  have HK := Lib.hid (And.intro hk hkk)
  clear hks hds hn hf hx' hk hnn
  unfold vagg
  rw [hkk]
  clear hkk
  obtain ⟨n, hnn⟩ : ∃ n, v.num = n := ⟨_, rfl⟩
  have HN := Lib.hid hnn
  rw [hnn]
  clear hnn
  go_enter Tryz.func59, Tryz.ntmps59
  go_wp2_with (go_at_call 92; go_must (refine (numbered_ok k n _ _ _ _ _ HK.out.1 (HN.out ▸ HF.out.2.2) HFX.out).mono ?_; rintro e w9 ⟨x9, rfl, hps9, hk9⟩; obtain ⟨p9, c9, rfl, _⟩ := hps9.form; have H9 := Lib.hid (And.intro hps9 (((Kept.refl Nope w).alloc _).trans' hk9)); clear hps9 hk9))
  go_ret
  have hfm := Forms.num HF.out.2.1
  refine ⟨_, _, rfl, H9.out.1.mono (by simp), ?_, HF.out.1.keep H9.out.2 (fun h => h), H9.out.2.nope⟩
  have e : numForms v = numForms (.mk k n v.text [] 0 []) := by rw [← HK.out.2, ← HN.out]; rfl
  rw [← e]
  exact hfm
set_option maxRecDepth 100000 in
set_option maxHeartbeats 6400000 in
theorem pieces_23 (v : V) (f : Nat) (w : World) (x : Value) (h23 : v.kind = 23) (har : ∀ (W : World) (x : Value), FormsAt W f → VAgg (fun b => b ≠ f) W x v → Calls Tryz.prog 91 #[.pointer (some ⟨f, 0, none⟩), x] W (PcPost f W (Forms v))) (hf : FormsAt w f) (hx : VAgg (fun b => b ≠ f) w x v) :
    Calls Tryz.prog 59 #[.pointer (some ⟨f, 0, none⟩), x] w (PcPost f w (Forms v)) := by
  have hx' := hx
  obtain ⟨ks, ds, rfl, hn, hks, hds⟩ := hx
  have HX := Lib.hid hx'
  obtain ⟨pk, ck, rfl, _⟩ := hks.form
  obtain ⟨pd, cd, rfl, _⟩ := hds.form
  have HF := Lib.hid (And.intro hf (And.intro h23 har))
  clear hks hds hn hf hx' har
  unfold vagg at HX ⊢
  rw [h23] at HX ⊢
  clear h23
  go_enter Tryz.func59, Tryz.ntmps59
  go_wp2_with (go_at_call 91; go_must (refine (HF.out.2.2 _ _ (HF.out.1.keep ((Kept.refl Nope w).alloc _) (fun h => h)) (HX.out.keep ((Kept.refl Nope w).alloc _) (fun _ _ _ h => h))).mono ?_; rintro e w9 ⟨x9, fl, rfl, hps9, hfo, hat, hk9⟩; obtain ⟨p9, c9, rfl, _⟩ := hps9.form; have H9 := Lib.hid (And.intro hps9 (And.intro hfo (And.intro hat (((Kept.refl Nope w).alloc _).nope.trans' hk9)))); clear hps9 hk9 hfo hat))
  go_ret
  exact ⟨_, fl, rfl, H9.out.1.mono (by simp), H9.out.2.1, H9.out.2.2.1, H9.out.2.2.2⟩
end Go.Proofs.YtbckofjoancdjaaGreatDoor
namespace Go.Proofs.YtbckofjoancdjaaGreatDoor
open Go Go.RowKit
theorem room_le : ∀ (n : Nat) (v : V), SizeOf.sizeOf v ≤ n → Fits v → v.room ≤ v.count * 131092 := by
  intro n
  induction n using Nat.strongRecOn with
  | _ n ih =>
    intro v hn hf
    have hk : sumOf V.room v.kids ≤ sumOf V.count v.kids * 131092 := by
      rw [← sumOf_mul]
      exact sumOf_le _ _ _ fun k hk => ih (SizeOf.sizeOf k) (by have := V.sizeOf_kid hk; omega) k (Nat.le_refl _) (hf.kid hk)
    have hd : sumOf V.room v.desc ≤ sumOf V.count v.desc * 131092 := by
      rw [← sumOf_mul]
      exact sumOf_le _ _ _ fun k hk => ih (SizeOf.sizeOf k) (by have := V.sizeOf_desc hk; omega) k (Nat.le_refl _) (hf.descr hk)
    have := hf.own.size
    rw [V.room_eq, V.count_eq]
    omega
theorem nums_of {S : Nat → Prop} {w : World} {s : Value} {l : List V} (h : VSl S w s l) : ∀ v ∈ l, Nums v := by
  induction h with
  | nil a cap hc => intro v hv; cases hv
  | mk b off cap l ks ds hb hl hc hm hcell _ _ ihk ihd =>
    intro v hv
    obtain ⟨i, hi⟩ := List.mem_iff_getElem?.1 hv
    exact .mk (hcell i v hi).1.num (ihk i v hi) (ihd i v hi)
theorem VAgg.nums {S : Nat → Prop} {w : World} {x : Value} {v : V} (h : VAgg S w x v) : Nums v := by
  obtain ⟨_, _, _, hn, h1, h2⟩ := h
  exact .mk hn.num (nums_of h1) (nums_of h2)
end Go.Proofs.YtbckofjoancdjaaGreatDoor
namespace Go.Proofs.YtbckofjoancdjaaGreatDoor
open Go Go.RowKit Go.Lib
attribute [local go_sem ↓] Go.wp_at_zero Go.wp_at_succ
theorem sumOf_room_mem {l : List V} {k : V} (h : k ∈ l) : k.room ≤ sumOf V.room l := sumOf_mem V.room l k h
theorem EncL.len_take {l : List V} {j : Nat} {bs : List UInt8} (h : EncL (l.take j) bs) : bs.length ≤ sumOf V.room l := Nat.le_trans h.len (sumOf_take_le V.room l j)
structure KInv (v : V) (f : Nat) (w w' : World) (A : Nat) (cs : Array Value) (d : Value) (j : Nat) (bs : List UInt8) : Prop where
  at_ : FormsAt w' f
  kept : Kept (Only f) w w'
  box : Blk w' A 92 cs
  row : BRow (w.heap.size + 1) w' d bs
  enc : EncL (v.kids.take j) bs
set_option maxRecDepth 100000 in
set_option maxHeartbeats 6400000 in
theorem pieces_21 (v : V) (f : Nat) (w : World) (x : Value) (h21 : v.kind = 21) (hl : v.kids.length ≤ 1000) (hroom : v.room ≤ 1000000000) (ih : ∀ k ∈ v.kids, PutOk k) (hf : FormsAt w f) (hx : VAgg (fun b => b ≠ f) w x v) :
    Calls Tryz.prog 59 #[.pointer (some ⟨f, 0, none⟩), x] w (PcPost f w (Forms v)) := by
  have hr := v.room_eq
  have HI := Lib.hid (And.intro ih (show sumOf V.room v.kids ≤ 1000000000 by omega))
  obtain ⟨ks, ds, rfl, hn, hks, hds⟩ := hx
  have HKS := Lib.hid hks
  obtain ⟨pk, ck, rfl, _⟩ := hks.form
  obtain ⟨pd, cd, rfl, _⟩ := hds.form
  have HF := Lib.hid (And.intro hf h21)
  obtain ⟨n, hnn⟩ : ∃ n, v.kids.length = n := ⟨_, rfl⟩
  have HL := Lib.hid hnn
  rw [hnn] at hl
  clear hks hds hn hf hr ih hroom
  unfold vagg
  rw [h21, hnn]
  clear h21 hnn
  go_enter Tryz.func59, Tryz.ntmps59
  go_wp2
  have hA := Blk.new w 92 #[.int .i64 21, .int .u64 v.num, .string v.text, .slice pk n ck, .int .i64 v.of_, .slice pd v.desc.length cd]
  have HK1 := Lib.hid ((Kept.refl Nope w).alloc (.cells #[.int .i64 21, .int .u64 v.num, .string v.text, .slice pk n ck, .int .i64 v.of_, .slice pd v.desc.length cd] 92))
  have HA := Lib.hid hA
  generalize w.alloc (.cells #[.int .i64 21, .int .u64 v.num, .string v.text, .slice pk n ck, .int .i64 v.of_, .slice pd v.desc.length cd] 92) = W1 at HA HK1 ⊢
  generalize hAe : w.heap.size = A at HA ⊢
  have HAE := Lib.hid hAe
  clear hA hAe
  go_loopw [5, 63] (fun d q w' => ∃ (j : Nat) (bs : List UInt8), j ≤ n ∧ q = .int .i64 j ∧ Hid (KInv v f w w' A #[.int .i64 21, .int .u64 v.num, .string v.text, .slice pk n ck, .int .i64 v.of_, .slice pd v.desc.length cd] d j bs)) (fun _ q _ => n - (RowKit.intOf q).toNat)
  case atStart => exact ⟨0, [], by omega, rfl, Lib.hid ⟨HF.out.1.keep HK1.out (fun h => h), HK1.out.nope, HA.out, BRow.nil _ _, .nil⟩⟩
  case round =>
    obtain ⟨j, bs, hj, rfl, HR⟩ := hrel
    obtain ⟨pb, cb, hb⟩ := HR.out.row.form
    subst hb
    by_cases hjn : j < n
    · have hjn' : (j : Int) < (n : Int) := by omega
      have hj0 : (0 : Int) ≤ (j : Int) := by omega
      have e1 : IntKind.i64.wrap ((j : Int) + 1) = (j : Int) + 1 := IntWalk.i64_in _ (by omega)
      obtain ⟨u, hu⟩ : ∃ u, v.kids[j]? = some u := ⟨v.kids[j]'(by rw [HL.out]; exact hjn), List.getElem?_eq_getElem _⟩
      obtain ⟨b1, off1, cap1, pk1, ck1, pd1, cd1, q1, hvx, y0, y1, y2, y3, y4, y5⟩ := (HKS.out.keep HR.out.kept (fun b _ hb e => hb e)).sixS hu
      rw [HL.out] at q1
      injection q1 with q1 _ q1'
      subst q1 q1'
      have HU := Lib.hid (And.intro hu hvx)
      have HUM := Lib.hid (List.mem_of_getElem? hu)
      clear hu hvx
      go_wp2_with (first | (go_at_call 27; go_must (refine (HI.out.1 u HUM.out _ f _ (HR.out.at_.keep ((Kept.refl Nope wr).alloc _) (fun h => h)) (HU.out.2.keep ((Kept.refl Nope wr).alloc _) (fun _ _ _ h => h))).mono ?_; rintro e w5 ⟨x5, be5, rfl, hb5, he5, hat5, hk5⟩; obtain ⟨p5, c5, rfl⟩ := hb5.form; have H5 := Lib.hid (And.intro hb5 (And.intro he5 (And.intro hat5 (((Kept.refl Nope wr).alloc _).nope.trans' hk5)))); clear hb5 he5 hat5 hk5)) | (at_builtin; go_must (refine wpList_app_b _ (.tmp 67) (.tmp 70) rfl rfl (w.heap.size + 1) _ _ rfl (HR.out.row.keep H5.out.2.2.2 (fun b hb e => by have e' : b = f := e; have := HF.out.1.lt; omega)) _ _ _ rfl H5.out.1.bsl (by have h1 := HR.out.enc.len_take; have h2 := H5.out.2.1.len; have h3 := sumOf_room_mem HUM.out; have h4 := HI.out.2; omega) (by have h1 := HR.out.box.lt; have h2 := H5.out.2.2.2.size; have h3 := HAE.out; omega) ?_; intro p6 c6 w6 ha6; have H6 := Lib.hid ha6; clear ha6)))
      go_roundw
      case rel =>
        have hk6 := (HR.out.kept.trans' H5.out.2.2.2).trans H6.out.2.1 (fun b hb e => by have := (HR.out.row.own b e); omega)
        refine ⟨j + 1, bs ++ be5, by omega, by go_num, Lib.hid ⟨H5.out.2.2.1.keep H6.out.2.1 (fun e => by have h1 := HR.out.row.own _ e; have := HF.out.1.lt; omega), hk6, (HR.out.box.kept H5.out.2.2.2 (fun e => by have e' : A = f := e; have h1 := HAE.out; have := HF.out.1.lt; omega)).kept H6.out.2.1 (fun e => by have h1 := HR.out.row.own _ e; have h2 := HAE.out; omega), H6.out.1, ?_⟩⟩
        rw [take_snoc HU.out.1]
        exact HR.out.enc.snoc H5.out.2.1
      case measure => simp [RowKit.intOf]; omega
    · obtain rfl : j = n := by omega
      have hlt : ¬ (j : Int) < (j : Int) := by omega
      have a0 := HR.out.box.cell 0
      have a3 := HR.out.box.cell 3
      simp only [List.getElem?_toArray, List.getElem?_cons_zero, List.getElem?_cons_succ] at a0 a3
      have HEN := Lib.hid (show EncL v.kids bs by have h := HR.out.enc; rwa [List.take_of_length_le (by rw [HL.out]; exact Nat.le_refl _)] at h)
      by_cases hz : j = 0
      · subst hz
        go_wp2_with (first | (go_at_call 90; go_must (refine (lengthed_ok 0xc0 0xd0 _ bs ((0 : Nat) : Int) _ (HR.out.row.bsl.mono fun _ _ _ => trivial) (by have h1 := HEN.out.len; have h4 := HI.out.2; omega) (.inr ⟨by omega, by omega⟩)).mono ?_; rintro e w9 ⟨x9, rfl, hps9, hk9⟩; obtain ⟨l9, hr9, hl9⟩ := hps9; obtain ⟨p9, c9, rfl⟩ := hr9.form; have H9 := Lib.hid (And.intro hr9 (And.intro hl9 hk9)); have b3 := (HR.out.box.kept hk9 (fun h => h)).cell 3; simp only [List.getElem?_toArray, List.getElem?_cons_zero, List.getElem?_cons_succ] at b3; clear hr9 hl9 hk9)) | (at_builtin; go_must (refine wpList_app_p _ (.tmp 91) (.tmp 92) rfl rfl wr.heap.size _ _ rfl (PRow.lit ⟨69, [], .slice none 0 0⟩ H9.out.2.2.size (BSl.nil none 0 (by simp [maxLen]))) Any_ _ _ rfl ((H9.out.1.keep ((Kept.refl Nope _).alloc _) (fun _ _ h => h)).toC.mono fun _ _ => trivial) (lit_ok H9.out.1) (by have h := lenForms_len 0xc0 0xd0 bs ((0 : Nat) : Int); rw [← H9.out.2.1, List.length_map] at h; simp only [List.length_cons, List.length_nil]; omega) (by have h := H9.out.2.2.size; rw [World.size_alloc]; omega) ?_; intro p7 c7 w7 ha7; have H7 := Lib.hid ha7; clear ha7)))
        go_ret
        have hk7 := (H9.out.2.2.alloc (.cells #[.int .i64 69, .slice none 0 0] 170)).trans H7.out.2 (fun b hb e => by have e' := Option.some.inj e; dsimp only at e'; have := H9.out.2.2.size; omega)
        refine ⟨_, (0x45, []) :: lenForms 0xc0 0xd0 bs ((0 : Nat) : Int), rfl, PSl.mono ⟨_, H7.out.1, by rw [List.map_append, H9.out.2.1]; rfl⟩ HR.out.kept.size, ?_, HR.out.at_.keep hk7 (fun h => h), HR.out.kept.trans' hk7.nope⟩
        refine Forms.list0 ?_ (lenForms_len _ _ _ _) HF.out.2 (List.eq_nil_of_length_eq_zero HL.out)
        rw [← HL.out]
        exact Forms.kids (.inl HF.out.2) HEN.out (by rw [HF.out.2]; rfl) (by rw [HF.out.2]; rfl)
      · have hz' : ((j : Int) == 0) = false := by simp; omega
        clear hz
        go_wp2_with (go_at_call 90; go_must (refine (lengthed_ok 0xc0 0xd0 _ bs j _ (HR.out.row.bsl.mono fun _ _ _ => trivial) (by have h1 := HEN.out.len; have h4 := HI.out.2; omega) (.inr ⟨by omega, by omega⟩)).mono ?_; rintro e w9 ⟨x9, rfl, hps9, hk9⟩; obtain ⟨l9, hr9, hl9⟩ := hps9; obtain ⟨p9, c9, rfl⟩ := hr9.form; have H9 := Lib.hid (And.intro hr9 (And.intro hl9 hk9)); have b3 := (HR.out.box.kept hk9 (fun h => h)).cell 3; simp only [List.getElem?_toArray, List.getElem?_cons_zero, List.getElem?_cons_succ] at b3; clear hr9 hl9 hk9))
        go_ret
        refine ⟨_, _, rfl, PSl.mono ⟨l9, H9.out.1, H9.out.2.1⟩ HR.out.kept.size, ?_, HR.out.at_.keep H9.out.2.2 (fun h => h), HR.out.kept.trans' H9.out.2.2.nope⟩
        rw [← HL.out]
        exact Forms.kids (.inl HF.out.2) HEN.out (by rw [HF.out.2]; rfl) (by rw [HF.out.2]; rfl)
set_option maxRecDepth 100000 in
set_option maxHeartbeats 6400000 in
theorem pieces_22 (v : V) (f : Nat) (w : World) (x : Value) (h21 : v.kind = 22) (hl : v.kids.length ≤ 1000) (hroom : v.room ≤ 1000000000) (ih : ∀ k ∈ v.kids, PutOk k) (hf : FormsAt w f) (hx : VAgg (fun b => b ≠ f) w x v) :
    Calls Tryz.prog 59 #[.pointer (some ⟨f, 0, none⟩), x] w (PcPost f w (Forms v)) := by
  have hr := v.room_eq
  have HI := Lib.hid (And.intro ih (show sumOf V.room v.kids ≤ 1000000000 by omega))
  obtain ⟨ks, ds, rfl, hn, hks, hds⟩ := hx
  have HKS := Lib.hid hks
  obtain ⟨pk, ck, rfl, _⟩ := hks.form
  obtain ⟨pd, cd, rfl, _⟩ := hds.form
  have HF := Lib.hid (And.intro hf h21)
  obtain ⟨n, hnn⟩ : ∃ n, v.kids.length = n := ⟨_, rfl⟩
  have HL := Lib.hid hnn
  rw [hnn] at hl
  clear hks hds hn hf hr ih hroom
  unfold vagg
  rw [h21, hnn]
  clear h21 hnn
  go_enter Tryz.func59, Tryz.ntmps59
  go_wp2
  have hA := Blk.new w 92 #[.int .i64 22, .int .u64 v.num, .string v.text, .slice pk n ck, .int .i64 v.of_, .slice pd v.desc.length cd]
  have HK1 := Lib.hid ((Kept.refl Nope w).alloc (.cells #[.int .i64 22, .int .u64 v.num, .string v.text, .slice pk n ck, .int .i64 v.of_, .slice pd v.desc.length cd] 92))
  have HA := Lib.hid hA
  generalize w.alloc (.cells #[.int .i64 22, .int .u64 v.num, .string v.text, .slice pk n ck, .int .i64 v.of_, .slice pd v.desc.length cd] 92) = W1 at HA HK1 ⊢
  generalize hAe : w.heap.size = A at HA ⊢
  have HAE := Lib.hid hAe
  clear hA hAe
  go_loopw [5, 63] (fun d q w' => ∃ (j : Nat) (bs : List UInt8), j ≤ n ∧ q = .int .i64 j ∧ Hid (KInv v f w w' A #[.int .i64 22, .int .u64 v.num, .string v.text, .slice pk n ck, .int .i64 v.of_, .slice pd v.desc.length cd] d j bs)) (fun _ q _ => n - (RowKit.intOf q).toNat)
  case atStart => exact ⟨0, [], by omega, rfl, Lib.hid ⟨HF.out.1.keep HK1.out (fun h => h), HK1.out.nope, HA.out, BRow.nil _ _, .nil⟩⟩
  case round =>
    obtain ⟨j, bs, hj, rfl, HR⟩ := hrel
    obtain ⟨pb, cb, hb⟩ := HR.out.row.form
    subst hb
    by_cases hjn : j < n
    · have hjn' : (j : Int) < (n : Int) := by omega
      have hj0 : (0 : Int) ≤ (j : Int) := by omega
      have e1 : IntKind.i64.wrap ((j : Int) + 1) = (j : Int) + 1 := IntWalk.i64_in _ (by omega)
      obtain ⟨u, hu⟩ : ∃ u, v.kids[j]? = some u := ⟨v.kids[j]'(by rw [HL.out]; exact hjn), List.getElem?_eq_getElem _⟩
      obtain ⟨b1, off1, cap1, pk1, ck1, pd1, cd1, q1, hvx, y0, y1, y2, y3, y4, y5⟩ := (HKS.out.keep HR.out.kept (fun b _ hb e => hb e)).sixS hu
      rw [HL.out] at q1
      injection q1 with q1 _ q1'
      subst q1 q1'
      have HU := Lib.hid (And.intro hu hvx)
      have HUM := Lib.hid (List.mem_of_getElem? hu)
      clear hu hvx
      go_wp2_with (first | (go_at_call 27; go_must (refine (HI.out.1 u HUM.out _ f _ (HR.out.at_.keep ((Kept.refl Nope wr).alloc _) (fun h => h)) (HU.out.2.keep ((Kept.refl Nope wr).alloc _) (fun _ _ _ h => h))).mono ?_; rintro e w5 ⟨x5, be5, rfl, hb5, he5, hat5, hk5⟩; obtain ⟨p5, c5, rfl⟩ := hb5.form; have H5 := Lib.hid (And.intro hb5 (And.intro he5 (And.intro hat5 (((Kept.refl Nope wr).alloc _).nope.trans' hk5)))); clear hb5 he5 hat5 hk5)) | (at_builtin; go_must (refine wpList_app_b _ (.tmp 67) (.tmp 70) rfl rfl (w.heap.size + 1) _ _ rfl (HR.out.row.keep H5.out.2.2.2 (fun b hb e => by have e' : b = f := e; have := HF.out.1.lt; omega)) _ _ _ rfl H5.out.1.bsl (by have h1 := HR.out.enc.len_take; have h2 := H5.out.2.1.len; have h3 := sumOf_room_mem HUM.out; have h4 := HI.out.2; omega) (by have h1 := HR.out.box.lt; have h2 := H5.out.2.2.2.size; have h3 := HAE.out; omega) ?_; intro p6 c6 w6 ha6; have H6 := Lib.hid ha6; clear ha6)))
      go_roundw
      case rel =>
        have hk6 := (HR.out.kept.trans' H5.out.2.2.2).trans H6.out.2.1 (fun b hb e => by have := (HR.out.row.own b e); omega)
        refine ⟨j + 1, bs ++ be5, by omega, by go_num, Lib.hid ⟨H5.out.2.2.1.keep H6.out.2.1 (fun e => by have h1 := HR.out.row.own _ e; have := HF.out.1.lt; omega), hk6, (HR.out.box.kept H5.out.2.2.2 (fun e => by have e' : A = f := e; have h1 := HAE.out; have := HF.out.1.lt; omega)).kept H6.out.2.1 (fun e => by have h1 := HR.out.row.own _ e; have h2 := HAE.out; omega), H6.out.1, ?_⟩⟩
        rw [take_snoc HU.out.1]
        exact HR.out.enc.snoc H5.out.2.1
      case measure => simp [RowKit.intOf]; omega
    · obtain rfl : j = n := by omega
      have hlt : ¬ (j : Int) < (j : Int) := by omega
      have a0 := HR.out.box.cell 0
      have a3 := HR.out.box.cell 3
      simp only [List.getElem?_toArray, List.getElem?_cons_zero, List.getElem?_cons_succ] at a0 a3
      have HEN := Lib.hid (show EncL v.kids bs by have h := HR.out.enc; rwa [List.take_of_length_le (by rw [HL.out]; exact Nat.le_refl _)] at h)
      go_wp2_with (go_at_call 90; go_must (refine (lengthed_ok 0xc1 0xd1 _ bs j _ (HR.out.row.bsl.mono fun _ _ _ => trivial) (by have h1 := HEN.out.len; have h4 := HI.out.2; omega) (.inr ⟨by omega, by omega⟩)).mono ?_; rintro e w9 ⟨x9, rfl, hps9, hk9⟩; obtain ⟨l9, hr9, hl9⟩ := hps9; obtain ⟨p9, c9, rfl⟩ := hr9.form; have H9 := Lib.hid (And.intro hr9 (And.intro hl9 hk9)); clear hr9 hl9 hk9))
      go_ret
      refine ⟨_, _, rfl, PSl.mono ⟨l9, H9.out.1, H9.out.2.1⟩ HR.out.kept.size, ?_, HR.out.at_.keep H9.out.2.2 (fun h => h), HR.out.kept.trans' H9.out.2.2.nope⟩
      rw [← HL.out]
      exact Forms.kids (.inr HF.out.2) HEN.out (by rw [HF.out.2]; rfl) (by rw [HF.out.2]; rfl)
end Go.Proofs.YtbckofjoancdjaaGreatDoor
