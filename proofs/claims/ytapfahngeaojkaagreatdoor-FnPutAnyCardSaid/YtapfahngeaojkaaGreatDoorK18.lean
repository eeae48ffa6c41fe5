/- Package msgp: AppendMapStrIntf: a head, and each key with its value, the keys sorted. Package msgp: AppendIntf: for every plain value that fits it appends bytes that are read as it. -/
import Derived.Test.YtapfahngeaojkaaGreatDoorK15
import Derived.Test.YtapfahngeaojkaaGreatDoorK16
import Derived.Test.YtapfahngeaojkaaGreatDoorK17
import Derived.Test.YtapfahngeaojkaaGreatDoorK13
namespace Go.Proofs.YtapfahngeaojkaaGreatDoor
open Go Go.RowKit Go.Lib
def roomP (p : V × V) : Nat := p.1.room + p.2.room
theorem sum_perm {α : Type} (f : α → Nat) {l l' : List α} (h : l.Perm l') : sumOf f l = sumOf f l' := by
  induction h with
  | nil => rfl
  | cons x _ ih => simp [sumOf, ih]
  | swap x y l => simp [sumOf]; omega
  | trans _ _ h1 h2 => exact h1.trans h2
theorem pairs_room : ∀ (l : List V), l.length % 2 = 0 → sumOf roomP (pairs l) = sumOf V.room l
  | [], _ => rfl
  | [a], h => by simp at h
  | a :: b :: l, h => by
    have := pairs_room l (by simp only [List.length_cons] at h; omega)
    simp only [pairs, sumOf, roomP] at this ⊢
    omega
theorem sum_takeP {l : List (V × V)} {k : Nat} {x : V × V} (h : l[k]? = some x) : sumOf roomP (l.take (k + 1)) = sumOf roomP (l.take k) + roomP x := by
  rw [List.take_add_one, h, sumOf_append]
  simp [sumOf]
theorem sum_takeP_le {l : List (V × V)} (k : Nat) : sumOf roomP (l.take k) ≤ sumOf roomP l := by
  have h := sumOf_append roomP (l.take k) (l.drop k)
  rw [List.take_append_drop] at h
  omega
def Mid (M : Nat → Prop) (A B : Nat) : Nat → Prop := fun i => M i ∧ ¬ (A ≤ i ∧ i < B)
set_option maxRecDepth 100000 in
set_option maxHeartbeats 3200000 in
theorem mapIntf_ok (M : Nat → Prop) (v : V) (h9 : v.kind = 9) (hf : v.kids.length ≤ 2000) (hev : v.kids.length % 2 = 0) (hts : ∀ k ∈ v.kids, k.text.size ≤ 131072) (hd : ∀ (i j : Nat) (p q : V × V), (pairs v.kids)[i]? = some p → (pairs v.kids)[j]? = some q → p.1.text = q.1.text → i = j)
    (w : World) (b : Value) (bs : List UInt8) (mb : Nat) (es : List (Value × Value)) (hmb : ¬ M mb) (hm : MapAt w mb es) (hel : es.length = (pairs v.kids).length) (hek : ∀ (i : Nat) (e : Value × Value) (p : V × V), es[i]? = some e → (pairs v.kids)[i]? = some p → p.1.kind = 6 ∧ e.1 = .string p.1.text)
    (hex : ∀ (i : Nat) (e : Value × Value) (p : V × V), es[i]? = some e → (pairs v.kids)[i]? = some p → UAny (fun i => ¬ M i) w e.2 p.2) (hb : BRow M w b bs) (hl : bs.length + v.room ≤ 549755813888) (hbase : ∀ k, w.heap.size ≤ k → M k) (ih : ∀ k ∈ v.kids, ∀ M, IntfK M k) :
    Calls Tryz.prog 43 #[b, .map (some mb)] w (IntfQ M bs (PutS v) w) := by
  have hpl := pairs_len v.kids hev
  have hn0 : es.length ≤ 1000 := by omega
  have hen : (es.length : Int) ≤ 1000 := by omega
  have hkeys : es.map (·.1) = ((pairs v.kids).map fun p => bytesOf p.1.text).map encT := by
    apply List.ext_getElem?
    intro i
    rw [List.getElem?_map, List.getElem?_map, List.getElem?_map]
    by_cases hi : i < es.length
    · have h1 : es[i]? = some es[i] := List.getElem?_eq_getElem hi
      have h2 : (pairs v.kids)[i]? = some ((pairs v.kids)[i]'(by omega)) := List.getElem?_eq_getElem _
      rw [h1, h2]
      have h3 := (hek i _ _ h1 h2).2
      show some (es[i]).1 = some (encT (bytesOf _))
      unfold encT
      rw [bytes_eta, h3]
    · rw [List.getElem?_eq_none (by omega), List.getElem?_eq_none (by omega)]
      rfl
  have HB := Lib.hid (And.intro hb (And.intro hl hbase))
  have HM := Lib.hid (And.intro hm (And.intro hmb hkeys))
  have HE := Lib.hid (And.intro hek (And.intro hex hel))
  have HV := Lib.hid (And.intro h9 (And.intro hev (And.intro hts (And.intro hd ih))))
  clear hb hl hbase hm hmb hkeys hek hex hel h9 hev hts hd ih hpl
  go_enter Tryz.func43, Tryz.ntmps43
  go_wp2_with (first
    | (at_len; refine wpList_len_new rfl _ 56 rfl rfl HM.out.1 Tryz.underlying56 ?_)
    | (go_at_call 74; go_must (refine (AppendMapH_ok M _ _ bs es.length (by omega) HB.out.1 (by have := HB.out.2.1; omega) HB.out.2.2).mono ?_; rintro e w1 ⟨x1, hd, rfl, hh, hr, hk⟩; have H1 := Lib.hid (And.intro hh (And.intro hr hk)); clear hh hr hk))
    | (go_at_call 75; go_must (refine (keysOf_ok _ mb es _ (HM.out.1.keep H1.out.2.2 HM.out.2.1) HM.out.2.2 hn0).mono ?_; rintro e w2 ⟨x2, ts, rfl, hperm, hc, hk2⟩; obtain ⟨hcl, p2, c2, rfl, hc1, hc2, hcell⟩ := hc; unfold maxLen at hc2; have H2 := Lib.hid (And.intro hperm (And.intro hcell hk2)); clear hperm hcell hk2 hcl)))
  obtain ⟨l, hpl, hlt⟩ := perm_lift H2.out.1.symm (pairs v.kids) rfl
  have hln : ts.length = es.length := by rw [← hlt, List.length_map, ← hpl.length_eq, HE.out.2.2]
  obtain ⟨n, hn⟩ : ∃ n, ts.length = n := ⟨_, rfl⟩
  rw [hn] at hln hc1 ⊢
  have HN := Lib.hid (And.intro hn (And.intro hln (And.intro hpl hlt)))
  have hn1 : n ≤ 1000 := by omega
  clear hn hln hpl hlt
  have hrow1 : BRow (Mid M w1.heap.size w2.heap.size) w2 x1 (bs ++ hd) := ⟨(H1.out.2.1.nope H2.out.2.2).1, fun k hk => ⟨H1.out.2.1.2 k hk, fun h => by have := (H1.out.2.1.1.lt k hk).2; omega⟩⟩
  have HR1 := Lib.hid hrow1
  clear hrow1
  go_loopw [0, 7, 20] (fun b' e c w' => ∃ (k : Nat) (d : List UInt8), k ≤ n ∧ c = .int .i64 k ∧ e = .nilIface ∧ Hid (BRow (Mid M w1.heap.size w2.heap.size) w' b' (bs ++ hd ++ d) ∧ PutM (l.take k) d ∧ d.length ≤ sumOf roomP (l.take k) ∧ Kept (Mid M w1.heap.size w2.heap.size) w2 w')) (fun _ _ c _ => n - (RowKit.intOf c).toNat)
  case atStart => exact ⟨0, [], by omega, rfl, rfl, Lib.hid ⟨by rw [List.append_nil]; exact HR1.out, PutM.nil, by simp, Kept.refl _ _⟩⟩
  case round =>
    obtain ⟨k, d, hk, rfl, rfl, HR⟩ := hrel
    have HK := Lib.hid ((H1.out.2.2.trans' H2.out.2.2.nope).trans HR.out.2.2.2 fun i _ h => h.1)
    by_cases hkn : k < n
    · have hkn' : (k : Int) < (n : Int) := by omega
      have hk0 : (0 : Int) ≤ (k : Int) := by omega
      have e1 : IntKind.i64.wrap ((k : Int) + 1) = (k : Int) + 1 := IntWalk.i64_in _ (by omega)
      have hll : l.length = n := by have := HN.out; rw [← this.2.2.1.length_eq, ← HE.out.2.2, this.2.1]
      obtain ⟨p, hp⟩ : ∃ u, l[k]? = some u := ⟨l[k]'(by omega), List.getElem?_eq_getElem _⟩
      have htk : ts[k]? = some (bytesOf p.1.text) := by rw [← HN.out.2.2.2, List.getElem?_map, hp]; rfl
      obtain ⟨q, hq⟩ := List.mem_iff_getElem?.1 (HN.out.2.2.1.mem_iff.2 (List.mem_of_getElem? hp))
      have hmem := pairs_mem (List.mem_of_getElem? hq)
      obtain ⟨ek, hek⟩ : ∃ e, es[q]? = some e := ⟨_, List.getElem?_eq_getElem (by rw [HE.out.2.2]; exact (List.getElem?_eq_some_iff.1 hq).1)⟩
      obtain ⟨h6, hkey⟩ := HE.out.1 q ek p hek hq
      obtain ⟨y, hy⟩ : ∃ y, ek.2 = y := ⟨_, rfl⟩
      obtain ⟨T, hT⟩ : ∃ T, p.1.text = T := ⟨_, rfl⟩
      have hekt : es[q]? = some (.string T, y) := by rw [hek, ← hT, ← hkey, ← hy]
      obtain ⟨g, off, rfl, hg, hcell⟩ : ∃ g off, p2 = some ⟨g, off, none⟩ ∧ (w1.heap.size ≤ g ∧ g < w2.heap.size) ∧ w2.cell? ⟨g, off + k, none⟩ = some (.string T) := by
        rcases H2.out.2.1 with h0 | ⟨g, off, h1, h2, h3⟩
        · rw [HN.out.1] at h0; omega
        · have h4 := h3 k (encT (bytesOf p.1.text)) (by rw [List.getElem?_map, htk]; rfl)
          exact ⟨g, off, h1, ⟨h2, World.block_lt_of_cell? w2 _ h4⟩, by rw [h4]; unfold encT; rw [bytes_eta, hT]⟩
      have y0 : wr.cell? ⟨g, off + k, none⟩ = some (.string T) := HR.out.2.2.2.cell hcell (fun h => h.2 hg)
      have hlk : (Instr.lookup 56 (.map (some mb)) (.string T) false).run Tryz.prog wr = .ok y wr := lookup_text (HM.out.1.keep HK.out HM.out.2.1) hekt (fun e he => by
        obtain ⟨i, hi⟩ := List.mem_iff_getElem?.1 he
        have hil := (List.getElem?_eq_some_iff.1 hi).1
        exact ⟨_, (HE.out.1 i e _ hi (List.getElem?_eq_getElem (by rw [← HE.out.2.2]; exact hil))).2⟩) (fun e he h => by
        obtain ⟨i, hi⟩ := List.mem_iff_getElem?.1 he
        have hil := (List.getElem?_eq_some_iff.1 hi).1
        have hpi : (pairs v.kids)[i]? = some ((pairs v.kids)[i]'(by rw [← HE.out.2.2]; exact hil)) := List.getElem?_eq_getElem _
        have h2 := (HE.out.1 i e _ hi hpi).2
        rw [h] at h2
        injection h2 with h2
        have h3 := HV.out.2.2.2.1 i q _ p hpi hq (by rw [hT]; exact h2.symm)
        subst h3
        rw [hi] at hekt
        cases hekt
        rfl)
      have hUA : UAny (fun i => ¬ Mid M w1.heap.size w2.heap.size i) wr y p.2 := by
        rw [← hy]
        exact ((HE.out.2.1 q ek p hek hq).keep HK.out (fun _ _ h h2 => h h2)).mono fun i _ h h2 => h h2.1
      have hbnd : (bs ++ hd ++ d).length + p.1.room + p.2.room ≤ 549755813888 ∧ T.size ≤ 131072 ∧ T.size + 20 ≤ p.1.room := by
        have h1 := sum_takeP hp
        have h2 := sum_takeP_le (l := l) (k + 1)
        have h3 := v.room_eq
        have h4 := HB.out.2.1
        have h5 := H1.out.1.len
        have h6 := HR.out.2.2.1
        have h7 := sum_perm roomP HN.out.2.2.1
        have h8 := pairs_room v.kids HV.out.2.1
        have h9 := p.1.room_eq
        have h10 := HV.out.2.2.1 p.1 hmem.1
        have h0 : roomP p = p.1.room + p.2.room := rfl
        rw [List.length_append, List.length_append]
        rw [hT] at h9 h10
        refine ⟨by omega, h10, by omega⟩
      have HP := Lib.hid (And.intro hp (And.intro hmem (And.intro h6 (And.intro hT (And.intro hUA hbnd)))))
      have HS := Lib.hid (And.intro HN.out (And.intro hll hg))
      clear hp htk hq hmem hek h6 hkey hy hT hekt hcell hUA hbnd hll hg
      go_wp2_with (first
        | (go_at_call 31; go_must (refine (AppendString_ok (Mid M w1.heap.size w2.heap.size) _ _ _ T (by have := HP.out.2.2.2.2.2.2.1; omega) HR.out.1 (by have := HP.out.2.2.2.2.2.1; omega) (fun i h => ⟨HB.out.2.2 i (Nat.le_trans HK.out.size h), fun h2 => by have := HR.out.2.2.2.size; omega⟩)).mono ?_; rintro e w3 ⟨x3, d1, rfl, ht3, hr3, hk3⟩; have H3 := Lib.hid (And.intro ht3 (And.intro hr3 hk3)); clear ht3 hr3 hk3))
        | (go_at_call 13; go_must (refine (HV.out.2.2.2.2 p.2 HP.out.2.1.2 (Mid M w1.heap.size w2.heap.size) _ _ _ _ (HP.out.2.2.2.2.1.keep H3.out.2.2 (fun _ _ h h2 => h h2)) H3.out.2.1 (by have h1 := HP.out.2.2.2.2.2; have h2 := H3.out.1.len; rw [List.length_append]; omega) (fun i h => ⟨HB.out.2.2 i (Nat.le_trans HK.out.size (Nat.le_trans H3.out.2.2.size h)), fun h2 => by have := HR.out.2.2.2.size; have := H3.out.2.2.size; omega⟩)).mono ?_; rintro e w4 ⟨x4, d2, rfl, ⟨hp4, hl4⟩, hr4, hk4⟩; have H4 := Lib.hid (And.intro hp4 (And.intro hl4 (And.intro hr4 hk4))); clear hp4 hl4 hr4 hk4)))
      go_roundw
      case rel =>
        refine ⟨k + 1, d ++ d1 ++ d2, by omega, by go_num, rfl, Lib.hid ⟨?_, ?_, ?_, (HR.out.2.2.2.trans' H3.out.2.2).trans' H4.out.2.2.2⟩⟩
        · have h := H4.out.2.2.1
          rw [List.append_assoc (bs ++ hd) d d1, List.append_assoc (bs ++ hd) (d ++ d1) d2] at h
          exact h
        · rw [List.take_add_one, HP.out.1]
          exact HR.out.2.1.snoc HP.out.2.2.1 (TxtB.enc HP.out.2.2.1 (by rw [HP.out.2.2.2.1]; exact H3.out.1)) H4.out.1
        · have h1 := sum_takeP HP.out.1
          have h2 := H3.out.1.len
          have h3 := H4.out.2.1
          have h4 := HR.out.2.2.1
          have h5 := HP.out.2.2.2.2.2
          have h0 : roomP p = p.1.room + p.2.room := rfl
          rw [List.length_append, List.length_append]
          omega
      case measure => simp [RowKit.intOf]; omega
    · obtain rfl : k = n := by omega
      have hlt : ¬ (k : Int) < (k : Int) := by omega
      go_wp2
      go_ret2
      have hll : l.length = k := by have := HN.out; rw [← this.2.2.1.length_eq, ← HE.out.2.2, this.2.1]
      have h1 := HR.out
      rw [List.take_of_length_le (by omega)] at h1
      refine ⟨_, hd ++ d, rfl, ⟨MapH.put HV.out.1 HN.out.2.2.1 (by rw [hll, HN.out.2.1]; exact H1.out.1) h1.2.1, ?_⟩, ⟨by rw [← List.append_assoc]; exact h1.1.1, fun i h => (h1.1.2 i h).1⟩, HK.out⟩
      have h3 := v.room_eq
      have h5 := H1.out.1.len
      have h6 := h1.2.2.1
      have h7 := sum_perm roomP HN.out.2.2.1
      have h8 := pairs_room v.kids HV.out.2.1
      rw [List.length_append]
      omega
end Go.Proofs.YtapfahngeaojkaaGreatDoor
namespace Go.Proofs.YtapfahngeaojkaaGreatDoor
open Go Go.RowKit Go.Lib
theorem small {v : V} {ds : List UInt8} (h : PutR v ds) (hl : ds.length ≤ 20) : PutS v ds := ⟨h, by have := v.room_eq; omega⟩
theorem AppendInt64_ok (M : Nat → Prop) (w : World) (b : Value) (bs : List UInt8) (v : V) (h : v.kind = 2) (hn : 0 ≤ v.num ∧ v.num < 18446744073709551616) (hv : BRow M w b bs) (hl : bs.length ≤ 549755813888) (hb : ∀ k, w.heap.size ≤ k → M k) :
    Calls Tryz.prog 36 #[b, .int .i64 (IntKind.i64.wrap v.num)] w (AppQ M bs (PutS v) w) := by
  have hN : ((v.num.toNat : Nat) : Int) = v.num := Int.toNat_of_nonneg hn.1
  by_cases hs : v.num < 9223372036854775808
  · have e : IntKind.i64.wrap v.num = ((v.num.toNat : Nat) : Int) := by rw [IntWalk.i64_in _ (by omega)]; exact hN.symm
    rw [e]
    rcases (show v.num ≤ 127 ∨ (127 < v.num ∧ v.num ≤ 32767) ∨ (32767 < v.num ∧ v.num ≤ 2147483647) ∨ 2147483647 < v.num by omega) with g | ⟨g, g'⟩ | ⟨g, g'⟩ | g
    · exact (AppendInt_fix M w b bs v.num.toNat (by omega) hv hl hb).mono fun e w' hp => hp.q (small (put_fix (.inl h) hn.1 (by omega)) (by simp))
    · exact (AppendInt_p16 M w b bs _ v.num.toNat (.inl rfl) (by omega) (by omega) hv hl hb).mono fun e w' hp => hp.q (small (put_inum h (.inr (.inl ⟨rfl, rfl⟩)) hn.1 hn.2 (.inl (by omega))) (by simp))
    · exact (AppendInt_p32 M w b bs _ v.num.toNat (.inl rfl) (by omega) (by omega) hv hl hb).mono fun e w' hp => hp.q (small (put_inum h (.inr (.inr (.inl ⟨rfl, rfl⟩))) hn.1 hn.2 (.inl (by omega))) (by simp))
    · exact (AppendInt_p64 M w b bs _ v.num.toNat (.inl rfl) (by omega) (by omega) hv hl hb).mono fun e w' hp => hp.q (small (put_inum h (.inr (.inr (.inr ⟨rfl, rfl⟩))) hn.1 hn.2 (.inl (by omega))) (by simp))
  · have e : IntKind.i64.wrap v.num = v.num - 18446744073709551616 := by rw [IntKind.wrap_i64]; omega
    rw [e]
    have hN2 : ((v.num.toNat : Nat) : Int) = v.num - 18446744073709551616 + 18446744073709551616 := by omega
    rcases (show 18446744073709551584 ≤ v.num ∨ (18446744073709551488 ≤ v.num ∧ v.num < 18446744073709551584) ∨ (18446744073709518848 ≤ v.num ∧ v.num < 18446744073709551488) ∨ (18446744071562067968 ≤ v.num ∧ v.num < 18446744073709518848) ∨ v.num < 18446744071562067968 by omega) with g | ⟨g, g'⟩ | ⟨g, g'⟩ | ⟨g, g'⟩ | g
    · exact (AppendInt_neg M w b bs _ v.num.toNat hN2 (by omega) (by omega) hv hl hb).mono fun e w' hp => hp.q (small (put_neg h g hn.2) (by simp))
    · exact (AppendInt_n8 M w b bs _ v.num.toNat (.inr hN2) (by omega) (by omega) hv hl hb).mono fun e w' hp => hp.q (small (put_inum h (.inl ⟨rfl, rfl⟩) hn.1 hn.2 (.inr (by omega))) (by simp))
    · exact (AppendInt_n16 M w b bs _ v.num.toNat (.inr hN2) (by omega) (by omega) hv hl hb).mono fun e w' hp => hp.q (small (put_inum h (.inr (.inl ⟨rfl, rfl⟩)) hn.1 hn.2 (.inr (by omega))) (by simp))
    · exact (AppendInt_n32 M w b bs _ v.num.toNat (.inr hN2) (by omega) (by omega) hv hl hb).mono fun e w' hp => hp.q (small (put_inum h (.inr (.inr (.inl ⟨rfl, rfl⟩))) hn.1 hn.2 (.inr (by omega))) (by simp))
    · exact (AppendInt_n64 M w b bs _ v.num.toNat (.inr hN2) (by omega) (by omega) hv hl hb).mono fun e w' hp => hp.q (small (put_inum h (.inr (.inr (.inr ⟨rfl, rfl⟩))) hn.1 hn.2 (.inr (by omega))) (by simp))
theorem AppendUint64_ok (M : Nat → Prop) (w : World) (b : Value) (bs : List UInt8) (v : V) (h : v.kind = 3) (hn : 0 ≤ v.num ∧ v.num < 18446744073709551616) (hv : BRow M w b bs) (hl : bs.length ≤ 549755813888) (hb : ∀ k, w.heap.size ≤ k → M k) :
    Calls Tryz.prog 37 #[b, .int .u64 v.num] w (AppQ M bs (PutS v) w) := by
  have hN : v.num = ((v.num.toNat : Nat) : Int) := (Int.toNat_of_nonneg hn.1).symm
  rw [hN]
  rcases (show v.num ≤ 127 ∨ (127 < v.num ∧ v.num ≤ 255) ∨ (255 < v.num ∧ v.num ≤ 65535) ∨ (65535 < v.num ∧ v.num ≤ 4294967295) ∨ 4294967295 < v.num by omega) with g | ⟨g, g'⟩ | ⟨g, g'⟩ | ⟨g, g'⟩ | g
  · exact (AppendUint_fix M w b bs v.num.toNat (by omega) hv hl hb).mono fun e w' hp => hp.q (small (put_fix (.inr h) hn.1 (by omega)) (by simp))
  · exact (AppendUint_8 M w b bs v.num.toNat (by omega) (by omega) hv hl hb).mono fun e w' hp => hp.q (small (put_unum h (.inl ⟨rfl, rfl⟩) hn.1 (by omega)) (by simp))
  · exact (AppendUint_16 M w b bs v.num.toNat (by omega) (by omega) hv hl hb).mono fun e w' hp => hp.q (small (put_unum h (.inr (.inl ⟨rfl, rfl⟩)) hn.1 (by omega)) (by simp))
  · exact (AppendUint_32 M w b bs v.num.toNat (by omega) (by omega) hv hl hb).mono fun e w' hp => hp.q (small (put_unum h (.inr (.inr (.inl ⟨rfl, rfl⟩))) hn.1 (by omega)) (by simp))
  · exact (AppendUint_64 M w b bs v.num.toNat (by omega) (by omega) hv hl hb).mono fun e w' hp => hp.q (small (put_unum h (.inr (.inr (.inr ⟨rfl, rfl⟩))) hn.1 (by omega)) (by simp))
theorem AppendBool_ok (M : Nat → Prop) (w : World) (b : Value) (bs : List UInt8) (v : V) (h : v.kind = 1) (h0 : 0 ≤ v.num) (h1 : v.num ≤ 1) (hv : BRow M w b bs) (hl : bs.length ≤ 549755813888) (hb : ∀ k, w.heap.size ≤ k → M k) :
    Calls Tryz.prog 26 #[b, .bool (v.num != 0)] w (AppQ M bs (PutS v) w) := by
  have hp := put_bool h h0 h1
  rcases (show v.num = 0 ∨ v.num = 1 by omega) with g | g
  · rw [g] at hp ⊢
    exact (AppendBool_0 M w b bs hv hl hb).mono fun e w' hq => hq.q (small hp (by simp))
  · rw [g] at hp ⊢
    exact (AppendBool_1 M w b bs hv hl hb).mono fun e w' hq => hq.q (small hp (by simp))
theorem AppQ.imp {M : Nat → Prop} {bs : List UInt8} {R R' : List UInt8 → Prop} {w w' : World} {e : Ending} (h : AppQ M bs R w e w') (hR : ∀ d, R d → R' d) : AppQ M bs R' w e w' := by
  obtain ⟨x', ds, h1, h2, h3⟩ := h
  exact ⟨x', ds, h1, hR _ h2, h3⟩
theorem plain_keys {v : V} (hp : PPlain v) (h9 : v.kind = 9) (i j : Nat) (p q : V × V) (hi : (pairs v.kids)[i]? = some p) (hj : (pairs v.kids)[j]? = some q) (ht : p.1.text = q.1.text) : i = j := by
  cases hp with
  | mk _ _ hk =>
    rcases Nat.lt_trichotomy i j with h | h | h
    · exact absurd ht ((hk h9 j _ (pairs_at _ _ _ hj).1).2 i _ h (pairs_at _ _ _ hi).1)
    · exact h
    · exact absurd ht.symm ((hk h9 i _ (pairs_at _ _ _ hi).1).2 j _ h (pairs_at _ _ _ hj).1)
theorem Intf_any : ∀ (n : Nat) (v : V), SizeOf.sizeOf v ≤ n → ∀ (L : Nat), PFits L v → PPlain v → Nums v → ∀ M, IntfK M v := by
  intro n
  induction n using Nat.strongRecOn with
  | _ n ih =>
    intro v hn L hf hp hnu M W b y bs hy hb hl hbase
    have ho := hf.own
    have hnum := hnu.num
    have hl2 : bs.length ≤ 549755813888 := by omega
    have hr := v.room_eq
    have hih : ∀ k ∈ v.kids, ∀ M, IntfK M k := by
      intro k hk
      cases hf with
      | mk _ hfk =>
        cases hp with
        | mk _ hpk _ =>
          cases hnu with
          | mk _ _ _ hnk => exact ih (SizeOf.sizeOf k) (by have := V.sizeOf_kid hk; omega) k (Nat.le_refl _) _ (hfk k hk) (hpk k hk) (hnk k hk)
    have hts : ∀ k ∈ v.kids, k.text.size ≤ 131072 := by
      intro k hk
      cases hf with
      | mk _ hfk => exact (hfk k hk).own.size
    cases hy with
    | nil h => exact intf_nil M W b bs _ ((AppendNil_ok M W b bs hb hl2 hbase).mono fun e w' hq => hq.q (small (put_nil h) (by simp)))
    | bool h => exact intf_bool M W b _ bs _ (AppendBool_ok M W b bs v h hnum.1 (ho.flag h) hb hl2 hbase)
    | int h => exact intf_i64 M W b _ bs _ (AppendInt64_ok M W b bs v h hnum hb hl2 hbase)
    | uint h => exact intf_u64 M W b _ bs _ (AppendUint64_ok M W b bs v h hnum hb hl2 hbase)
    | f32 h => exact intf_f32 M W b _ bs _ ((AppendFloat32_ok M W b bs v.num.toNat (by have := ho.n4 h; omega) hb hl2 hbase).mono fun e w' hq => hq.q (small (put_f32 h hnum.1 (ho.n4 h)) (by simp)))
    | f64 h => exact intf_f64 M W b _ bs _ ((AppendFloat64_ok M W b bs v.num.toNat (by omega) hb hl2 hbase).mono fun e w' hq => hq.q (small (put_f64 h hnum.1 hnum.2) (by simp)))
    | text h => exact intf_string M W b _ bs _ ((AppendString_ok M W b bs v.text (by have := ho.size; omega) hb hl2 hbase).mono fun e w' hq => hq.imp fun d hd => ⟨put_text h hd, by have := hd.len; omega⟩)
    | bin h hs =>
      have hlen : (bytesOf v.text).length = v.text.size := rfl
      exact intf_bytes M W b _ bs _ ((AppendBytes_ok M W b bs _ _ hs (by have := ho.size; omega) hb hl2 hbase).mono fun e w' hq => hq.imp fun d hd => by
        obtain ⟨c, s, hc, h1, rfl⟩ := hd
        refine ⟨put_bin h hc h1, ?_⟩
        have := sz_b hc
        rw [List.length_cons, List.length_append, be_length]
        omega)
    | arr h hs hx => exact intf_arr M v h ho.few W b _ bs _ hs hx hb hl hbase (fun k hk => hih k hk M)
    | map h hmb hm hel hek hex => exact intf_mStr M W b _ bs _ (mapIntf_ok M v h ho.few (ho.even h) hts (plain_keys hp h) W b bs _ _ hmb hm hel hek hex hb hl hbase hih)
end Go.Proofs.YtapfahngeaojkaaGreatDoor
