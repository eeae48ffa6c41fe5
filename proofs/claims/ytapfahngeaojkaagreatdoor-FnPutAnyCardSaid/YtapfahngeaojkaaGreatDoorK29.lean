/- Package spec: takeKids: a row of its own of kids. -/
import Derived.OwnWalk
import Derived.Test.YtapfahngeaojkaaGreatDoorK24
namespace Go.Proofs.YtapfahngeaojkaaGreatDoor
open Go Go.RowKit Go.Lib
theorem CSl.one_five {W : World} (a : KLay) {g : Nat} (hg : W.heap.size = g) : CSl Any_ (W.alloc (.cells a.cells.toArray 26)) 5 (.slice (some ⟨g, 0, none⟩) 1 1) 1 a.cells := by
  subst hg
  refine ⟨rfl, _, 1, rfl, Nat.le_refl _, by decide, .inr ⟨W.heap.size, 0, rfl, trivial, fun j u hu => ?_⟩⟩
  rw [(Blk.new W 26 a.cells.toArray).cell, Nat.zero_add]
  simpa using hu
theorem ownsRow_form5 {w : World} {base : Nat} {e : TypeId} {size n : Nat} {x : Value} {xs : List Value} (h : w.ownsRow base e size x n xs) : ∃ p c, x = .slice p n c := by
  rcases h.2 with ⟨rfl, e⟩ | ⟨g, cap, cur, rfl, _⟩
  · exact ⟨none, 0, by rw [e]⟩
  · exact ⟨_, _, rfl⟩
structure KInv (kd : Int) (rs : List V) (W2 : World) (c k : Nat) (la : List KLay) (x : Value) (w' : World) : Prop where
  lt : c < W2.heap.size
  kept : Kept (Only c) W2 w'
  cell : Blk w' c 26 #[.int .i64 kd, .int .u64 0, .string ⟨#[]⟩, .int .i64 0, x]
  own : w'.ownsRow W2.heap.size 26 5 x la.length (la.flatMap KLay.cells)
  ok : ∀ a ∈ la, a.Ok (fun b => W2.heap.size ≤ b ∧ x.ownBlock ≠ some b) w'
  len : la.length = k
  val : la.map KLay.v = rs.take k
namespace KInv
variable {kd : Int} {rs : List V} {W2 w1 w2 : World} {c k : Nat} {la : List KLay} {x x' : Value}
theorem ne (h : KInv kd rs W2 c k la x w1) : x.ownBlock ≠ some c := fun e => by have := (h.own.lt c e).1; have := h.lt; omega
theorem nope (h : KInv kd rs W2 c k la x w1) (hk : Kept Nope w1 w2) : KInv kd rs W2 c k la x w2 :=
  ⟨h.lt, h.kept.trans hk fun _ _ h => h.elim, h.cell.kept hk (fun h => h), ownsRow_keep h.own hk fun _ _ h => h, fun a ha => (h.ok a ha).keep hk fun _ _ _ h => h, h.len, h.val⟩
theorem step {a : KLay} {u : V} (h : KInv kd rs W2 c k la x w1) (hu : rs[k]? = some u) (ha : a.Ok (fun b => W2.heap.size ≤ b ∧ x.ownBlock ≠ some b) w1) (hav : a.v = u)
    (h2 : w2.ownsRow W2.heap.size 26 5 x' (la.length + 1) (la.flatMap KLay.cells ++ a.cells)) (hg : w1.grownBy w2 x.ownBlock) (h4 : x'.ownBlock = x.ownBlock ∨ x'.ownBlock = some w1.heap.size) :
    KInv kd rs W2 c (k + 1) (la ++ [a]) x' (w2.setCell ⟨c, 4, none⟩ x') := by
  have hkg : Kept (fun b => x.ownBlock = some b) w1 w2 := ⟨hg.os, hg.tape, hg.output, hg.size, fun k hk hn => hg.block k hk (fun e => hn e.symm)⟩
  have hks : Kept (Only c) w2 (w2.setCell ⟨c, 4, none⟩ x') := (Kept.refl _ _).set1 4 x'
  have hlt := h.lt
  refine ⟨h.lt, ?_, ?_, ?_, fun b hb => ?_, by rw [List.length_append, h.len]; rfl, by rw [List.map_append, h.val, List.take_add_one, hu]; simp [hav]⟩
  · exact (h.kept.trans hkg fun b hb e => by have := (h.own.lt b e).1; omega).trans' hks
  · simpa using (h.cell.kept hkg (fun e => h.ne e)).set_ 4 x'
  · have h3 := ownsRow_keep h2 hks (fun b hb e => by have e' : b = c := e; have := (h2.lt b hb).1; omega)
    simpa using h3
  · have hok : b.Ok (fun i => W2.heap.size ≤ i ∧ x.ownBlock ≠ some i) w1 := by
      rcases List.mem_append.1 hb with h1 | h1
      · exact h.ok b h1
      · rw [List.mem_singleton.1 h1]; exact ha
    have h5 := (hok.mono (S' := fun i => (W2.heap.size ≤ i ∧ x.ownBlock ≠ some i) ∧ i < w1.heap.size) fun i hi hS => ⟨hS, hi⟩).keep hkg fun i _ hi hm => hi.1.2 hm
    refine (h5.keep hks fun i _ hi e => by have e' : i = c := e; have := hi.1.1; omega).mono fun i _ hi => ⟨hi.1.1, ?_⟩
    rcases h4 with e | e
    · rw [e]; exact hi.1.2
    · rw [e]
      intro e'
      have : w1.heap.size = i := by injection e'
      have := hi.2
      omega
theorem form (h : KInv kd rs W2 c k la x w1) : ∃ p o, x = .slice p la.length o := ownsRow_form5 h.own
theorem start (hlt : c < W2.heap.size) (hc : Blk W2 c 26 #[.int .i64 kd, .int .u64 0, .string ⟨#[]⟩, .int .i64 0, .slice none 0 0]) : KInv kd rs W2 c 0 [] (.slice none 0 0) W2 :=
  ⟨hlt, Kept.refl _ _, hc, World.ownsRow_nil _ _ _ _, (fun _ h => by cases h), rfl, rfl⟩
theorem agg (h : KInv kd rs W2 c rs.length la x w1) (hn : KNum (.mk kd 0 ⟨#[]⟩ rs 0 [])) : KAgg (fun b => W2.heap.size ≤ b) w1 (.agg #[.int .i64 kd, .int .u64 0, .string ⟨#[]⟩, .int .i64 0, x]) (.mk kd 0 ⟨#[]⟩ rs 0 []) := by
  have h1 := KSl.ofOwn (S := fun b => W2.heap.size ≤ b) h.own (fun b hb => (h.own.lt b hb).1) fun a ha => (h.ok a ha).mono fun b _ hb => hb.1
  rw [h.val, List.take_length] at h1
  exact ⟨x, rfl, hn, h1⟩
end KInv
def TakeK (S : Nat → Prop) (r : V) (D : List UInt8) (W : World) : Ending → World → Prop := TakeP S (fun x w' => KAgg (fun b => W.heap.size ≤ b) w' x r) D W
set_option maxRecDepth 100000 in
set_option maxHeartbeats 3200000 in
theorem takeKids_ok (S : Nat → Prop) (w : World) (s : Value) (kd L : Int) (rs : List V) (d D : List UInt8) (hs : BSl S w s (d ++ D)) (he : PEncL rs d) (hlen : (d ++ D).length ≤ 1099511627776) (hn : rs.length ≤ 1099511627776) (hkn : KNum (.mk kd 0 ⟨#[]⟩ rs 0 [])) (hL : 0 ≤ L ∧ L ≤ 1000)
    (ih : ∀ u, u ∈ rs → ∀ (S : Nat → Prop) (W : World) (y : Value) (p D' : List UInt8), PEnc u p → BSl S W y (p ++ D') → (p ++ D').length ≤ 1099511627776 → Calls Tryz.prog 10 #[y, .int .i64 (L - 1)] W (TakeK S u D' W)) :
    Calls Tryz.prog 17 #[.int .i64 kd, .int .i64 rs.length, s, .int .i64 L] w (TakeK S (.mk kd 0 ⟨#[]⟩ rs 0 []) D w) := by
  obtain ⟨i1, hi, hz0, hz1, hz2⟩ := info_parts info_Pack
  have hs2 : BSl (fun i => S i ∧ i < w.heap.size) w s (d ++ D) := hs.mono fun i h1 h2 => ⟨h2, h1⟩
  obtain ⟨n, hnn⟩ : ∃ n, rs.length = n := ⟨_, rfl⟩
  have HL := Lib.hid hnn
  have HI := Lib.hid ih
  have HKN := Lib.hid hkn
  have HLEN := Lib.hid hlen
  have e0 : IntKind.i64.wrap (L - 1) = L - 1 := IntWalk.i64_in _ (by omega)
  have he' := he
  rw [hnn] at hn ⊢
  clear hs hnn ih hkn hlen he
  have HS0 := Lib.hid (And.intro hs2 he')
  clear hs2 he'
  go_enter Tryz.func17, Tryz.ntmps17
  go_wp2
  obtain ⟨P, hP⟩ : ∃ P, w.heap.size = P := ⟨_, rfl⟩
  obtain ⟨W2, hW2⟩ : ∃ W2, (w.alloc (.cells #[.int .i64 0, .int .u64 0, .string ⟨#[]⟩, .int .i64 0, .slice none 0 0] 26)).alloc (.cells #[.int .i64 kd, .int .u64 0, .string ⟨#[]⟩, .int .i64 0, .slice none 0 0] 26) = W2 := ⟨_, rfl⟩
  have h2 := Blk.two w #[.int .i64 0, .int .u64 0, .string ⟨#[]⟩, .int .i64 0, .slice none 0 0] #[.int .i64 kd, .int .u64 0, .string ⟨#[]⟩, .int .i64 0, .slice none 0 0] 26
  have hz : W2.heap.size = P + 2 := by rw [← hW2, ← hP]; simp
  rw [hW2, hP] at h2
  have HS := Lib.hid (HS0.out.1.keep h2.2.2 fun _ _ _ h => h)
  have HE := Lib.hid (show PEncL (rs.drop 0) d from HS0.out.2)
  have H2 := Lib.hid (And.intro h2 (And.intro hP hz))
  rw [hW2, hP]
  clear hz h2 hW2 hP
  go_loopw [2, 12] (fun s q w' => ∃ (k : Nat) (la : List KLay) (x : Value) (d' : List UInt8) (sa : Option Addr) (sm sc : Nat), k ≤ n ∧ q = .int .i64 k ∧ s = .slice sa sm sc ∧ Hid (KInv kd rs W2 (P + 1) k la x w') ∧ Hid (PEncL (rs.drop k) d') ∧ Hid (BSl (fun i => S i ∧ i < w.heap.size) w' (.slice sa sm sc) (d' ++ D)) ∧ Hid ((d' ++ D).length ≤ 1099511627776)) (fun _ q _ => n - (RowKit.intOf q).toNat)
  case atStart => obtain ⟨sa, sc, e, _⟩ := id HS.out; exact ⟨0, [], _, d, sa, _, sc, by omega, rfl, e, Lib.hid (KInv.start (by have := H2.out; omega) H2.out.1.2.1), HE, Lib.hid (e ▸ HS.out), HLEN⟩
  case round =>
    obtain ⟨k, la, x, d', sa, sm, sc, hk, rfl, rfl, HN, HE', HS', HLEN'⟩ := hrel
    obtain ⟨po, co, ho⟩ := HN.out.form
    subst ho
    by_cases hkn : k < n
    · have hkn' : (k : Int) < (n : Int) := by omega
      have hk0 : (0 : Int) ≤ (k : Int) := by omega
      have e1 : IntKind.i64.wrap ((k : Int) + 1) = (k : Int) + 1 := IntWalk.i64_in _ (by omega)
      obtain ⟨u, hu⟩ : ∃ u, rs[k]? = some u := ⟨rs[k]'(by rw [HL.out]; exact hkn), List.getElem?_eq_getElem _⟩
      obtain ⟨p, q, rfl, hp, hq⟩ : ∃ p q, d' = p ++ q ∧ PEnc u p ∧ PEncL (rs.drop (k + 1)) q := by
        have h1 : rs.drop k = u :: rs.drop (k + 1) := by rw [← List.getElem_cons_drop (by rw [HL.out]; exact hkn), (List.getElem?_eq_some_iff.1 hu).2]
        have h2 := HE'.out
        rw [h1] at h2
        cases h2 with
        | cons h3 h4 => exact ⟨_, _, rfl, h3, h4⟩
      have HU := Lib.hid (And.intro hu (And.intro hp hq))
      clear hu hp hq
      go_wp2_with (first | (go_at_call 10; go_must (refine (HI.out u (List.mem_of_getElem? HU.out.1) _ _ _ p (q ++ D) HU.out.2.1 (by rw [← List.append_assoc]; exact HS'.out) (by rw [← List.append_assoc]; exact HLEN'.out)).mono ?_; rintro e w3 ⟨y, s3, rfl, hy, hs3, hk3⟩; obtain ⟨ks3, rfl, hn3, hks3⟩ := hy; obtain ⟨p3, c3, rfl, _, _⟩ := hks3.form; obtain ⟨a3, d3, e3, _⟩ := id hs3; subst e3; have hN3 := HN.out.nope hk3; have cC : ∀ o, (w3.alloc o).cell? ⟨P + 1, 4, none⟩ = some (.slice po la.length co) := (fun o => by have h := (hN3.cell.alloc o).cell 4; exact h); have H3 := Lib.hid (And.intro hN3 (And.intro hk3 (And.intro hs3 (And.intro hn3 hks3)))); clear hN3 hk3 hs3 hn3 hks3; unfold kagg)) | (at_builtin; go_must (refine wpList_append_c _ rfl (.tmp 35) (.tmp 37) 24 rfl W2.heap.size 26 i1 _ 5 64 Tryz.underlying24 hi hz0 hz1 hz2 rfl (by decide) _ _ _ rfl ((H3.out.1.nope (((Kept.refl Nope w3).alloc _).alloc (.cells (KLay.mk u (.slice p3 u.kids.length c3)).cells.toArray 26))).own) Any_ _ 1 (KLay.mk u (.slice p3 u.kids.length c3)).cells rfl (CSl.one_five (W := w3.alloc _) _ (by simp)) (KLay.Ok.one (S := Any_) ⟨H3.out.2.2.2.1, H3.out.2.2.2.2.mono fun _ _ _ => trivial⟩) (by have := HN.out.len; unfold maxLen; omega) (by have := HN.out.len; omega) (((H3.out.1.nope (((Kept.refl Nope w3).alloc _).alloc (.cells (KLay.mk u (.slice p3 u.kids.length c3)).cells.toArray 26))).kept).size) ?_; intro v5 w5 hown hgrow hblk; obtain ⟨p5, c5, rfl⟩ := ownsRow_form5 hown; have hC5 := ((H3.out.1.cell.alloc _).alloc (.cells (KLay.mk u (.slice p3 u.kids.length c3)).cells.toArray 26)).grown hgrow (fun e => HN.out.ne e.symm); have cC5 := hC5.cell 4; have fC5 := hC5.frozen 4; simp only [List.getElem?_toArray, List.getElem?_cons_zero, List.getElem?_cons_succ] at cC5; have HO := Lib.hid (And.intro hown (And.intro hgrow hblk)); clear hown hgrow hblk hC5)))
      go_roundw
      case rel =>
        have hka := ((Kept.refl Nope w3).alloc (.cells (KLay.mk u (.slice p3 u.kids.length c3)).cells.toArray 26)).alloc (.cells (KLay.mk u (.slice p3 u.kids.length c3)).cells.toArray 26)
        have hN4 := H3.out.1.nope hka
        have hg := HO.out.2.1
        have hkg : Kept (fun b => W2.heap.size ≤ b ∨ b = P + 1) _ w5 := ⟨hg.os, hg.tape, hg.output, hg.size, fun k hk hn => hg.block k hk (fun e => hn (.inl (HN.out.own.lt k e.symm).1))⟩
        have hks : Kept (fun b => W2.heap.size ≤ b ∨ b = P + 1) w5 (w5.setCell ⟨P + 1, 4, none⟩ (.slice p5 (la.length + 1) c5)) := ((Kept.refl (Only (P + 1)) w5).set1 4 _).mono fun b _ e => .inr e
        have hw := H2.out.2
        refine ⟨k + 1, la ++ [⟨u, .slice p3 u.kids.length c3⟩], _, q, a3, _, d3, by omega, by go_num, rfl, Lib.hid (hN4.step HU.out.1 (KLay.Ok.mono ⟨H3.out.2.2.2.1, H3.out.2.2.2.2.keep hka fun _ _ _ h => h⟩ fun b _ hb => ?_) rfl HO.out.1 HO.out.2.1 HO.out.2.2), Lib.hid HU.out.2.2, Lib.hid ?_, Lib.hid ?_⟩
        · have h1 := HN.out.kept.size
          exact ⟨by omega, fun e => by have := (HN.out.own.lt b e).2; omega⟩
        · have hb3 := H3.out.2.2.1
          rw [List.length_append] at hb3
          refine (((hb3.keep hka fun _ _ _ h => h).keep hkg ?_).keep hks ?_) <;> (intro b _ hb e; omega)
        · have := HLEN'.out
          simp only [List.length_append] at this ⊢
          omega
      case measure => simp [RowKit.intOf]; omega
    · obtain rfl : k = n := by omega
      have hlt : ¬ (k : Int) < (k : Int) := by omega
      have hd : d' = [] := by
        have h1 := HE'.out
        rw [List.drop_of_length_le (by rw [HL.out]; exact Nat.le_refl _)] at h1
        cases h1; rfl
      subst hd
      have hw := H2.out.2
      have hnP : ¬ Only (P + 1) P := fun e => by have e' : P = P + 1 := e; omega
      have rr := H2.out.1.1.kept HN.out.kept hnP
      have r0 := rr.cell 0
      have r1 := rr.cell 1
      have r2 := rr.cell 2
      have r3 := rr.cell 3
      have r4 := rr.cell 4
      have rf := fun t => rr.frozen t
      have hcc := HN.out.cell
      have q0 := hcc.cell 0
      have q1 := hcc.cell 1
      have q2 := hcc.cell 2
      have q3 := hcc.cell 3
      have q4 := hcc.cell 4
      simp only [List.getElem?_toArray, List.getElem?_cons_zero, List.getElem?_cons_succ] at r0 r1 r2 r3 r4 q0 q1 q2 q3 q4
      have HRR := Lib.hid rr
      clear hcc rr hnP hw
      go_wp2
      have h5 := pack5 HRR.out (.int .i64 kd) (.int .u64 0) (.string ⟨#[]⟩) (.int .i64 0) (.slice po la.length co)
      have hw := H2.out.2
      have hN := HN.out
      rw [← HL.out] at hN
      have hx := hN.agg HKN.out
      have hx2 := (hx.keep h5.2 fun b _ hb e => by have e' : b = P := e; omega).mono (S' := fun b => w.heap.size ≤ b) fun b _ hb => by omega
      refine bodyPost_ret (ret3p Tryz.results17 _ _ P _ rfl h5.1 rfl) rfl ⟨_, _, rfl, hx2, ?_, ?_⟩
      · exact (HS'.out.keep h5.2 fun b _ hb e => by have e' : b = P := e; omega).mono fun b _ hb => hb.1
      · exact (H2.out.1.2.2.trans HN.out.kept fun b hb e => by have e' : b = P + 1 := e; omega).trans h5.2 fun b hb e => by have e' : b = P := e; omega
end Go.Proofs.YtapfahngeaojkaaGreatDoor
