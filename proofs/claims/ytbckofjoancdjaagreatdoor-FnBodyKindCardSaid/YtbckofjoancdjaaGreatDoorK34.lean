/- A composite value that is written is told by its code. A composite that lies in memory is written. -/
import Derived.Test.YtbckofjoancdjaaGreatDoorK29
import Derived.Test.YtbckofjoancdjaaGreatDoorK32
import Derived.Test.YtbckofjoancdjaaGreatDoorK33
import Derived.Test.YtbckofjoancdjaaGreatDoorK23
import Derived.Test.YtbckofjoancdjaaGreatDoorK25
import Derived.Test.YtbckofjoancdjaaGreatDoorK28
namespace Go.Proofs.YtbckofjoancdjaaGreatDoor
open Go Go.RowKit Go.Lib
def CBytes (c : Int) (K : List V) (bs : List UInt8) : Prop := ∃ cd q, bs = 0 :: ((83 :: be 1 c.toNat) ++ UInt8.ofNat cd :: q) ∧ Form (wholeV c K) cd q
def Told (c : Int) (K : List V) : Prop := ∀ (W : World) (s : Value) (bs : List UInt8), BSl Any_ W s bs → CBytes c K bs → bs.length ≤ 1000000000 → Eof W → Calls Tryz.prog 5 #[s] W (fun e w' => e = .returned (.tuple #[.int .u8 c, .bool true]) ∧ Kept Nope W w')
theorem lies_self (p : List UInt8) : Lies p 0 p := fun j x h => by rw [Nat.zero_add]; exact h
theorem CBytes.task {c : Int} {code : UInt8} {K : List V} {bs : List UInt8} (h : CBytes c K bs) (hc : be 1 c.toNat = [code]) (hl : bs.length ≤ 1000000000) {W : World} {r : Nat} {y : Value} (hb : Buf W r y bs 0) : Task W r y bs 0 0 code (wholeV c K) K := by
  obtain ⟨cd, q, he, hf⟩ := h
  refine ⟨hb, rfl, ⟨cd, q, hf, ?_⟩, hl, rfl⟩
  rw [he, hc]
  exact lies_self _
theorem told_Open : Told 16 kOpen := fun W s bs hs hb hl he => bk_Open W s bs hs hl he fun W' r y hB => pb_Open W' r y bs (wholeV 16 kOpen) (hb.task (by decide) hl hB)
theorem told_Begin : Told 17 kBegin := fun W s bs hs hb hl he => bk_Begin W s bs hs hl he fun W' r y hB => pb_Begin W' r y bs (wholeV 17 kBegin) (hb.task (by decide) hl hB)
theorem told_Attach : Told 18 kAttach := fun W s bs hs hb hl he => bk_Attach W s bs hs hl he fun W' r y hB => pb_Attach W' r y bs (wholeV 18 kAttach) (hb.task (by decide) hl hB)
theorem told_Flow : Told 19 kFlow := fun W s bs hs hb hl he => bk_Flow W s bs hs hl he fun W' r y hB => pb_Flow W' r y bs (wholeV 19 kFlow) (hb.task (by decide) hl hB)
theorem told_Transfer : Told 20 kTransfer := fun W s bs hs hb hl he => bk_Transfer W s bs hs hl he fun W' r y hB => pb_Transfer W' r y bs (wholeV 20 kTransfer) (hb.task (by decide) hl hB)
theorem told_Disposition : Told 21 kDisposition := fun W s bs hs hb hl he => bk_Disposition W s bs hs hl he fun W' r y hB => pb_Disposition W' r y bs (wholeV 21 kDisposition) (hb.task (by decide) hl hB)
theorem told_Detach : Told 22 kDetach := fun W s bs hs hb hl he => bk_Detach W s bs hs hl he fun W' r y hB => pb_Detach W' r y bs (wholeV 22 kDetach) (hb.task (by decide) hl hB)
theorem told_End : Told 23 [nulV] := fun W s bs hs hb hl he => bk_End W s bs hs hl he fun W' r y hB => pb_End W' r y bs (wholeV 23 [nulV]) (hb.task (by decide) hl hB)
theorem told_Close : Told 24 kClose := fun W s bs hs hb hl he => bk_Close W s bs hs hl he fun W' r y hB => pb_Close W' r y bs (wholeV 24 kClose) (hb.task (by decide) hl hB)
theorem told_SASLMechanisms : Told 64 kSASLMechanisms := fun W s bs hs hb hl he => bk_SASLMechanisms W s bs hs hl he fun W' r y hB => pb_SASLMechanisms W' r y bs (wholeV 64 kSASLMechanisms) (hb.task (by decide) hl hB)
theorem told_SASLChallenge : Told 66 kSASLChallenge := fun W s bs hs hb hl he => bk_SASLChallenge W s bs hs hl he fun W' r y hB => pb_SASLChallenge W' r y bs (wholeV 66 kSASLChallenge) (hb.task (by decide) hl hB)
theorem told_SASLOutcome : Told 68 kSASLOutcome := fun W s bs hs hb hl he => bk_SASLOutcome W s bs hs hl he fun W' r y hB => pb_SASLOutcome W' r y bs (wholeV 68 kSASLOutcome) (hb.task (by decide) hl hB)
def bodL : List (Int × Nat × List V) := [(16, 10, kOpen), (17, 8, kBegin), (18, 14, kAttach), (19, 11, kFlow), (20, 11, kTransfer), (21, 6, kDisposition), (22, 3, kDetach), (23, 1, [nulV]), (24, 1, kClose), (64, 1, kSASLMechanisms), (66, 1, kSASLChallenge), (68, 2, kSASLOutcome)]
theorem told_at {j : Nat} {c : Int} {m : Nat} {K : List V} (h : bodL[j]? = some (c, m, K)) : Told c K ∧ 0 < c ∧ c < 256 := by
  have hj := (List.getElem?_eq_some_iff.1 h).1
  have hj' : j < 12 := hj
  rcases (show j = 0 ∨ j = 1 ∨ j = 2 ∨ j = 3 ∨ j = 4 ∨ j = 5 ∨ j = 6 ∨ j = 7 ∨ j = 8 ∨ j = 9 ∨ j = 10 ∨ j = 11 by omega) with rfl | rfl | rfl | rfl | rfl | rfl | rfl | rfl | rfl | rfl | rfl | rfl <;> (injection h with h; injection h with h1 h2; injection h2 with h2 h3; subst h1 h2 h3)
  · exact ⟨told_Open, by decide, by decide⟩
  · exact ⟨told_Begin, by decide, by decide⟩
  · exact ⟨told_Attach, by decide, by decide⟩
  · exact ⟨told_Flow, by decide, by decide⟩
  · exact ⟨told_Transfer, by decide, by decide⟩
  · exact ⟨told_Disposition, by decide, by decide⟩
  · exact ⟨told_Detach, by decide, by decide⟩
  · exact ⟨told_End, by decide, by decide⟩
  · exact ⟨told_Close, by decide, by decide⟩
  · exact ⟨told_SASLMechanisms, by decide, by decide⟩
  · exact ⟨told_SASLChallenge, by decide, by decide⟩
  · exact ⟨told_SASLOutcome, by decide, by decide⟩
end Go.Proofs.YtbckofjoancdjaaGreatDoor
namespace Go.Proofs.YtbckofjoancdjaaGreatDoor
open Go Go.RowKit Go.Lib
def PutP (c : Int) (K : List V) (f : Nat) (W : World) : Ending → World → Prop := fun e w' => ∃ x bs A, e = .returned x ∧ W.heap.size ≤ A ∧ BRow A w' x bs ∧ CBytes c K bs ∧ bs.length ≤ 1000000000 ∧ Kept (Only f) W w'
def Writes (w : World) (b m : Nat) (c : Int) (K : List V) : Prop := ∀ W f, Kept Nope w W → w.heap.size ≤ f → ShortAt W f → Calls Tryz.prog 6 #[.agg #[.int .u64 c, .slice (some ⟨b, 0, none⟩) m m], .pointer (some ⟨f, 0, none⟩)] W (PutP c K f W)
theorem Writes.keep {w w' : World} {b m : Nat} {c : Int} {K : List V} (h : Writes w b m c K) (hk : Kept Nope w w') : Writes w' b m c K := fun W f h1 h2 h3 => h W f (hk.trans' h1) (by have := hk.size; omega) h3
theorem FRow.keep {w w' : World} {b : Nat} {fs : List (Lay × Lay)} (h : FRow w b fs) (hk : Kept Nope w w') : FRow w' b fs :=
  ⟨Nat.lt_of_lt_of_le h.1 hk.size, fun k p hp => by
    obtain ⟨h1, h2, h3, h4⟩ := h.2 k p hp
    exact ⟨fun t u hu => hk.cell (h1 t u hu) (fun h => h), fun t u hu => hk.cell (h2 t u hu) (fun h => h), (h3.keep hk (fun _ _ _ h => h)).mono fun b _ hb => Nat.lt_of_lt_of_le hb hk.size, (h4.keep hk (fun _ _ _ h => h)).mono fun b _ hb => Nat.lt_of_lt_of_le hb hk.size⟩⟩
theorem writes_row {w : World} {b m : Nat} {c : Int} {K : List V} {fs : List (Lay × Lay)} {rs : List Lay} (hf : FRow w b fs) (hm : fs.length = m) (hm0 : 0 < m) (hm1 : m ≤ 100) (hc : 0 < c ∧ c < 256) (hr : rs.length = fs.length)
    (ho : ∀ W, Kept Nope w W → ∀ (k : Nat) (p : Lay × Lay) (r : Lay), fs[k]? = some p → rs[k]? = some r → Outs W p r) (hK : rs.map Lay.v = K) (hfit : ∀ k ∈ K, Fits k) (hnum : ∀ k ∈ K, Nums k) (hroom : ∀ k ∈ K, k.text.size ≤ 1 ∧ k.kids = [] ∧ k.desc = []) : Writes w b m c K := by
  subst hm hK
  intro W f hk hwf hsh
  have hlen : (rs.map Lay.v).length ≤ 1000 := by rw [List.length_map]; omega
  have hrm := whole_room (c := c) hroom hlen
  refine (Put_ok W f c b fs.length fs rs hsh (hf.keep hk) (fun k p hp => ((hf.2 k p hp).2.2.1.keep hk (fun _ _ _ h => h)).mono fun b _ hb => by omega) hm1 hm0 ⟨Nat.le_refl _, hm1⟩ hc hr (ho W hk) (whole_fits hlen hfit) (whole_nums hc hnum) (by omega)).mono ?_
  rintro e w' ⟨x, bs, cd, q, A, rfl, hA, hB, hbs, hfm, _, hk'⟩
  have hq := (len_all _).1 _ _ _ (Nat.le_refl _) hfm
  have hin := (wholeV c (rs.map Lay.v)).room_inner
  refine ⟨x, bs, A, rfl, hA, hB, ⟨cd, q, hbs, hfm⟩, ?_, hk'⟩
  rw [hbs]
  simp only [List.length_cons, List.length_append, be_length]
  omega
theorem writes_of {w : World} {b m : Nat} {c : Int} {K : List V} {l : List SF} {ps : List Bool} {cs : List Value} (hb : Blk w b 95 cs.toArray) (hcs : cs = l.flatMap SF.cells) (hg : ∀ s ∈ l, s.good) (hm : l.length = m) (hm0 : 0 < m) (hm1 : m ≤ 100) (hc : 0 < c ∧ c < 256) (hps : ps.length = l.length)
    (hp : ∀ (k : Nat) (s : SF) (p : Bool), l[k]? = some s → ps[k]? = some p → (p = true ↔ s.eld)) (hK : (List.zipWith SF.out l ps).map Lay.v = K) : Writes w b m c K := by
  have hlen : (List.zipWith SF.out l ps).length = (l.map SF.pair).length := by rw [List.length_zipWith, List.length_map]; omega
  have hmem : ∀ k ∈ K, k = nulVal ∨ ∃ s ∈ l, k = s.v.v := by
    intro k hk
    rw [← hK] at hk
    obtain ⟨a, ha, rfl⟩ := List.mem_map.1 hk
    obtain ⟨i, hi⟩ := List.mem_iff_getElem?.1 ha
    rw [List.getElem?_zipWith] at hi
    cases h1 : l[i]? with
    | none => rw [h1] at hi; simp at hi
    | some s =>
      cases h2 : ps[i]? with
      | none => rw [h1, h2] at hi; simp at hi
      | some p =>
        rw [h1, h2] at hi
        simp only [Option.some.injEq] at hi
        subst hi
        cases p with
        | true => exact .inl rfl
        | false => exact .inr ⟨s, List.mem_of_getElem? h1, rfl⟩
  refine writes_row (fs := l.map SF.pair) (rs := List.zipWith SF.out l ps) (frow_of hb hcs hg) (by rw [List.length_map, hm]) hm0 hm1 hc hlen (fun W _ k p r hk hr => ?_) hK (fun k hk => ?_) (fun k hk => ?_) (fun k hk => ?_)
  · rw [List.getElem?_map] at hk
    obtain ⟨s, hs, rfl⟩ := Option.map_eq_some_iff.1 hk
    rw [List.getElem?_zipWith, hs] at hr
    cases h2 : ps[k]? with
    | none => rw [h2] at hr; simp at hr
    | some p =>
      rw [h2] at hr
      simp only [Option.some.injEq] at hr
      subst hr
      exact SF.outs (hg s (List.mem_of_getElem? hs)) W p (hp k s p hs h2)
  · rcases hmem k hk with rfl | ⟨s, hs, rfl⟩
    · exact own_nul
    · exact SF.fits (hg s hs)
  · rcases hmem k hk with rfl | ⟨s, hs, rfl⟩
    · exact nums_nul
    · exact SF.nums (hg s hs)
  · rcases hmem k hk with rfl | ⟨s, hs, rfl⟩
    · exact ⟨by decide, rfl, rfl⟩
    · refine ⟨?_, rfl, rfl⟩
      have h := (hg s hs).1
      show s.t.size ≤ 1
      rcases h with ⟨_, _, h⟩ | ⟨_, _, _, _, h⟩ | ⟨_, _, _, h⟩ <;> (rw [h]; decide)
end Go.Proofs.YtbckofjoancdjaaGreatDoor
