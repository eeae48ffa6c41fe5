/- A slice of values that the code makes by appending ('Row6'); package impl: listed. Package spec: big: a number in so many bytes. Maps whose keys are values of type any, or texts: a new entry, and which keys are one. Maps: keys of trees that differ are no one key; a new entry; how many there are. -/
import Derived.LoopTactic
import Derived.IntWalk
import Derived.Outline
import Derived.Test.YtbckofjoancdjaaGreatDoorK13
import Derived.Test.YtbckofjoancdjaaGreatDoorK7
import Derived.Test.YtbckofjoancdjaaGreatDoorK9
import Derived.Test.YtbckofjoancdjaaGreatDoorK12
import Derived.Maps.RangeRun
import Derived.ChangeKeysEq
import Derived.Test.YtbckofjoancdjaaGreatDoorK3
namespace Go.Proofs.YtbckofjoancdjaaGreatDoor
open Go Go.RowKit Go.Lib
theorem ownsRow_keep {M : Nat → Prop} {w w' : World} {base : Nat} {e : TypeId} {size n : Nat} {x : Value} {xs : List Value} (h : w.ownsRow base e size x n xs) (hk : Kept M w w') (hM : ∀ k, x.ownBlock = some k → ¬ M k) : w'.ownsRow base e size x n xs := by
  refine ⟨h.1, ?_⟩
  rcases h.2 with hn | ⟨g, cap, cur, rfl, hb, hgg, rest⟩
  · exact .inl hn
  · exact .inr ⟨g, cap, cur, rfl, hb, hk.obj hgg (hM g rfl), rest⟩
structure Row6 (w0 : World) (M : Nat → Prop) (w : World) (x : Value) (l : List Lay) : Prop where
  own : w.ownsRow w0.heap.size 92 6 x l.length (l.flatMap Lay.cells)
  ok : ∀ a ∈ l, a.Ok (fun b => x.ownBlock ≠ some b ∧ ¬ M b) w
namespace Row6
variable {w0 w w' : World} {M : Nat → Prop} {x x' : Value} {l : List Lay}
theorem nil (w0 : World) (M : Nat → Prop) (w : World) : Row6 w0 M w (.slice none 0 0) [] := ⟨World.ownsRow_nil _ _ _ _, fun _ h => by cases h⟩
theorem keep {M' : Nat → Prop} (h : Row6 w0 M w x l) (hk : Kept M' w w') (hM : ∀ b, M' b → M b) (hx : ∀ k, x.ownBlock = some k → ¬ M' k) : Row6 w0 M w' x l :=
  ⟨ownsRow_keep h.own hk hx, fun a ha => (h.ok a ha).keep hk fun b _ hb hm => hb.2 (hM b hm)⟩
theorem nope (h : Row6 w0 M w x l) (hk : Kept Nope w w') : Row6 w0 M w' x l := h.keep hk (fun _ h => h.elim) fun _ _ h => h
theorem push {a : Lay} (h : Row6 w0 M w x l) (ha : a.Ok (fun b => x.ownBlock ≠ some b ∧ ¬ M b) w) (h2 : w'.ownsRow w0.heap.size 92 6 x' (l.length + 1) (l.flatMap Lay.cells ++ a.cells)) (hg : w.grownBy w' x.ownBlock)
    (h4 : x'.ownBlock = x.ownBlock ∨ x'.ownBlock = some w.heap.size) : Row6 w0 M w' x' (l ++ [a]) := by
  refine ⟨by simpa using h2, fun c hc => ?_⟩
  have hk : Kept (fun b => x.ownBlock = some b) w w' := ⟨hg.os, hg.tape, hg.output, hg.size, fun k hk hn => hg.block k hk (fun e => hn e.symm)⟩
  have hcok : c.Ok (fun b => x.ownBlock ≠ some b ∧ ¬ M b) w := by
    rcases List.mem_append.1 hc with h1 | h1
    · exact h.ok c h1
    · rw [List.mem_singleton.1 h1]; exact ha
  refine (hcok.mono (S' := fun b => (x.ownBlock ≠ some b ∧ ¬ M b) ∧ b < w.heap.size) fun b hb hS => ⟨hS, hb⟩).keep hk (fun b _ hb hm => hb.1.1 hm) |>.mono fun b _ hb => ⟨?_, hb.1.2⟩
  rcases h4 with e | e
  · rw [e]; exact hb.1.1
  · rw [e]
    intro e'
    have : w.heap.size = b := by injection e'
    omega
theorem vsl (h : Row6 w0 M w x l) : VSl Any_ w x (l.map Lay.v) := VSl.ofOwn h.own (fun _ _ => trivial) fun a ha => (h.ok a ha).mono fun _ _ _ => trivial
theorem above (h : Row6 w0 (fun b => b < w0.heap.size) w x l) : VSl (fun b => w0.heap.size ≤ b) w x (l.map Lay.v) :=
  VSl.ofOwn h.own (fun b hb => (h.own.lt b hb).1) fun a ha => (h.ok a ha).mono fun b _ hb => by have := hb.2; omega
theorem form (h : Row6 w0 M w x l) : ∃ a cap, x = .slice a l.length cap := by
  rcases h.own.2 with ⟨rfl, e⟩ | ⟨g, cap, cur, rfl, _⟩
  · exact ⟨none, 0, by rw [e]⟩
  · exact ⟨_, _, rfl⟩
end Row6
theorem oneCell_six (a : Lay) (h1 : a.ks.oneCell' = true) (h2 : a.ds.oneCell' = true) : ∀ u ∈ a.cells, u.oneCell' = true := by
  intro u hu
  simp only [Lay.cells, List.mem_cons, List.mem_nil_iff, or_false] at hu
  rcases hu with rfl | rfl | rfl | rfl | rfl | rfl <;> first | rfl | assumption
theorem Lay.Ok.one {S : Nat → Prop} {w : World} {a : Lay} (h : a.Ok S w) : ∀ u ∈ a.cells, u.oneCell' = true := by
  obtain ⟨_, h1, h2⟩ := h
  obtain ⟨p, c, e1, _⟩ := h1.form
  obtain ⟨p', c', e2, _⟩ := h2.form
  exact oneCell_six a (by rw [e1]; rfl) (by rw [e2]; rfl)
theorem info_Val : (Tryz.prog.info? 92).map (fun i => (i.zero, i.size, i.bytes)) = some (some (.agg #[.int .i64 0, .int .u64 0, .string ⟨#[]⟩, .slice none 0 0, .int .i64 0, .slice none 0 0]), 6, 88) := by kernel_rfl
end Go.Proofs.YtbckofjoancdjaaGreatDoor
namespace Go.Proofs.YtbckofjoancdjaaGreatDoor
open Go Go.RowKit Go.Lib
theorem ownsRow_form0 {w : World} {base : Nat} {e : TypeId} {size n : Nat} {x : Value} {xs : List Value} (h : w.ownsRow base e size x n xs) : ∃ p c, x = .slice p n c := by
  rcases h.2 with ⟨rfl, e⟩ | ⟨g, cap, cur, rfl, _⟩
  · exact ⟨none, 0, by rw [e]⟩
  · exact ⟨_, _, rfl⟩
theorem CSl.one_cell {W : World} {t : TypeId} {x : Value} {g : Nat} (hg : W.heap.size = g) : CSl Any_ (W.alloc (.cells #[x] t)) 1 (.slice (some ⟨g, 0, none⟩) 1 1) 1 [x] := by
  subst hg
  refine ⟨rfl, _, 1, rfl, Nat.le_refl _, by decide, .inr ⟨W.heap.size, 0, rfl, trivial, fun j u hu => ?_⟩⟩
  rw [(Blk.new W t #[x]).cell, Nat.zero_add]
  simpa using hu
theorem be_get (x : Nat) : ∀ (n k : Nat), k < n → (be n x)[k]? = some (UInt8.ofNat (x / 256 ^ (n - 1 - k) % 256))
  | 0, k, h => by omega
  | n + 1, 0, _ => by simp [be]
  | n + 1, k + 1, h => by
    have e : n + 1 - 1 - (k + 1) = n - 1 - k := by omega
    rw [e]
    simpa [be] using be_get x n k (by omega)
theorem big_step {u : Int} {n k : Nat} (i : Nat) (h : n = k + i + 1) : ((be n u.toNat).take k).map u8 ++ [.int .u8 ((u.toNat / 256 ^ i % 256 : Nat) : Int)] = ((be n u.toNat).take (k + 1)).map u8 := by
  have hg := be_get u.toNat n k (by omega)
  have e : n - 1 - k = i := by omega
  rw [e] at hg
  rw [List.take_add_one, hg, List.map_append]
  congr 1
  simp [u8]
set_option maxRecDepth 100000 in
set_option maxHeartbeats 3200000 in
theorem big_ok (u : Int) (n : Nat) (w : World) (h0 : 0 ≤ u ∧ u < 18446744073709551616) (h1 : n ≤ 8) :
    Calls Tryz.prog 96 #[.int .u64 u, .int .i64 n] w (Gives fun x w' => w'.ownsRow w.heap.size 5 1 x n ((be n u.toNat).map u8) ∧ Kept Nope w w') := by
  obtain ⟨i1, hi, hz0, hz1, hz2⟩ := info_parts info_u8
  have HU := Lib.hid h0
  clear h0
  go_enter Tryz.func96, Tryz.ntmps96
  go_wp2
  go_loopw [5, 6] (fun x c w' => ∃ k i : Nat, k + i = n ∧ c = .int .i64 ((i : Int) - 1) ∧ Hid (Kept Nope w w' ∧ w'.ownsRow w.heap.size 5 1 x k (((be n u.toNat).take k).map u8))) (fun _ c _ => (RowKit.intOf c + 1).toNat)
  case atStart => exact ⟨0, n, by omega, rfl, Lib.hid ⟨Kept.refl _ _, World.ownsRow_nil _ _ _ _⟩⟩
  case round =>
    obtain ⟨k, i, hk, rfl, HR⟩ := hrel
    obtain ⟨p, c, hx⟩ := ownsRow_form0 HR.out.2
    subst hx
    rcases (show i = 0 ∨ i = 1 ∨ i = 2 ∨ i = 3 ∨ i = 4 ∨ i = 5 ∨ i = 6 ∨ i = 7 ∨ i = 8 by omega) with rfl | rfl | rfl | rfl | rfl | rfl | rfl | rfl | rfl
    · obtain rfl : k = n := by omega
      go_wp2
      go_ret
      refine ⟨_, rfl, ?_, HR.out.1⟩
      have h := HR.out.2
      rw [List.take_of_length_le (by simp)] at h
      exact h
    · have HK := Lib.hid hk
      clear hk
      go_wp2_with (at_builtin; go_must (refine wpList_append_c _ rfl (.tmp 13) (.tmp 19) 26 rfl w.heap.size 5 i1 _ 1 1 Tryz.underlying26 hi hz0 hz1 hz2 rfl (by omega) _ _ _ rfl (HR.out.2.alloc _) Any_ _ 1 _ rfl (CSl.one_cell rfl) (by intro q hq; rw [List.mem_singleton.1 hq]; rfl) (by have := HK.out; unfold maxLen; omega) (by have := HK.out; omega) (by have hs := HR.out.1.size; rw [World.size_alloc]; omega) ?_; intro v4 w4 hown hgrow hblk; obtain ⟨p4, c4, rfl⟩ := ownsRow_form0 hown; have HN := Lib.hid (And.intro hown hgrow); clear hown hgrow hblk))
      go_roundw
      case rel =>
        have hb := big_step (u := u) (n := n) (k := k) 0 (by have := HK.out; omega)
        have hv : ((u.toNat / 256 ^ 0 % 256 : Nat) : Int) = u % 256 := by have := HU.out; simp; omega
        rw [hv] at hb
        have hk4 : Kept (fun b => (Value.slice p k c).ownBlock = some b) _ _ := ⟨HN.out.2.os, HN.out.2.tape, HN.out.2.output, HN.out.2.size, fun z hz hn => HN.out.2.block z hz (fun e => hn e.symm)⟩
        refine ⟨k + 1, 0, by have := HK.out; omega, by simp, Lib.hid ⟨(HR.out.1.alloc _).trans hk4 (fun b hb e => by have := (HR.out.2.lt b e).1; omega), ?_⟩⟩
        rw [← hb]
        exact HN.out.1
      case measure => simp [RowKit.intOf]
    · have HK := Lib.hid hk
      clear hk
      go_wp2_with (at_builtin; go_must (refine wpList_append_c _ rfl (.tmp 13) (.tmp 19) 26 rfl w.heap.size 5 i1 _ 1 1 Tryz.underlying26 hi hz0 hz1 hz2 rfl (by omega) _ _ _ rfl (HR.out.2.alloc _) Any_ _ 1 _ rfl (CSl.one_cell rfl) (by intro q hq; rw [List.mem_singleton.1 hq]; rfl) (by have := HK.out; unfold maxLen; omega) (by have := HK.out; omega) (by have hs := HR.out.1.size; rw [World.size_alloc]; omega) ?_; intro v4 w4 hown hgrow hblk; obtain ⟨p4, c4, rfl⟩ := ownsRow_form0 hown; have HN := Lib.hid (And.intro hown hgrow); clear hown hgrow hblk))
      go_roundw
      case rel =>
        have hb := big_step (u := u) (n := n) (k := k) 1 (by have := HK.out; omega)
        have hv : ((u.toNat / 256 ^ 1 % 256 : Nat) : Int) = u / 256 % 256 := by have := HU.out; simp; omega
        rw [hv] at hb
        have hk4 : Kept (fun b => (Value.slice p k c).ownBlock = some b) _ _ := ⟨HN.out.2.os, HN.out.2.tape, HN.out.2.output, HN.out.2.size, fun z hz hn => HN.out.2.block z hz (fun e => hn e.symm)⟩
        refine ⟨k + 1, 1, by have := HK.out; omega, by simp, Lib.hid ⟨(HR.out.1.alloc _).trans hk4 (fun b hb e => by have := (HR.out.2.lt b e).1; omega), ?_⟩⟩
        rw [← hb]
        exact HN.out.1
      case measure => simp [RowKit.intOf]
    · have HK := Lib.hid hk
      clear hk
      go_wp2_with (at_builtin; go_must (refine wpList_append_c _ rfl (.tmp 13) (.tmp 19) 26 rfl w.heap.size 5 i1 _ 1 1 Tryz.underlying26 hi hz0 hz1 hz2 rfl (by omega) _ _ _ rfl (HR.out.2.alloc _) Any_ _ 1 _ rfl (CSl.one_cell rfl) (by intro q hq; rw [List.mem_singleton.1 hq]; rfl) (by have := HK.out; unfold maxLen; omega) (by have := HK.out; omega) (by have hs := HR.out.1.size; rw [World.size_alloc]; omega) ?_; intro v4 w4 hown hgrow hblk; obtain ⟨p4, c4, rfl⟩ := ownsRow_form0 hown; have HN := Lib.hid (And.intro hown hgrow); clear hown hgrow hblk))
      go_roundw
      case rel =>
        have hb := big_step (u := u) (n := n) (k := k) 2 (by have := HK.out; omega)
        have hv : ((u.toNat / 256 ^ 2 % 256 : Nat) : Int) = u / 65536 % 256 := by have := HU.out; simp; omega
        rw [hv] at hb
        have hk4 : Kept (fun b => (Value.slice p k c).ownBlock = some b) _ _ := ⟨HN.out.2.os, HN.out.2.tape, HN.out.2.output, HN.out.2.size, fun z hz hn => HN.out.2.block z hz (fun e => hn e.symm)⟩
        refine ⟨k + 1, 2, by have := HK.out; omega, by simp, Lib.hid ⟨(HR.out.1.alloc _).trans hk4 (fun b hb e => by have := (HR.out.2.lt b e).1; omega), ?_⟩⟩
        rw [← hb]
        exact HN.out.1
      case measure => simp [RowKit.intOf]
    · have HK := Lib.hid hk
      clear hk
      go_wp2_with (at_builtin; go_must (refine wpList_append_c _ rfl (.tmp 13) (.tmp 19) 26 rfl w.heap.size 5 i1 _ 1 1 Tryz.underlying26 hi hz0 hz1 hz2 rfl (by omega) _ _ _ rfl (HR.out.2.alloc _) Any_ _ 1 _ rfl (CSl.one_cell rfl) (by intro q hq; rw [List.mem_singleton.1 hq]; rfl) (by have := HK.out; unfold maxLen; omega) (by have := HK.out; omega) (by have hs := HR.out.1.size; rw [World.size_alloc]; omega) ?_; intro v4 w4 hown hgrow hblk; obtain ⟨p4, c4, rfl⟩ := ownsRow_form0 hown; have HN := Lib.hid (And.intro hown hgrow); clear hown hgrow hblk))
      go_roundw
      case rel =>
        have hb := big_step (u := u) (n := n) (k := k) 3 (by have := HK.out; omega)
        have hv : ((u.toNat / 256 ^ 3 % 256 : Nat) : Int) = u / 16777216 % 256 := by have := HU.out; simp; omega
        rw [hv] at hb
        have hk4 : Kept (fun b => (Value.slice p k c).ownBlock = some b) _ _ := ⟨HN.out.2.os, HN.out.2.tape, HN.out.2.output, HN.out.2.size, fun z hz hn => HN.out.2.block z hz (fun e => hn e.symm)⟩
        refine ⟨k + 1, 3, by have := HK.out; omega, by simp, Lib.hid ⟨(HR.out.1.alloc _).trans hk4 (fun b hb e => by have := (HR.out.2.lt b e).1; omega), ?_⟩⟩
        rw [← hb]
        exact HN.out.1
      case measure => simp [RowKit.intOf]
    · have HK := Lib.hid hk
      clear hk
      go_wp2_with (at_builtin; go_must (refine wpList_append_c _ rfl (.tmp 13) (.tmp 19) 26 rfl w.heap.size 5 i1 _ 1 1 Tryz.underlying26 hi hz0 hz1 hz2 rfl (by omega) _ _ _ rfl (HR.out.2.alloc _) Any_ _ 1 _ rfl (CSl.one_cell rfl) (by intro q hq; rw [List.mem_singleton.1 hq]; rfl) (by have := HK.out; unfold maxLen; omega) (by have := HK.out; omega) (by have hs := HR.out.1.size; rw [World.size_alloc]; omega) ?_; intro v4 w4 hown hgrow hblk; obtain ⟨p4, c4, rfl⟩ := ownsRow_form0 hown; have HN := Lib.hid (And.intro hown hgrow); clear hown hgrow hblk))
      go_roundw
      case rel =>
        have hb := big_step (u := u) (n := n) (k := k) 4 (by have := HK.out; omega)
        have hv : ((u.toNat / 256 ^ 4 % 256 : Nat) : Int) = u / 4294967296 % 256 := by have := HU.out; simp; omega
        rw [hv] at hb
        have hk4 : Kept (fun b => (Value.slice p k c).ownBlock = some b) _ _ := ⟨HN.out.2.os, HN.out.2.tape, HN.out.2.output, HN.out.2.size, fun z hz hn => HN.out.2.block z hz (fun e => hn e.symm)⟩
        refine ⟨k + 1, 4, by have := HK.out; omega, by simp, Lib.hid ⟨(HR.out.1.alloc _).trans hk4 (fun b hb e => by have := (HR.out.2.lt b e).1; omega), ?_⟩⟩
        rw [← hb]
        exact HN.out.1
      case measure => simp [RowKit.intOf]
    · have HK := Lib.hid hk
      clear hk
      go_wp2_with (at_builtin; go_must (refine wpList_append_c _ rfl (.tmp 13) (.tmp 19) 26 rfl w.heap.size 5 i1 _ 1 1 Tryz.underlying26 hi hz0 hz1 hz2 rfl (by omega) _ _ _ rfl (HR.out.2.alloc _) Any_ _ 1 _ rfl (CSl.one_cell rfl) (by intro q hq; rw [List.mem_singleton.1 hq]; rfl) (by have := HK.out; unfold maxLen; omega) (by have := HK.out; omega) (by have hs := HR.out.1.size; rw [World.size_alloc]; omega) ?_; intro v4 w4 hown hgrow hblk; obtain ⟨p4, c4, rfl⟩ := ownsRow_form0 hown; have HN := Lib.hid (And.intro hown hgrow); clear hown hgrow hblk))
      go_roundw
      case rel =>
        have hb := big_step (u := u) (n := n) (k := k) 5 (by have := HK.out; omega)
        have hv : ((u.toNat / 256 ^ 5 % 256 : Nat) : Int) = u / 1099511627776 % 256 := by have := HU.out; simp; omega
        rw [hv] at hb
        have hk4 : Kept (fun b => (Value.slice p k c).ownBlock = some b) _ _ := ⟨HN.out.2.os, HN.out.2.tape, HN.out.2.output, HN.out.2.size, fun z hz hn => HN.out.2.block z hz (fun e => hn e.symm)⟩
        refine ⟨k + 1, 5, by have := HK.out; omega, by simp, Lib.hid ⟨(HR.out.1.alloc _).trans hk4 (fun b hb e => by have := (HR.out.2.lt b e).1; omega), ?_⟩⟩
        rw [← hb]
        exact HN.out.1
      case measure => simp [RowKit.intOf]
    · have HK := Lib.hid hk
      clear hk
      go_wp2_with (at_builtin; go_must (refine wpList_append_c _ rfl (.tmp 13) (.tmp 19) 26 rfl w.heap.size 5 i1 _ 1 1 Tryz.underlying26 hi hz0 hz1 hz2 rfl (by omega) _ _ _ rfl (HR.out.2.alloc _) Any_ _ 1 _ rfl (CSl.one_cell rfl) (by intro q hq; rw [List.mem_singleton.1 hq]; rfl) (by have := HK.out; unfold maxLen; omega) (by have := HK.out; omega) (by have hs := HR.out.1.size; rw [World.size_alloc]; omega) ?_; intro v4 w4 hown hgrow hblk; obtain ⟨p4, c4, rfl⟩ := ownsRow_form0 hown; have HN := Lib.hid (And.intro hown hgrow); clear hown hgrow hblk))
      go_roundw
      case rel =>
        have hb := big_step (u := u) (n := n) (k := k) 6 (by have := HK.out; omega)
        have hv : ((u.toNat / 256 ^ 6 % 256 : Nat) : Int) = u / 281474976710656 % 256 := by have := HU.out; simp; omega
        rw [hv] at hb
        have hk4 : Kept (fun b => (Value.slice p k c).ownBlock = some b) _ _ := ⟨HN.out.2.os, HN.out.2.tape, HN.out.2.output, HN.out.2.size, fun z hz hn => HN.out.2.block z hz (fun e => hn e.symm)⟩
        refine ⟨k + 1, 6, by have := HK.out; omega, by simp, Lib.hid ⟨(HR.out.1.alloc _).trans hk4 (fun b hb e => by have := (HR.out.2.lt b e).1; omega), ?_⟩⟩
        rw [← hb]
        exact HN.out.1
      case measure => simp [RowKit.intOf]
    · have HK := Lib.hid hk
      clear hk
      go_wp2_with (at_builtin; go_must (refine wpList_append_c _ rfl (.tmp 13) (.tmp 19) 26 rfl w.heap.size 5 i1 _ 1 1 Tryz.underlying26 hi hz0 hz1 hz2 rfl (by omega) _ _ _ rfl (HR.out.2.alloc _) Any_ _ 1 _ rfl (CSl.one_cell rfl) (by intro q hq; rw [List.mem_singleton.1 hq]; rfl) (by have := HK.out; unfold maxLen; omega) (by have := HK.out; omega) (by have hs := HR.out.1.size; rw [World.size_alloc]; omega) ?_; intro v4 w4 hown hgrow hblk; obtain ⟨p4, c4, rfl⟩ := ownsRow_form0 hown; have HN := Lib.hid (And.intro hown hgrow); clear hown hgrow hblk))
      go_roundw
      case rel =>
        have hb := big_step (u := u) (n := n) (k := k) 7 (by have := HK.out; omega)
        have hv : ((u.toNat / 256 ^ 7 % 256 : Nat) : Int) = u / 72057594037927936 % 256 := by have := HU.out; simp; omega
        rw [hv] at hb
        have hk4 : Kept (fun b => (Value.slice p k c).ownBlock = some b) _ _ := ⟨HN.out.2.os, HN.out.2.tape, HN.out.2.output, HN.out.2.size, fun z hz hn => HN.out.2.block z hz (fun e => hn e.symm)⟩
        refine ⟨k + 1, 7, by have := HK.out; omega, by simp, Lib.hid ⟨(HR.out.1.alloc _).trans hk4 (fun b hb e => by have := (HR.out.2.lt b e).1; omega), ?_⟩⟩
        rw [← hb]
        exact HN.out.1
      case measure => simp [RowKit.intOf]
end Go.Proofs.YtbckofjoancdjaaGreatDoor
namespace Go.Proofs.YtbckofjoancdjaaGreatDoor
open Go Go.RowKit Go.Lib
open Go.ChangeMaps (setBlock)
def Ne_ (x y : Value) : Prop := ∀ W, (Op.equal 20 x y).run Tryz.prog W = .ok false W
theorem eq_iface (T T' : TypeId) (x y : Value) (W : World) (h : T ≠ T') : (Op.equal 20 (.iface T x) (.iface T' y)).run Tryz.prog W = .ok false W := by
  have e : (Op.equal 20 (.iface T x) (.iface T' y)).run Tryz.prog W = (if T ≠ T' then (pure false : Sem Bool) else (Op.equal 20 (.iface T x) (.iface T' y))).run Tryz.prog W := by
    rw [if_pos h]
    unfold Op.equal Op.maxDepth
    rw [show (10000 : Nat) = 9999 + 1 from rfl, Op.equalIn]
    simp only [Sem.run_bind, run_underlying Tryz.underlying20, Result.andThen_ok, if_pos h]
  rw [e, if_pos h]
  rfl
theorem Ne_.types {T T' : TypeId} {x y : Value} (h : T ≠ T') : Ne_ (.iface T x) (.iface T' y) := fun W => eq_iface T T' x y W h
theorem Ne_.of_bool {a b : Bool} (h : a ≠ b) : Ne_ (.iface 4 (.bool a)) (.iface 4 (.bool b)) := fun W => by
  have e : (Op.equal 20 (.iface 4 (.bool a)) (.iface 4 (.bool b))).run Tryz.prog W = .ok (a == b) W := by kernel_rfl
  rw [e, beq_eq_false_iff_ne.2 h]
theorem bytes_ne {a b : ByteArray} (h : a ≠ b) : (a == b) = false := by
  cases hh : (a == b)
  · rfl
  · exact absurd ((MapKept.bytes_beq a b).1 hh) h
theorem Ne_.of_string {a b : ByteArray} (h : a ≠ b) : Ne_ (.iface 9 (.string a)) (.iface 9 (.string b)) := fun W => by
  have e : (Op.equal 20 (.iface 9 (.string a)) (.iface 9 (.string b))).run Tryz.prog W = .ok (a == b) W := by kernel_rfl
  rw [e, bytes_ne h]
theorem Ne_.of_u8 {a b : Int} (h : a ≠ b) : Ne_ (.iface 5 (.int .u8 a)) (.iface 5 (.int .u8 b)) := fun W => by
  have e : (Op.equal 20 (.iface 5 (.int .u8 a)) (.iface 5 (.int .u8 b))).run Tryz.prog W = .ok (a == b) W := by kernel_rfl
  rw [e, beq_eq_false_iff_ne.2 h]
theorem Ne_.of_u16 {a b : Int} (h : a ≠ b) : Ne_ (.iface 38 (.int .u16 a)) (.iface 38 (.int .u16 b)) := fun W => by
  have e : (Op.equal 20 (.iface 38 (.int .u16 a)) (.iface 38 (.int .u16 b))).run Tryz.prog W = .ok (a == b) W := by kernel_rfl
  rw [e, beq_eq_false_iff_ne.2 h]
theorem Ne_.of_u32 {a b : Int} (h : a ≠ b) : Ne_ (.iface 37 (.int .u32 a)) (.iface 37 (.int .u32 b)) := fun W => by
  have e : (Op.equal 20 (.iface 37 (.int .u32 a)) (.iface 37 (.int .u32 b))).run Tryz.prog W = .ok (a == b) W := by kernel_rfl
  rw [e, beq_eq_false_iff_ne.2 h]
theorem Ne_.of_u64 {a b : Int} (h : a ≠ b) : Ne_ (.iface 27 (.int .u64 a)) (.iface 27 (.int .u64 b)) := fun W => by
  have e : (Op.equal 20 (.iface 27 (.int .u64 a)) (.iface 27 (.int .u64 b))).run Tryz.prog W = .ok (a == b) W := by kernel_rfl
  rw [e, beq_eq_false_iff_ne.2 h]
theorem Ne_.of_i8 {a b : Int} (h : a ≠ b) : Ne_ (.iface 260 (.int .i8 a)) (.iface 260 (.int .i8 b)) := fun W => by
  have e : (Op.equal 20 (.iface 260 (.int .i8 a)) (.iface 260 (.int .i8 b))).run Tryz.prog W = .ok (a == b) W := by kernel_rfl
  rw [e, beq_eq_false_iff_ne.2 h]
theorem Ne_.of_i16 {a b : Int} (h : a ≠ b) : Ne_ (.iface 264 (.int .i16 a)) (.iface 264 (.int .i16 b)) := fun W => by
  have e : (Op.equal 20 (.iface 264 (.int .i16 a)) (.iface 264 (.int .i16 b))).run Tryz.prog W = .ok (a == b) W := by kernel_rfl
  rw [e, beq_eq_false_iff_ne.2 h]
theorem Ne_.of_i32 {a b : Int} (h : a ≠ b) : Ne_ (.iface 21 (.int .i32 a)) (.iface 21 (.int .i32 b)) := fun W => by
  have e : (Op.equal 20 (.iface 21 (.int .i32 a)) (.iface 21 (.int .i32 b))).run Tryz.prog W = .ok (a == b) W := by kernel_rfl
  rw [e, beq_eq_false_iff_ne.2 h]
theorem Ne_.of_i64 {a b : Int} (h : a ≠ b) : Ne_ (.iface 2 (.int .i64 a)) (.iface 2 (.int .i64 b)) := fun W => by
  have e : (Op.equal 20 (.iface 2 (.int .i64 a)) (.iface 2 (.int .i64 b))).run Tryz.prog W = .ok (a == b) W := by kernel_rfl
  rw [e, beq_eq_false_iff_ne.2 h]
theorem eq_part (t : TypeId) (W : World) (x y : Value) (b : Bool) (h : (Op.equalIn 9999 t x y).run Tryz.prog W = .ok b W) (hc : (Tryz.prog.info? t).map (·.comparable) = some true) : (Op.equal 20 (.iface t x) (.iface t y)).run Tryz.prog W = .ok b W := by
  obtain ⟨i, hi, hi2⟩ := Option.map_eq_some_iff.1 hc
  unfold Op.equal Op.maxDepth
  rw [show (10000 : Nat) = 9999 + 1 from rfl, Op.equalIn]
  simp [Sem.run_bind, run_underlying Tryz.underlying20, Result.andThen_ok, typeInfo, hi, hi2, h]
theorem Ne_.of_time {a b c d : Int} (h : ¬ (a = c ∧ b = d)) : Ne_ (.iface 295 (.agg #[.int .i64 a, .int .i64 b])) (.iface 295 (.agg #[.int .i64 c, .int .i64 d])) := fun W => by
  refine eq_part _ _ _ _ _ ?_ (by kernel_rfl)
  rw [show (9999 : Nat) = 9998 + 1 from rfl]
  go_simp
  exact fun h1 h2 => h ⟨h1, h2⟩
theorem part_u8 (cs : Array Value) (off : Nat) (v : Value) (W : World) (h : cs[off]? = some v) : (part 5 cs off).run Tryz.prog W = .ok v W := by
  have ha : (isAgg 5).run Tryz.prog W = .ok false W := by kernel_rfl
  unfold part
  simp only [Sem.run_bind, ha, Result.andThen_ok, Bool.false_eq_true, if_false, h]
  rfl
theorem eqItems_u8 (xs ys : Array Value) (f g : Nat → Int) (W : World) : ∀ is : List Nat, (∀ i ∈ is, xs[i]? = some (.int .u8 (f i)) ∧ ys[i]? = some (.int .u8 (g i))) →
    (Op.eqItems 9998 5 1 xs ys is).run Tryz.prog W = .ok (is.all fun i => f i == g i) W
  | [], _ => by simp [Op.eqItems]
  | i :: is, h => by
    have h1 := h i (by simp)
    have ih := eqItems_u8 xs ys f g W is (fun j hj => h j (by simp [hj]))
    have e : (Op.equalIn 9998 5 (.int .u8 (f i)) (.int .u8 (g i))).run Tryz.prog W = .ok (f i == g i) W := by kernel_rfl
    simp only [Op.eqItems, Sem.run_bind, Nat.mul_one, part_u8 _ _ _ _ h1.1, part_u8 _ _ _ _ h1.2, Result.andThen_ok, e, List.all_cons]
    cases hb : (f i == g i)
    · simp
    · simp [ih]
theorem Ne_.of_uuid {a b : List UInt8} (ha : a.length = 16) (hb : b.length = 16) (h : a ≠ b) : Ne_ (.iface 406 (uid a)) (.iface 406 (uid b)) := fun W => by
  refine eq_part _ _ _ _ _ ?_ (by kernel_rfl)
  obtain ⟨i8, hi8, _⟩ := info_parts info_u8
  have hc : Tryz.prog.cellsOf 5 = 1 := by kernel_rfl
  unfold uid
  rw [show (9999 : Nat) = 9998 + 1 from rfl, run_equalIn_array W 9998 _ _ Tryz.underlying406 hi8, hc]
  have e := eqItems_u8 (a.map u8).toArray (b.map u8).toArray (fun i => ((a.getD i 0).toNat : Int)) (fun i => ((b.getD i 0).toNat : Int)) W (List.range 16) (by
    intro i hi
    have hi : i < 16 := by simpa using hi
    constructor <;> simp [u8, ha, hb, hi, List.getD])
  have e2 : ((List.range 16).all fun i => (((a.getD i 0).toNat : Int)) == (((b.getD i 0).toNat : Int))) = false := by
    rw [List.all_eq_false]
    refine Classical.byContradiction fun hn => h ?_
    apply List.ext_getElem?
    intro i
    rcases Nat.lt_or_ge i 16 with hi | hi
    · have hx : ((a.getD i 0).toNat : Int) = ((b.getD i 0).toNat : Int) := Classical.byContradiction fun hne => hn ⟨i, by simpa using hi, by simpa using hne⟩
      have h1 : a.getD i 0 = b.getD i 0 := UInt8.toNat.inj (Int.ofNat.inj hx)
      simp only [List.getD, List.getElem?_eq_getElem (show i < a.length by omega), List.getElem?_eq_getElem (show i < b.length by omega), Option.getD_some] at h1
      rw [List.getElem?_eq_getElem (show i < a.length by omega), List.getElem?_eq_getElem (show i < b.length by omega), h1]
    · rw [List.getElem?_eq_none (by omega), List.getElem?_eq_none (by omega)]
  rw [e2] at e
  exact e
end Go.Proofs.YtbckofjoancdjaaGreatDoor
namespace Go.Proofs.YtbckofjoancdjaaGreatDoor
open Go Go.RowKit Go.Lib
open Go.ChangeMaps (setBlock)
def keyRead (k : Int) : Prop := (1 ≤ k ∧ k ≤ 9) ∨ k = 16 ∨ k = 17 ∨ k = 19
theorem sint_inj {a b : Int} (ha : 0 ≤ a ∧ a < 18446744073709551616) (hb : 0 ≤ b ∧ b < 18446744073709551616) (h : a ≠ b) : sint a ≠ sint b := by
  unfold sint; split <;> split <;> omega
theorem rtype_inj {a b : Int} (ha : keyRead a) (hb : keyRead b) (h : a ≠ b) : rtype a ≠ rtype b := by
  have e : ∀ k, keyRead k → k = 1 ∨ k = 2 ∨ k = 3 ∨ k = 4 ∨ k = 5 ∨ k = 6 ∨ k = 7 ∨ k = 8 ∨ k = 9 ∨ k = 16 ∨ k = 17 ∨ k = 19 := by intro k hk; unfold keyRead at hk; omega
  rcases e a ha with rfl | rfl | rfl | rfl | rfl | rfl | rfl | rfl | rfl | rfl | rfl | rfl <;> rcases e b hb with rfl | rfl | rfl | rfl | rfl | rfl | rfl | rfl | rfl | rfl | rfl | rfl <;> first | exact absurd rfl h | decide
theorem bytesOf_inj {a b : ByteArray} (h : bytesOf a = bytesOf b) : a = b := by
  obtain ⟨a⟩ := a; obtain ⟨b⟩ := b
  unfold bytesOf at h
  congr 1
  exact Array.toList_inj.1 h
theorem key_ne {a b : V} (ha : keyRead a.kind) (hb : keyRead b.kind) (ta : Tidy a) (tb : Tidy b) (da : a.desc = []) (db : b.desc = []) (h : ¬ Same a b) : Ne_ (.iface (rtype a.kind) (raw a)) (.iface (rtype b.kind) (raw b)) := by
  by_cases hk : a.kind = b.kind
  · have ka := ta.leaf (by unfold keyRead at ha; omega)
    have kb := tb.leaf (by unfold keyRead at hb; omega)
    have hf : a.num = b.num → a.text = b.text → False := fun h1 h2 => h (.of_fields hk h1 h2 ka kb da db)
    have e : ∀ k, keyRead k → k = 1 ∨ k = 2 ∨ k = 3 ∨ k = 4 ∨ k = 5 ∨ k = 6 ∨ k = 7 ∨ k = 8 ∨ k = 9 ∨ k = 16 ∨ k = 17 ∨ k = 19 := by intro k hk; unfold keyRead at hk; omega
    have hnum : a.kind < 17 → a.num ≠ b.num := fun hlt e => hf e (by rw [ta.empty (.inl hlt), tb.empty (.inl (hk ▸ hlt))])
    have htext : 17 ≤ a.kind → a.text ≠ b.text := fun hge e => hf (by rw [ta.zero (.inr hge), tb.zero (.inr (hk ▸ hge))]) e
    have pa := ta.pos
    have pb := tb.pos
    unfold raw
    rw [← hk]
    rcases e _ ha with h0 | h0 | h0 | h0 | h0 | h0 | h0 | h0 | h0 | h0 | h0 | h0 <;> (rw [h0] at hnum htext ⊢; simp only [rtype, ↓reduceIte, Int.reduceEq])
    · have := ta.flag h0
      have := tb.flag (hk ▸ h0)
      have := hnum (by omega)
      refine Ne_.of_bool ?_
      intro he
      have he' : a.num = 0 ↔ b.num = 0 := by simpa using he
      omega
    · exact Ne_.of_u8 (hnum (by omega))
    · exact Ne_.of_u16 (hnum (by omega))
    · exact Ne_.of_u32 (hnum (by omega))
    · exact Ne_.of_u64 (hnum (by omega))
    · exact Ne_.of_i8 (sint_inj pa pb (hnum (by omega)))
    · exact Ne_.of_i16 (sint_inj pa pb (hnum (by omega)))
    · exact Ne_.of_i32 (sint_inj pa pb (hnum (by omega)))
    · exact Ne_.of_i64 (sint_inj pa pb (hnum (by omega)))
    · have := sint_inj pa pb (hnum (by omega))
      unfold tm
      exact Ne_.of_time (by omega)
    · exact Ne_.of_uuid (by rw [bytesOf_length]; exact ta.uuid h0) (by rw [bytesOf_length]; exact tb.uuid (hk ▸ h0)) (fun e => htext (by omega) (bytesOf_inj e))
    · exact Ne_.of_string (htext (by omega))
  · exact Ne_.types (rtype_inj ha hb hk)
theorem rtype_key {k : Int} (h : keyRead k) : rtype k ∈ keyTypes := by
  have e : k = 1 ∨ k = 2 ∨ k = 3 ∨ k = 4 ∨ k = 5 ∨ k = 6 ∨ k = 7 ∨ k = 8 ∨ k = 9 ∨ k = 16 ∨ k = 17 ∨ k = 19 := by unfold keyRead at h; omega
  rcases e with rfl | rfl | rfl | rfl | rfl | rfl | rfl | rfl | rfl | rfl | rfl | rfl <;> decide
def NoKey (kt : TypeId) (key : Value) (es : List (Value × Value)) : Prop :=
  ∀ arr : List MapEntry, arr.map (fun e => (e.key, e.val)) = es → ∀ W, (Instr.findKey kt key arr).run Tryz.prog W = .ok none W
theorem findAsking_none (kt : TypeId) (key : Value) (W : World) : ∀ (arr : List MapEntry) (i : Nat), (∀ e ∈ arr, (Op.equal kt key e.key).run Tryz.prog W = .ok false W) → (Instr.findAsking kt key arr i).run Tryz.prog W = .ok none W
  | [], i, _ => by simp [Instr.findAsking]
  | e :: arr, i, h => by
    have h1 := h e (by simp)
    have ih := findAsking_none kt key W arr (i + 1) (fun x hx => h x (by simp [hx]))
    simp only [Instr.findAsking, Sem.run_bind, h1, Result.andThen_ok, Bool.false_eq_true, if_false]
    exact ih
theorem NoKey.any {key : Value} {es : List (Value × Value)} (h : ∀ e ∈ es, Ne_ key e.1) : NoKey 20 key es := by
  intro arr ha W
  subst ha
  have hfa := findAsking_none 20 key W arr 0 (fun e he => h (e.key, e.val) (List.mem_map.2 ⟨e, he, rfl⟩) W)
  unfold Instr.findKey
  simp only [Sem.run_bind, run_underlying Tryz.underlying20, Result.andThen_ok]
  cases arr with
  | nil => rfl
  | cons e arr => simpa [Instr.findNow, Instr.sameNow] using hfa
theorem findNow_string (key : ByteArray) : ∀ (arr : List MapEntry) (i : Nat), (∀ e ∈ arr, ∃ t, e.key = .string t ∧ t ≠ key) → Instr.findNow .string (.string key) arr i = some none
  | [], i, _ => rfl
  | e :: arr, i, h => by
    obtain ⟨t, ht, hne⟩ := h e (by simp)
    have ih := findNow_string key arr (i + 1) (fun x hx => h x (by simp [hx]))
    simp only [Instr.findNow, ht, Instr.sameNow, bytes_ne (Ne.symm hne)]
    exact ih
theorem NoKey.text {kt : TypeId} (hu : Tryz.prog.underlying kt = some .string) {key : ByteArray} {es : List (Value × Value)} (h : ∀ e ∈ es, ∃ t, e.1 = .string t ∧ t ≠ key) : NoKey kt (.string key) es := by
  intro arr ha W
  subst ha
  have hfn := findNow_string key arr 0 (fun e he => h (e.key, e.val) (List.mem_map.2 ⟨e, he, rfl⟩))
  unfold Instr.findKey
  simp only [Sem.run_bind, run_underlying hu, Result.andThen_ok, hfn, Sem.run_pure]
theorem MapAt.put {w : World} {b : Nat} {es : List (Value × Value)} {t kt et : TypeId} {key val : Value} (h : MapAt w b es) (ht : Tryz.prog.underlying t = some (.map kt et)) (hc : ∀ W, (Instr.checkKey false 10000 kt key).run Tryz.prog W = .ok () W) (hn : NoKey kt key es) :
    ∃ w', (Instr.mapUpdate t (.map (some b)) key val).run Tryz.prog w = .ok () w' ∧ MapAt w' b (es ++ [(key, val)]) ∧ Kept (Only b) w w' := by
  obtain ⟨arr, clock, hb, he, hlt, hnd⟩ := h
  have hf := hn arr.toList he w
  refine ⟨setBlock w b (.map (arr.push { key, val, born := clock }) (clock + 1)), ?_, ⟨arr.push { key, val, born := clock }, clock + 1, ChangeMaps.heap_setBlock_same hb _, by simp [he], ?_, ?_⟩, ?_⟩
  · have hset : ∀ o : Obj, (setObj b o).run Tryz.prog w = .ok () (setBlock w b o) := fun o => by simp [setObj, Sem.run, hb, setBlock]
    simp only [Instr.mapUpdate, Sem.run_bind, run_underlying ht, MapKept.run_getObj_map hb, hc, hf, hset, Result.andThen_ok]
  · intro x hx
    have hx' : x ∈ arr ∨ x = { key, val, born := clock } := by simpa using hx
    rcases hx' with hx | hx
    · have := hlt x (by simpa using hx); omega
    · subst hx; exact Nat.lt_succ_self _
  · simp only [Array.toList_push, List.map_append, List.map_cons, List.map_nil]
    rw [List.nodup_append]
    refine ⟨hnd, by simp, fun a ha c hc => ?_⟩
    obtain ⟨x, hx, rfl⟩ := List.mem_map.1 ha
    simp at hc
    subst hc
    have := hlt x hx
    omega
  · exact ⟨rfl, rfl, rfl, by simp [setBlock], fun k hk hne => ChangeMaps.heap_setBlock_other hb _ (fun e => hne e)⟩
theorem wpList_mapUpdate_new {ops : Array Oper} {rest : List Oper} {o : Oper} {a : Act} {Q : Exit → Act → World → Prop} {w : World} (hg : o.guard = none) (m x v : Operand) (t : TypeId) (hop : o.op = Op.mapUpdate t m x v)
    {b : Nat} {es : List (Value × Value)} {kt et : TypeId} {key val : Value} (hm : a.eval m = .map (some b)) (hx : a.eval x = key) (hv : a.eval v = val) (h : MapAt w b es) (ht : Tryz.prog.underlying t = some (.map kt et))
    (hc : ∀ W, (Instr.checkKey false 10000 kt key).run Tryz.prog W = .ok () W) (hn : NoKey kt key es)
    (hK : ∀ w', MapAt w' b (es ++ [(key, val)]) → Kept (Only b) w w' → wpList Tryz.prog ops Q rest (a.put o.dst undef) w') : wpList Tryz.prog ops Q (o :: rest) a w := by
  refine wpList_plain hg fun K hK' => ?_
  obtain ⟨w', hrun, h1, h2⟩ := h.put (val := val) ht hc hn
  unfold Oper.wp
  simp [execOp, hop, hm, hx, hv, hrun, Result.andThen]
  exact hK' _ _ (hK w' h1 h2)
end Go.Proofs.YtbckofjoancdjaaGreatDoor
