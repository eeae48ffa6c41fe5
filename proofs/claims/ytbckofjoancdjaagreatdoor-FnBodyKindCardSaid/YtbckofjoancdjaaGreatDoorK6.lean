/- DERIVED: THE SHELF's CONTRACTS AT THIS DUMP, IN PLAIN WORDS (tools/lay-plain.mjs out of 'TryzShelf.lean', which tools/lay-shelf.mjs wrote): THE SAME DECLARATIONS UNDER THE SAME NAMES: 'import', 'namespace', 'open', 'def', 'theorem' AND NOTHING ELSE: no command of the shelf's: FOR A HAND-IN. Each laying: the table of numbers ('.._ren') and one theorem, a field a fact of the dump's own or the kernel's comparison; each contract: ONE APPLICATION. Package buffer: what each method comes to, over a buffer that holds the bytes D and stands at i. -/
import Derived.Ground.MnProg
import Derived.Shelf.Bin.BEUint16
import Derived.Shelf.Bin.BEUint32
import Derived.Shelf.Bin.BEUint64
import Derived.Test.YtbckofjoancdjaaGreatDoorProg
import Derived.Test.YtbckofjoancdjaaGreatDoorK5
import Derived.WalkKit
import Derived.WalkSpells
import Derived.WalkLawsBesides
import Derived.BigQuiet
import Derived.Deep.QuietTactic
import Derived.StillTailTactics
import Derived.Lib.Hide
import Derived.Deep.DeepMust
import Derived.Deep.DeepFit
namespace Go.Proofs
open Go.Shelf
def Tryz.laysBin36_ren : Go.Shelf.Ren := ⟨fun | 36 => 151 | n => n, fun | 37 => 364 | 22 => 26 | 23 => 38 | 0 => 0 | 5 => 5 | 45 => 166 | n => n, fun | n => n⟩
theorem Tryz.laysBin36 : Go.Proofs.LaysBin.n36 Tryz.prog Tryz.laysBin36_ren := {
  mixed := by kernel_rfl
  f36 := Tryz.func151.trans (congrArg some (by kernel_rfl))
  t0 := Tryz.underlying0
  a0 := Tryz.isAgg0
  z0 := Tryz.sizeOf0
  v0 := Tryz.zeroValue0
  i0 := by kernel_rfl
  t5 := Tryz.underlying5
  a5 := Tryz.isAgg5
  z5 := Tryz.sizeOf5
  v5 := Tryz.zeroValue5
  i5 := by kernel_rfl
  t22 := Tryz.underlying26
  a22 := Tryz.isAgg26
  z22 := Tryz.sizeOf26
  v22 := Tryz.zeroValue26
  i22 := by kernel_rfl
  t23 := Tryz.underlying38
  a23 := Tryz.isAgg38
  z23 := Tryz.sizeOf38
  v23 := Tryz.zeroValue38
  i23 := by kernel_rfl
  t37 := Tryz.underlying364
  a37 := Tryz.isAgg364
  z37 := Tryz.sizeOf364
  v37 := Tryz.zeroValue364
  i37 := by kernel_rfl
  t45 := Tryz.underlying166
  a45 := Tryz.isAgg166
  z45 := Tryz.sizeOf166
  v45 := Tryz.zeroValue166
  i45 := by kernel_rfl }
open Go.RowKit in
theorem Tryz.binary_BE_Uint16 (g o n c : Nat) (b0 b1 : UInt8) (w : World) (hn : 2 ≤ n) (c0 : w.cell? ⟨g, o, none⟩ = some (.int .u8 b0.toNat)) (c1 : w.cell? ⟨g, o + 1, none⟩ = some (.int .u8 b1.toNat)) :
    Calls Tryz.prog 151 #[.agg #[], .slice (some ⟨g, o, none⟩) n c] w fun e w' => e = .returned (.int .u16 (Lib.beNat [b0, b1])) ∧ Below w.heap.size w w' := Any.binary_BE_Uint16 Tryz.laysBin36 g o n c b0 b1 w hn c0 c1
def Tryz.laysBin39_ren : Go.Shelf.Ren := ⟨fun | 39 => 143 | n => n, fun | 37 => 364 | 22 => 26 | 29 => 37 | 0 => 0 | 5 => 5 | 45 => 166 | n => n, fun | n => n⟩
theorem Tryz.laysBin39 : Go.Proofs.LaysBin.n39 Tryz.prog Tryz.laysBin39_ren := {
  mixed := by kernel_rfl
  f39 := Tryz.func143.trans (congrArg some (by kernel_rfl))
  t0 := Tryz.underlying0
  a0 := Tryz.isAgg0
  z0 := Tryz.sizeOf0
  v0 := Tryz.zeroValue0
  i0 := by kernel_rfl
  t5 := Tryz.underlying5
  a5 := Tryz.isAgg5
  z5 := Tryz.sizeOf5
  v5 := Tryz.zeroValue5
  i5 := by kernel_rfl
  t22 := Tryz.underlying26
  a22 := Tryz.isAgg26
  z22 := Tryz.sizeOf26
  v22 := Tryz.zeroValue26
  i22 := by kernel_rfl
  t29 := Tryz.underlying37
  a29 := Tryz.isAgg37
  z29 := Tryz.sizeOf37
  v29 := Tryz.zeroValue37
  i29 := by kernel_rfl
  t37 := Tryz.underlying364
  a37 := Tryz.isAgg364
  z37 := Tryz.sizeOf364
  v37 := Tryz.zeroValue364
  i37 := by kernel_rfl
  t45 := Tryz.underlying166
  a45 := Tryz.isAgg166
  z45 := Tryz.sizeOf166
  v45 := Tryz.zeroValue166
  i45 := by kernel_rfl }
open Go.RowKit in
theorem Tryz.binary_BE_Uint32 (g o n c : Nat) (b0 b1 b2 b3 : UInt8) (w : World) (hn : 4 ≤ n) (c0 : w.cell? ⟨g, o, none⟩ = some (.int .u8 b0.toNat)) (c1 : w.cell? ⟨g, o + 1, none⟩ = some (.int .u8 b1.toNat)) (c2 : w.cell? ⟨g, o + 2, none⟩ = some (.int .u8 b2.toNat)) (c3 : w.cell? ⟨g, o + 3, none⟩ = some (.int .u8 b3.toNat)) :
    Calls Tryz.prog 143 #[.agg #[], .slice (some ⟨g, o, none⟩) n c] w fun e w' => e = .returned (.int .u32 (Lib.beNat [b0, b1, b2, b3])) ∧ Below w.heap.size w w' := Any.binary_BE_Uint32 Tryz.laysBin39 g o n c b0 b1 b2 b3 w hn c0 c1 c2 c3
def Tryz.laysBin42_ren : Go.Shelf.Ren := ⟨fun | 42 => 152 | n => n, fun | 37 => 364 | 22 => 26 | 33 => 27 | 0 => 0 | 5 => 5 | 45 => 166 | n => n, fun | n => n⟩
theorem Tryz.laysBin42 : Go.Proofs.LaysBin.n42 Tryz.prog Tryz.laysBin42_ren := {
  mixed := by kernel_rfl
  f42 := Tryz.func152.trans (congrArg some (by kernel_rfl))
  t0 := Tryz.underlying0
  a0 := Tryz.isAgg0
  z0 := Tryz.sizeOf0
  v0 := Tryz.zeroValue0
  i0 := by kernel_rfl
  t5 := Tryz.underlying5
  a5 := Tryz.isAgg5
  z5 := Tryz.sizeOf5
  v5 := Tryz.zeroValue5
  i5 := by kernel_rfl
  t22 := Tryz.underlying26
  a22 := Tryz.isAgg26
  z22 := Tryz.sizeOf26
  v22 := Tryz.zeroValue26
  i22 := by kernel_rfl
  t33 := Tryz.underlying27
  a33 := Tryz.isAgg27
  z33 := Tryz.sizeOf27
  v33 := Tryz.zeroValue27
  i33 := by kernel_rfl
  t37 := Tryz.underlying364
  a37 := Tryz.isAgg364
  z37 := Tryz.sizeOf364
  v37 := Tryz.zeroValue364
  i37 := by kernel_rfl
  t45 := Tryz.underlying166
  a45 := Tryz.isAgg166
  z45 := Tryz.sizeOf166
  v45 := Tryz.zeroValue166
  i45 := by kernel_rfl }
open Go.RowKit in
theorem Tryz.binary_BE_Uint64 (g o n c : Nat) (b0 b1 b2 b3 b4 b5 b6 b7 : UInt8) (w : World) (hn : 8 ≤ n) (c0 : w.cell? ⟨g, o, none⟩ = some (.int .u8 b0.toNat)) (c1 : w.cell? ⟨g, o + 1, none⟩ = some (.int .u8 b1.toNat)) (c2 : w.cell? ⟨g, o + 2, none⟩ = some (.int .u8 b2.toNat)) (c3 : w.cell? ⟨g, o + 3, none⟩ = some (.int .u8 b3.toNat)) (c4 : w.cell? ⟨g, o + 4, none⟩ = some (.int .u8 b4.toNat)) (c5 : w.cell? ⟨g, o + 5, none⟩ = some (.int .u8 b5.toNat)) (c6 : w.cell? ⟨g, o + 6, none⟩ = some (.int .u8 b6.toNat)) (c7 : w.cell? ⟨g, o + 7, none⟩ = some (.int .u8 b7.toNat)) :
    Calls Tryz.prog 152 #[.agg #[], .slice (some ⟨g, o, none⟩) n c] w fun e w' => e = .returned (.int .u64 (Lib.beNat [b0, b1, b2, b3, b4, b5, b6, b7])) ∧ Below w.heap.size w w' := Any.binary_BE_Uint64 Tryz.laysBin42 g o n c b0 b1 b2 b3 b4 b5 b6 b7 w hn c0 c1 c2 c3 c4 c5 c6 c7
end Go.Proofs
namespace Go.Proofs.YtbckofjoancdjaaGreatDoor
open Go Go.RowKit Go.Lib
theorem wp_region_tail {P : Program} {id : Nat} {Q : Exit → Act → World → Prop} {a : Act} {w : World} {l : List Oper} (n : Nat) (hm : P.follows .mixedOrders = true) (hB : Region.lexTailB .any l.toArray n = true)
    (h : ∀ K : Act → Prop, (∀ a', wpList P l.toArray Q (l.drop n) a' w.drew → K a') → wpStill P l.toArray w.drew K (l.take n) a) : (Code.region id l.toArray true).wp P Q a w :=
  wp_region_still_tail n hm hB (h _ fun _ h => h)
def IsErr (v : Value) : Prop := ∃ T x, v = .iface T x
structure Buf (w : World) (r : Nat) (s : Value) (D : List UInt8) (i : Nat) : Prop where
  blk : Blk w r 165 #[s, .int .i64 i]
  bytes : BSl (fun b => b ≠ r) w s D
  le : i ≤ D.length
  small : D.length ≤ 1099511627776
  eof : ∃ v, IsErr v ∧ w.cell? ⟨1, 0, none⟩ = some v
  ne : r ≠ 1
namespace Buf
variable {M : Nat → Prop} {w w' : World} {r : Nat} {s : Value} {D : List UInt8} {i : Nat}
theorem keep (h : Buf w r s D i) (hk : Kept M w w') (hM : ∀ b, b < w.heap.size → ¬ M b) : Buf w' r s D i := by
  obtain ⟨v, hv, hc⟩ := h.eof
  exact ⟨h.blk.kept hk (hM r h.blk.lt), h.bytes.keep hk (fun b hb _ => hM b hb), h.le, h.small, ⟨v, hv, hk.cell hc (hM _ (World.block_lt_of_cell? w _ hc))⟩, h.ne⟩
theorem nope (h : Buf w r s D i) (hk : Kept Nope w w') : Buf w' r s D i := h.keep hk fun _ _ h => h
theorem drewN (h : Buf w r s D i) (n : Nat) : Buf (w.drewN n) r s D i := h.nope ((Kept.refl _ w).drewN n)
theorem move (h : Buf w r s D i) {j : Nat} (hj : j ≤ D.length) : Buf (w.setCell ⟨r, 1, none⟩ (.int .i64 j)) r s D j := by
  obtain ⟨v, hv, hc⟩ := h.eof
  have hk : Kept (Only r) w (w.setCell ⟨r, 1, none⟩ (.int .i64 j)) := (Kept.refl (Only r) w).set1 1 _
  exact ⟨by have := h.blk.set_ 1 (.int .i64 j); simpa using this, h.bytes.keep hk (fun b _ hb he => hb he), hj, h.small, ⟨v, hv, hk.cell hc (fun e => h.ne e.symm)⟩, h.ne⟩
theorem lt (h : Buf w r s D i) : r < w.heap.size := h.blk.lt
end Buf
structure At_ (w w' : World) (r : Nat) (s : Value) (D : List UInt8) (j : Nat) : Prop where
  buf : Buf w' r s D j
  kept : Kept (Only r) w w'
namespace At_
variable {w w' w'' : World} {r : Nat} {s : Value} {D : List UInt8} {j k : Nat}
theorem refl (h : Buf w r s D j) : At_ w w r s D j := ⟨h, Kept.refl _ _⟩
theorem trans (h : At_ w w' r s D j) (k' : At_ w' w'' r s D k) : At_ w w'' r s D k := ⟨k'.buf, h.kept.trans' k'.kept⟩
theorem drewN (h : At_ w w' r s D j) (n : Nat) : At_ w (w'.drewN n) r s D j := ⟨h.buf.drewN n, h.kept.drewN n⟩
theorem nope (h : At_ w w' r s D j) (k' : Kept Nope w' w'') : At_ w w'' r s D j := ⟨h.buf.nope k', h.kept.trans' k'.nope⟩
theorem move (h : At_ w w' r s D j) (hk : k ≤ D.length) : At_ w (w'.setCell ⟨r, 1, none⟩ (.int .i64 k)) r s D k := ⟨h.buf.move hk, h.kept.set1 1 _⟩
end At_
section
variable (r : Nat) (s : Value) (D : List UInt8) (i : Nat) (w : World)
theorem readCheck_any (n : Int) (h : Buf w r s D i) (h0 : 0 ≤ n) (h1 : n ≤ 4611686018427387904) :
    Calls Tryz.prog 164 #[.pointer (some ⟨r, 0, none⟩), .int .i64 n] w fun e w' => e = .returned (.bool (decide ((D.length : Int) < i + n))) ∧ Drew w w' := by
  have hsm := h.small
  have hle := h.le
  have c1 : w.cell? ⟨r, 1, none⟩ = some (.int .i64 i) := h.blk.cell 1
  obtain ⟨a, c, rfl, hc, hm, hb⟩ := h.bytes
  have c0 : w.cell? ⟨r, 0, none⟩ = some (.slice a D.length c) := h.blk.cell 0
  clear h hb
  have hs : IntKind.i64.wrap (i + n) = i + n := IntWalk.i64_in _ (by omega)
  go_enter Tryz.func164, Tryz.ntmps164
  go_wp2
  go_quiet (fail)
  go_wp2
  go_ret
  exact ⟨rfl, _, rfl⟩
theorem readCheck_yes (n : Int) (h : Buf w r s D i) (h0 : 0 ≤ n) (h1 : n ≤ 4611686018427387904) (hlt : (D.length : Int) < i + n) :
    Calls Tryz.prog 164 #[.pointer (some ⟨r, 0, none⟩), .int .i64 n] w fun e w' => e = .returned (.bool true) ∧ Drew w w' :=
  (readCheck_any r s D i w n h h0 h1).mono fun e w' ⟨he, hk⟩ => ⟨by rw [he, decide_eq_true hlt], hk⟩
theorem readCheck_no (n : Int) (h : Buf w r s D i) (h0 : 0 ≤ n) (h1 : n ≤ 4611686018427387904) (hlt : i + n ≤ (D.length : Int)) :
    Calls Tryz.prog 164 #[.pointer (some ⟨r, 0, none⟩), .int .i64 n] w fun e w' => e = .returned (.bool false) ∧ Drew w w' :=
  (readCheck_any r s D i w n h h0 h1).mono fun e w' ⟨he, hk⟩ => ⟨by rw [he, decide_eq_false (by omega)], hk⟩
theorem Len_any (h : Buf w r s D i) :
    Calls Tryz.prog 45 #[.pointer (some ⟨r, 0, none⟩)] w fun e w' => e = .returned (.int .i64 ((D.length : Int) - i)) ∧ Drew w w' := by
  have hsm := h.small
  have hle := h.le
  have c1 : w.cell? ⟨r, 1, none⟩ = some (.int .i64 i) := h.blk.cell 1
  obtain ⟨a, c, rfl, hc, hm, hb⟩ := h.bytes
  have c0 : w.cell? ⟨r, 0, none⟩ = some (.slice a D.length c) := h.blk.cell 0
  clear h hb
  have hs : IntKind.i64.wrap ((D.length : Int) - i) = (D.length : Int) - i := IntWalk.i64_in _ (by omega)
  go_enter Tryz.func45, Tryz.ntmps45
  go_wp2
  go_quiet (fail)
  go_wp2
  go_ret
  exact ⟨rfl, _, rfl⟩
theorem Bytes_any (h : Buf w r s D i) :
    Calls Tryz.prog 44 #[.pointer (some ⟨r, 0, none⟩)] w (Gives fun v w' => BSl (fun b => b ≠ r) w v (D.drop i) ∧ Drew w w') := by
  have hle := h.le
  have c1 : w.cell? ⟨r, 1, none⟩ = some (.int .i64 i) := h.blk.cell 1
  have hB := h.bytes
  obtain ⟨a, c, rfl, hc, hm, hb⟩ := h.bytes
  have c0 : w.cell? ⟨r, 0, none⟩ = some (.slice a D.length c) := h.blk.cell 0
  have hcut := hB.from_ hle
  clear h hb hB
  by_cases hci : c = i
  · subst hci
    rw [if_pos rfl] at hcut
    have H := Lib.hid hcut
    clear hcut
    go_enter Tryz.func44, Tryz.ntmps44
    go_wp2
    go_quiet (fail)
    go_wp2
    go_ret
    have hz : D.length - c = 0 := by omega
    exact ⟨_, rfl, by simpa [hz] using H.out, _, rfl⟩
  · rw [if_neg hci] at hcut
    have H := Lib.hid hcut
    clear hcut
    go_enter Tryz.func44, Tryz.ntmps44
    go_wp2
    go_quiet (fail)
    go_wp2
    go_ret
    exact ⟨_, rfl, H.out, _, rfl⟩
theorem Next_yes (n : Nat) (h : Buf w r s D i) (hn : i + n ≤ D.length) :
    Calls Tryz.prog 142 #[.pointer (some ⟨r, 0, none⟩), .int .i64 n] w (Gives2 fun v b w' => b = .bool true ∧ BSl (fun b => b ≠ r) w' v ((D.drop i).take n) ∧ At_ w w' r s D (i + n)) := by
  have hsm := h.small
  have hB := h.bytes
  have hck := readCheck_no r s D i w n h (by omega) (by omega) (by omega)
  have c1 : w.cell? ⟨r, 1, none⟩ = some (.int .i64 i) := h.blk.cell 1
  have f1 : w.frozen? ⟨r, 1, none⟩ = false := h.blk.frozen 1
  obtain ⟨a, c, rfl, hc, hm, hb⟩ := h.bytes
  have c0 : w.cell? ⟨r, 0, none⟩ = some (.slice a D.length c) := h.blk.cell 0
  have hcut := hB.cut (l := i) (h := i + n) (by omega) hn
  rw [show i + n - i = n by omega] at hcut
  have HB := Lib.hid h
  have HC := Lib.hid hck
  clear hb hB h hck
  unfold maxLen at hm
  have hs : IntKind.i64.wrap ((i : Int) + n) = (i : Int) + n := IntWalk.i64_in _ (by omega)
  have hs' : ((i : Int) + n).toNat = i + n := by omega
  have hs'' : ((i : Int) + n).toNat - i = n := by omega
  have hkk : ∀ q, Kept (Only r) w ((w.drewN q).setCell ⟨r, 1, none⟩ (.int .i64 (↑i + ↑n))) := fun q => ((Kept.refl (Only r) w).drewN _).set1 1 _
  have HK := Lib.hid hkk
  clear hkk
  by_cases hci : c = i
  · subst hci
    rw [if_pos rfl] at hcut
    have H := Lib.hid hcut
    clear hcut
    go_enter Tryz.func142, Tryz.ntmps142
    go_wp2_with (go_at_call 164; refine HC.out.mono ?_; rintro e w' ⟨rfl, k, rfl⟩)
    go_quiet (fail)
    go_wp2
    go_ret2
    refine ⟨_, _, rfl, rfl, ?_, (HB.out.drewN _).move hn, HK.out _⟩
    simpa using H.out.keep (HK.out (k + nq)) (fun b _ hb he => hb he)
  · rw [if_neg hci] at hcut
    have H := Lib.hid hcut
    clear hcut
    go_enter Tryz.func142, Tryz.ntmps142
    go_wp2_with (go_at_call 164; refine HC.out.mono ?_; rintro e w' ⟨rfl, k, rfl⟩)
    go_quiet (fail)
    go_wp2
    go_ret2
    refine ⟨_, _, rfl, rfl, ?_, (HB.out.drewN _).move hn, HK.out _⟩
    exact H.out.keep (HK.out (k + nq)) (fun b _ hb he => hb he)
theorem Next_no (n : Nat) (h : Buf w r s D i) (hn : D.length < i + n) (hb : n ≤ 4611686018427387904) :
    Calls Tryz.prog 142 #[.pointer (some ⟨r, 0, none⟩), .int .i64 n] w (Gives2 fun _ b w' => b = .bool false ∧ At_ w w' r s D D.length) := by
  have hsm := h.small
  have hle := h.le
  have hck := readCheck_yes r s D i w n h (by omega) (by omega) (by omega)
  have c1 : w.cell? ⟨r, 1, none⟩ = some (.int .i64 i) := h.blk.cell 1
  have f1 : w.frozen? ⟨r, 1, none⟩ = false := h.blk.frozen 1
  obtain ⟨a, c, rfl, hc, hm, _⟩ := h.bytes
  have c0 : w.cell? ⟨r, 0, none⟩ = some (.slice a D.length c) := h.blk.cell 0
  have HB := Lib.hid h
  have HC := Lib.hid hck
  clear h hck
  unfold maxLen at hm
  by_cases hci : c = i
  · subst hci
    go_enter Tryz.func142, Tryz.ntmps142
    go_wp2_with (go_at_call 164; refine HC.out.mono ?_; rintro e w' ⟨rfl, k, rfl⟩)
    go_quiet (fail)
    go_wp2
    go_ret2
    exact ⟨_, _, rfl, rfl, (HB.out.drewN _).move (Nat.le_refl _), ((Kept.refl (Only r) w).drewN _).set1 1 _⟩
  · go_enter Tryz.func142, Tryz.ntmps142
    go_wp2_with (go_at_call 164; refine HC.out.mono ?_; rintro e w' ⟨rfl, k, rfl⟩)
    go_quiet (fail)
    go_wp2
    go_ret2
    exact ⟨_, _, rfl, rfl, (HB.out.drewN _).move (Nat.le_refl _), ((Kept.refl (Only r) w).drewN _).set1 1 _⟩
theorem ReadByte_yes (x : UInt8) (h : Buf w r s D i) (hx : D[i]? = some x) :
    Calls Tryz.prog 140 #[.pointer (some ⟨r, 0, none⟩)] w fun e w' => e = .returned (.tuple #[.int .u8 x.toNat, .nilIface]) ∧ At_ w w' r s D (i + 1) := by
  have hlt : i < D.length := (List.getElem?_eq_some_iff.1 hx).1
  have hsm := h.small
  have hck := readCheck_no r s D i w 1 h (by omega) (by omega) (by omega)
  have c1 : w.cell? ⟨r, 1, none⟩ = some (.int .i64 i) := h.blk.cell 1
  have f1 : w.frozen? ⟨r, 1, none⟩ = false := h.blk.frozen 1
  obtain ⟨b, off, c, rfl, hS, hc, hm, cb⟩ := h.bytes.at_ hx
  have c0 : w.cell? ⟨r, 0, none⟩ = some (.slice (some ⟨b, off, none⟩) D.length c) := h.blk.cell 0
  have HB := Lib.hid h
  have HC := Lib.hid hck
  clear h hck hx
  have hs : IntKind.i64.wrap ((i : Int) + 1) = (i : Int) + 1 := IntWalk.i64_in _ (by omega)
  have hlt' : (i : Int) < (D.length : Int) := by omega
  unfold u8 at cb
  go_enter Tryz.func140, Tryz.ntmps140
  go_wp2_with (go_at_call 164; refine HC.out.mono ?_; rintro e w' ⟨rfl, k, rfl⟩)
  go_quiet (fail)
  go_wp2
  go_ret2
  exact ⟨rfl, (HB.out.drewN _).move (show i + 1 ≤ D.length from hlt), ((Kept.refl (Only r) w).drewN _).set1 1 _⟩
theorem ReadByte_no (h : Buf w r s D i) (hx : D.length ≤ i) :
    Calls Tryz.prog 140 #[.pointer (some ⟨r, 0, none⟩)] w (Gives2 fun x v w' => x = .int .u8 0 ∧ IsErr v ∧ At_ w w' r s D i) := by
  have hsm := h.small
  have hck := readCheck_yes r s D i w 1 h (by omega) (by omega) (by omega)
  obtain ⟨v, hv, ce⟩ := h.eof
  have HB := Lib.hid h
  have HC := Lib.hid hck
  have HV := Lib.hid hv
  clear h hck hv
  go_enter Tryz.func140, Tryz.ntmps140
  go_wp2_with (go_at_call 164; refine HC.out.mono ?_; rintro e w' ⟨rfl, k, rfl⟩)
  go_quiet (fail)
  go_wp2
  go_ret2
  rw [World.drewN_drewN]
  exact ⟨_, v, rfl, rfl, HV.out, HB.out.drewN _, (Kept.refl (Only r) w).drewN _⟩
theorem PeekByte_yes (x : UInt8) (h : Buf w r s D i) (hx : D[i]? = some x) :
    Calls Tryz.prog 165 #[.pointer (some ⟨r, 0, none⟩)] w fun e w' => e = .returned (.tuple #[.int .u8 x.toNat, .nilIface]) ∧ Drew w w' := by
  have hlt : i < D.length := (List.getElem?_eq_some_iff.1 hx).1
  have hsm := h.small
  have hck := readCheck_no r s D i w 1 h (by omega) (by omega) (by omega)
  have c1 : w.cell? ⟨r, 1, none⟩ = some (.int .i64 i) := h.blk.cell 1
  obtain ⟨b, off, c, rfl, hS, hc, hm, cb⟩ := h.bytes.at_ hx
  have c0 : w.cell? ⟨r, 0, none⟩ = some (.slice (some ⟨b, off, none⟩) D.length c) := h.blk.cell 0
  have HC := Lib.hid hck
  clear h hck hx
  have hlt' : (i : Int) < (D.length : Int) := by omega
  unfold u8 at cb
  go_enter Tryz.func165, Tryz.ntmps165
  go_wp2_with (go_at_call 164; refine HC.out.mono ?_; rintro e w' ⟨rfl, k, rfl⟩)
  go_quiet (fail)
  go_wp2
  go_ret2
  exact ⟨rfl, _, World.drewN_drewN _ _ _⟩
theorem PeekByte_no (h : Buf w r s D i) (hx : D.length ≤ i) :
    Calls Tryz.prog 165 #[.pointer (some ⟨r, 0, none⟩)] w (Gives2 fun x v w' => x = .int .u8 0 ∧ IsErr v ∧ Drew w w') := by
  have hsm := h.small
  have hck := readCheck_yes r s D i w 1 h (by omega) (by omega) (by omega)
  obtain ⟨v, hv, ce⟩ := h.eof
  have HC := Lib.hid hck
  have HV := Lib.hid hv
  clear h hck hv
  go_enter Tryz.func165, Tryz.ntmps165
  go_wp2_with (go_at_call 164; refine HC.out.mono ?_; rintro e w' ⟨rfl, k, rfl⟩)
  go_quiet (fail)
  go_wp2
  go_ret2
  exact ⟨_, v, rfl, rfl, HV.out, _, World.drewN_drewN _ _ _⟩
theorem Skip_any (n : Nat) (h : Buf w r s D i) (hn : i + n ≤ D.length) :
    Calls Tryz.prog 102 #[.pointer (some ⟨r, 0, none⟩), .int .i64 n] w fun e w' => e = .returned (.tuple #[]) ∧ At_ w w' r s D (i + n) := by
  have hsm := h.small
  have c1 : w.cell? ⟨r, 1, none⟩ = some (.int .i64 i) := h.blk.cell 1
  have f1 : w.frozen? ⟨r, 1, none⟩ = false := h.blk.frozen 1
  have HB := Lib.hid h
  clear h
  have hs : IntKind.i64.wrap ((i : Int) + n) = (i : Int) + n := IntWalk.i64_in _ (by omega)
  go_enter Tryz.func102, Tryz.ntmps102
  go_wp2
  go_end0
  exact ⟨rfl, HB.out.move hn, (Kept.refl (Only r) w).set1 1 _⟩
end
end Go.Proofs.YtbckofjoancdjaaGreatDoor
