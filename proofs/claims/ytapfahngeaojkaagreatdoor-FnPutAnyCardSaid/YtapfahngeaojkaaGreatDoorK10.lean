/- Package msgp: prefixu8.., putMint8.., putMuint8..: a code and a number, stored one byte behind the other. Package msgp: ensure: room behind the bytes of a row of the call's own. -/
import Derived.Test.YtapfahngeaojkaaGreatDoorK9
import Derived.Test.YtapfahngeaojkaaGreatDoorK3
namespace Go.Proofs.YtapfahngeaojkaaGreatDoor
open Go Go.RowKit Go.Lib
theorem u8v {x : Int} {k : Nat} (h : x = ((k % 256 : Nat) : Int)) : Value.int .u8 x = u8 (UInt8.ofNat k) := by
  unfold u8
  rw [h]
  simp
set_option maxRecDepth 100000 in
set_option maxHeartbeats 1600000 in
theorem prefixu8_ok (w : World) (g off m c : Nat) (cur : Array Value) (hb : Blk w g 5 cur) (hm : 2 ≤ m) (hc : off + 2 ≤ cur.size) (c0 n : Nat) (h0 : c0 < 256) (hn : n < 256 ^ 1) :
    Calls Tryz.prog 58 #[.slice (some ⟨g, off, none⟩) m c, .int .u8 c0, .int .u8 n] w (PutB g cur off (UInt8.ofNat c0 :: be 1 n) w) := by
  have HS := Lib.hid (Stored.start off hb)
  obtain ⟨u, hu⟩ := cell_in hb (i := off + 1) (by omega)
  have i0 : 0 < m := by omega
  have i1 : 1 < m := by omega
  clear hb
  go_enter Tryz.func58, Tryz.ntmps58
  go_wp2_with (refine wpList_put rfl _ _ rfl HS _ rfl rfl (by simp only [List.length_append, List.length_cons, List.length_nil]; omega) ?_; clear HS; intro wN HS)
  go_end0
  refine HS.out.putB _ ?_
  simp only [List.nil_append, List.cons_append, be, List.map_cons, List.map_nil, List.cons.injEq, and_true]
  exact ⟨u8v (by first | omega | decide), u8v (by first | omega | decide)⟩
set_option maxRecDepth 100000 in
set_option maxHeartbeats 1600000 in
theorem prefixu16_ok (w : World) (g off m c : Nat) (cur : Array Value) (hb : Blk w g 5 cur) (hm : 3 ≤ m) (hc : off + 3 ≤ cur.size) (c0 n : Nat) (h0 : c0 < 256) (hn : n < 256 ^ 2) :
    Calls Tryz.prog 59 #[.slice (some ⟨g, off, none⟩) m c, .int .u8 c0, .int .u16 n] w (PutB g cur off (UInt8.ofNat c0 :: be 2 n) w) := by
  have HS := Lib.hid (Stored.start off hb)
  obtain ⟨u, hu⟩ := cell_in hb (i := off + 2) (by omega)
  have i0 : 0 < m := by omega
  have i1 : 1 < m := by omega
  have i2 : 2 < m := by omega
  clear hb
  go_enter Tryz.func59, Tryz.ntmps59
  go_wp2_with (refine wpList_put rfl _ _ rfl HS _ rfl rfl (by simp only [List.length_append, List.length_cons, List.length_nil]; omega) ?_; clear HS; intro wN HS)
  go_end0
  refine HS.out.putB _ ?_
  simp only [List.nil_append, List.cons_append, be, List.map_cons, List.map_nil, List.cons.injEq, and_true]
  exact ⟨u8v (by first | omega | decide), u8v (by first | omega | decide), u8v (by first | omega | decide)⟩
set_option maxRecDepth 100000 in
set_option maxHeartbeats 1600000 in
theorem prefixu32_ok (w : World) (g off m c : Nat) (cur : Array Value) (hb : Blk w g 5 cur) (hm : 5 ≤ m) (hc : off + 5 ≤ cur.size) (c0 n : Nat) (h0 : c0 < 256) (hn : n < 256 ^ 4) :
    Calls Tryz.prog 52 #[.slice (some ⟨g, off, none⟩) m c, .int .u8 c0, .int .u32 n] w (PutB g cur off (UInt8.ofNat c0 :: be 4 n) w) := by
  have HS := Lib.hid (Stored.start off hb)
  obtain ⟨u, hu⟩ := cell_in hb (i := off + 4) (by omega)
  have i0 : 0 < m := by omega
  have i1 : 1 < m := by omega
  have i2 : 2 < m := by omega
  have i3 : 3 < m := by omega
  have i4 : 4 < m := by omega
  clear hb
  go_enter Tryz.func52, Tryz.ntmps52
  go_wp2_with (refine wpList_put rfl _ _ rfl HS _ rfl rfl (by simp only [List.length_append, List.length_cons, List.length_nil]; omega) ?_; clear HS; intro wN HS)
  go_end0
  refine HS.out.putB _ ?_
  simp only [List.nil_append, List.cons_append, be, List.map_cons, List.map_nil, List.cons.injEq, and_true]
  exact ⟨u8v (by first | omega | decide), u8v (by first | omega | decide), u8v (by first | omega | decide), u8v (by first | omega | decide), u8v (by first | omega | decide)⟩
set_option maxRecDepth 100000 in
set_option maxHeartbeats 1600000 in
theorem prefixu64_ok (w : World) (g off m c : Nat) (cur : Array Value) (hb : Blk w g 5 cur) (hm : 9 ≤ m) (hc : off + 9 ≤ cur.size) (c0 n : Nat) (h0 : c0 < 256) (hn : n < 256 ^ 8) :
    Calls Tryz.prog 54 #[.slice (some ⟨g, off, none⟩) m c, .int .u8 c0, .int .u64 n] w (PutB g cur off (UInt8.ofNat c0 :: be 8 n) w) := by
  have HS := Lib.hid (Stored.start off hb)
  obtain ⟨u, hu⟩ := cell_in hb (i := off + 8) (by omega)
  have i0 : 0 < m := by omega
  have i1 : 1 < m := by omega
  have i2 : 2 < m := by omega
  have i3 : 3 < m := by omega
  have i4 : 4 < m := by omega
  have i5 : 5 < m := by omega
  have i6 : 6 < m := by omega
  have i7 : 7 < m := by omega
  have i8 : 8 < m := by omega
  clear hb
  go_enter Tryz.func54, Tryz.ntmps54
  go_wp2_with (refine wpList_put rfl _ _ rfl HS _ rfl rfl (by simp only [List.length_append, List.length_cons, List.length_nil]; omega) ?_; clear HS; intro wN HS)
  go_end0
  refine HS.out.putB _ ?_
  simp only [List.nil_append, List.cons_append, be, List.map_cons, List.map_nil, List.cons.injEq, and_true]
  exact ⟨u8v (by first | omega | decide), u8v (by first | omega | decide), u8v (by first | omega | decide), u8v (by first | omega | decide), u8v (by first | omega | decide), u8v (by first | omega | decide), u8v (by first | omega | decide), u8v (by first | omega | decide), u8v (by first | omega | decide)⟩
set_option maxRecDepth 100000 in
set_option maxHeartbeats 1600000 in
theorem putMuint8_ok (w : World) (g off m c : Nat) (cur : Array Value) (hb : Blk w g 5 cur) (hm : 2 ≤ m) (hc : off + 2 ≤ cur.size) (n : Nat) (hn : n < 256 ^ 1) :
    Calls Tryz.prog 66 #[.slice (some ⟨g, off, none⟩) m c, .int .u8 n] w (PutB g cur off (UInt8.ofNat 0xcc :: be 1 n) w) := by
  have HS := Lib.hid (Stored.start off hb)
  obtain ⟨u, hu⟩ := cell_in hb (i := off + 1) (by omega)
  have i0 : 0 < m := by omega
  have i1 : 1 < m := by omega
  clear hb
  go_enter Tryz.func66, Tryz.ntmps66
  go_wp2_with (refine wpList_put rfl _ _ rfl HS _ rfl rfl (by simp only [List.length_append, List.length_cons, List.length_nil]; omega) ?_; clear HS; intro wN HS)
  go_end0
  refine HS.out.putB _ ?_
  simp only [List.nil_append, List.cons_append, be, List.map_cons, List.map_nil, List.cons.injEq, and_true]
  exact ⟨u8v (by first | omega | decide), u8v (by first | omega | decide)⟩
set_option maxRecDepth 100000 in
set_option maxHeartbeats 1600000 in
theorem putMuint16_ok (w : World) (g off m c : Nat) (cur : Array Value) (hb : Blk w g 5 cur) (hm : 3 ≤ m) (hc : off + 3 ≤ cur.size) (n : Nat) (hn : n < 256 ^ 2) :
    Calls Tryz.prog 67 #[.slice (some ⟨g, off, none⟩) m c, .int .u16 n] w (PutB g cur off (UInt8.ofNat 0xcd :: be 2 n) w) := by
  have HS := Lib.hid (Stored.start off hb)
  obtain ⟨u, hu⟩ := cell_in hb (i := off + 2) (by omega)
  have i0 : 0 < m := by omega
  have i1 : 1 < m := by omega
  have i2 : 2 < m := by omega
  clear hb
  go_enter Tryz.func67, Tryz.ntmps67
  go_wp2_with (refine wpList_put rfl _ _ rfl HS _ rfl rfl (by simp only [List.length_append, List.length_cons, List.length_nil]; omega) ?_; clear HS; intro wN HS)
  go_end0
  refine HS.out.putB _ ?_
  simp only [List.nil_append, List.cons_append, be, List.map_cons, List.map_nil, List.cons.injEq, and_true]
  exact ⟨u8v (by first | omega | decide), u8v (by first | omega | decide), u8v (by first | omega | decide)⟩
set_option maxRecDepth 100000 in
set_option maxHeartbeats 1600000 in
theorem putMuint32_ok (w : World) (g off m c : Nat) (cur : Array Value) (hb : Blk w g 5 cur) (hm : 5 ≤ m) (hc : off + 5 ≤ cur.size) (n : Nat) (hn : n < 256 ^ 4) :
    Calls Tryz.prog 68 #[.slice (some ⟨g, off, none⟩) m c, .int .u32 n] w (PutB g cur off (UInt8.ofNat 0xce :: be 4 n) w) := by
  have HS := Lib.hid (Stored.start off hb)
  obtain ⟨u, hu⟩ := cell_in hb (i := off + 4) (by omega)
  have i0 : 0 < m := by omega
  have i1 : 1 < m := by omega
  have i2 : 2 < m := by omega
  have i3 : 3 < m := by omega
  have i4 : 4 < m := by omega
  clear hb
  go_enter Tryz.func68, Tryz.ntmps68
  go_wp2_with (refine wpList_put rfl _ _ rfl HS _ rfl rfl (by simp only [List.length_append, List.length_cons, List.length_nil]; omega) ?_; clear HS; intro wN HS)
  go_end0
  refine HS.out.putB _ ?_
  simp only [List.nil_append, List.cons_append, be, List.map_cons, List.map_nil, List.cons.injEq, and_true]
  exact ⟨u8v (by first | omega | decide), u8v (by first | omega | decide), u8v (by first | omega | decide), u8v (by first | omega | decide), u8v (by first | omega | decide)⟩
set_option maxRecDepth 100000 in
set_option maxHeartbeats 1600000 in
theorem putMuint64_ok (w : World) (g off m c : Nat) (cur : Array Value) (hb : Blk w g 5 cur) (hm : 9 ≤ m) (hc : off + 9 ≤ cur.size) (n : Nat) (hn : n < 256 ^ 8) :
    Calls Tryz.prog 69 #[.slice (some ⟨g, off, none⟩) m c, .int .u64 n] w (PutB g cur off (UInt8.ofNat 0xcf :: be 8 n) w) := by
  have HS := Lib.hid (Stored.start off hb)
  obtain ⟨u, hu⟩ := cell_in hb (i := off + 8) (by omega)
  have i0 : 0 < m := by omega
  have i1 : 1 < m := by omega
  have i2 : 2 < m := by omega
  have i3 : 3 < m := by omega
  have i4 : 4 < m := by omega
  have i5 : 5 < m := by omega
  have i6 : 6 < m := by omega
  have i7 : 7 < m := by omega
  have i8 : 8 < m := by omega
  clear hb
  go_enter Tryz.func69, Tryz.ntmps69
  go_wp2_with (refine wpList_put rfl _ _ rfl HS _ rfl rfl (by simp only [List.length_append, List.length_cons, List.length_nil]; omega) ?_; clear HS; intro wN HS)
  go_end0
  refine HS.out.putB _ ?_
  simp only [List.nil_append, List.cons_append, be, List.map_cons, List.map_nil, List.cons.injEq, and_true]
  exact ⟨u8v (by first | omega | decide), u8v (by first | omega | decide), u8v (by first | omega | decide), u8v (by first | omega | decide), u8v (by first | omega | decide), u8v (by first | omega | decide), u8v (by first | omega | decide), u8v (by first | omega | decide), u8v (by first | omega | decide)⟩
set_option maxRecDepth 100000 in
set_option maxHeartbeats 1600000 in
theorem putMint8_ok (w : World) (g off m c : Nat) (cur : Array Value) (hb : Blk w g 5 cur) (hm : 2 ≤ m) (hc : off + 2 ≤ cur.size) (i : Int) (N : Nat) (hi : -128 ≤ i) (hi2 : i < 128) (hN : (N : Int) = i ∨ (N : Int) = i + 18446744073709551616) :
    Calls Tryz.prog 65 #[.slice (some ⟨g, off, none⟩) m c, .int .i8 i] w (PutB g cur off (UInt8.ofNat 0xd0 :: be 1 N) w) := by
  have HS := Lib.hid (Stored.start off hb)
  obtain ⟨u, hu⟩ := cell_in hb (i := off + 1) (by omega)
  have i0 : 0 < m := by omega
  have i1 : 1 < m := by omega
  clear hb
  go_enter Tryz.func65, Tryz.ntmps65
  go_wp2_with (refine wpList_put rfl _ _ rfl HS _ rfl rfl (by simp only [List.length_append, List.length_cons, List.length_nil]; omega) ?_; clear HS; intro wN HS)
  go_end0
  refine HS.out.putB _ ?_
  simp only [List.nil_append, List.cons_append, be, List.map_cons, List.map_nil, List.cons.injEq, and_true]
  exact ⟨u8v (by first | omega | decide), u8v (by first | omega | decide)⟩
set_option maxRecDepth 100000 in
set_option maxHeartbeats 1600000 in
theorem putMint16_ok (w : World) (g off m c : Nat) (cur : Array Value) (hb : Blk w g 5 cur) (hm : 3 ≤ m) (hc : off + 3 ≤ cur.size) (i : Int) (N : Nat) (hi : -32768 ≤ i) (hi2 : i < 32768) (hN : (N : Int) = i ∨ (N : Int) = i + 18446744073709551616) :
    Calls Tryz.prog 61 #[.slice (some ⟨g, off, none⟩) m c, .int .i16 i] w (PutB g cur off (UInt8.ofNat 0xd1 :: be 2 N) w) := by
  have HS := Lib.hid (Stored.start off hb)
  obtain ⟨u, hu⟩ := cell_in hb (i := off + 2) (by omega)
  have i0 : 0 < m := by omega
  have i1 : 1 < m := by omega
  have i2 : 2 < m := by omega
  clear hb
  go_enter Tryz.func61, Tryz.ntmps61
  go_wp2_with (refine wpList_put rfl _ _ rfl HS _ rfl rfl (by simp only [List.length_append, List.length_cons, List.length_nil]; omega) ?_; clear HS; intro wN HS)
  go_end0
  refine HS.out.putB _ ?_
  simp only [List.nil_append, List.cons_append, be, List.map_cons, List.map_nil, List.cons.injEq, and_true]
  exact ⟨u8v (by first | omega | decide), u8v (by first | omega | decide), u8v (by first | omega | decide)⟩
set_option maxRecDepth 100000 in
set_option maxHeartbeats 1600000 in
theorem putMint32_ok (w : World) (g off m c : Nat) (cur : Array Value) (hb : Blk w g 5 cur) (hm : 5 ≤ m) (hc : off + 5 ≤ cur.size) (i : Int) (N : Nat) (hi : -2147483648 ≤ i) (hi2 : i < 2147483648) (hN : (N : Int) = i ∨ (N : Int) = i + 18446744073709551616) :
    Calls Tryz.prog 62 #[.slice (some ⟨g, off, none⟩) m c, .int .i32 i] w (PutB g cur off (UInt8.ofNat 0xd2 :: be 4 N) w) := by
  have HS := Lib.hid (Stored.start off hb)
  obtain ⟨u, hu⟩ := cell_in hb (i := off + 4) (by omega)
  have i0 : 0 < m := by omega
  have i1 : 1 < m := by omega
  have i2 : 2 < m := by omega
  have i3 : 3 < m := by omega
  have i4 : 4 < m := by omega
  clear hb
  go_enter Tryz.func62, Tryz.ntmps62
  go_wp2_with (refine wpList_put rfl _ _ rfl HS _ rfl rfl (by simp only [List.length_append, List.length_cons, List.length_nil]; omega) ?_; clear HS; intro wN HS)
  go_end0
  refine HS.out.putB _ ?_
  simp only [List.nil_append, List.cons_append, be, List.map_cons, List.map_nil, List.cons.injEq, and_true]
  exact ⟨u8v (by first | omega | decide), u8v (by first | omega | decide), u8v (by first | omega | decide), u8v (by first | omega | decide), u8v (by first | omega | decide)⟩
set_option maxRecDepth 100000 in
set_option maxHeartbeats 1600000 in
theorem putMint64_ok (w : World) (g off m c : Nat) (cur : Array Value) (hb : Blk w g 5 cur) (hm : 9 ≤ m) (hc : off + 9 ≤ cur.size) (i : Int) (N : Nat) (hi : -9223372036854775808 ≤ i) (hi2 : i < 9223372036854775808) (hN : (N : Int) = i ∨ (N : Int) = i + 18446744073709551616) :
    Calls Tryz.prog 63 #[.slice (some ⟨g, off, none⟩) m c, .int .i64 i] w (PutB g cur off (UInt8.ofNat 0xd3 :: be 8 N) w) := by
  have HS := Lib.hid (Stored.start off hb)
  obtain ⟨u, hu⟩ := cell_in hb (i := off + 8) (by omega)
  have i0 : 0 < m := by omega
  have i1 : 1 < m := by omega
  have i2 : 2 < m := by omega
  have i3 : 3 < m := by omega
  have i4 : 4 < m := by omega
  have i5 : 5 < m := by omega
  have i6 : 6 < m := by omega
  have i7 : 7 < m := by omega
  have i8 : 8 < m := by omega
  clear hb
  go_enter Tryz.func63, Tryz.ntmps63
  go_wp2_with (refine wpList_put rfl _ _ rfl HS _ rfl rfl (by simp only [List.length_append, List.length_cons, List.length_nil]; omega) ?_; clear HS; intro wN HS)
  go_end0
  refine HS.out.putB _ ?_
  simp only [List.nil_append, List.cons_append, be, List.map_cons, List.map_nil, List.cons.injEq, and_true]
  exact ⟨u8v (by first | omega | decide), u8v (by first | omega | decide), u8v (by first | omega | decide), u8v (by first | omega | decide), u8v (by first | omega | decide), u8v (by first | omega | decide), u8v (by first | omega | decide), u8v (by first | omega | decide), u8v (by first | omega | decide)⟩
end Go.Proofs.YtapfahngeaojkaaGreatDoor
namespace Go.Proofs.YtapfahngeaojkaaGreatDoor
open Go Go.RowKit Go.Lib
def EnsP (M : Nat → Prop) (bs : List UInt8) (sz : Nat) (w : World) : Ending → World → Prop := fun e w' => ∃ g cap cur, e = .returned (.tuple #[.slice (some ⟨g, 0, none⟩) (bs.length + sz) cap, .int .i64 bs.length]) ∧ Wide M w' g cap (bs.length + sz) cur bs ∧ Kept M w w'
set_option maxRecDepth 100000 in
set_option maxHeartbeats 1600000 in
theorem ensure_ok (M : Nat → Prop) (w : World) (v : Value) (bs : List UInt8) (sz : Nat) (hv : BRow M w v bs) (hsz : 1 ≤ sz) (hl : bs.length + sz ≤ 1099511627776) (hb : ∀ k, w.heap.size ≤ k → M k) :
    Calls Tryz.prog 49 #[v, .int .i64 sz] w (EnsP M bs sz w) := by
  have HV := Lib.hid hv
  obtain ⟨⟨hlen, hv⟩, hvM⟩ := hv
  obtain ⟨n, hn⟩ : ∃ n, bs.length = n := ⟨_, rfl⟩
  rw [hn] at hl hv
  have HL := Lib.hid hn
  obtain ⟨p, c, e1, hc1, hc2⟩ : ∃ p c, v = .slice p n c ∧ n ≤ c ∧ c ≤ maxLen := by
    rcases hv with ⟨rfl, h0⟩ | ⟨g, cap, cur, rfl, _, _, h1, h2, _⟩
    · exact ⟨none, 0, by rw [h0], by omega, by decide⟩
    · exact ⟨_, cap, rfl, h1, h2⟩
  subst e1
  unfold maxLen at hc2
  have s1 : IntKind.i64.wrap ((c : Int) - (n : Int)) = (c : Int) - (n : Int) := IntWalk.i64_in _ (by omega)
  by_cases hroom : c - n < sz
  · have t1 : (c : Int) - (n : Int) < (sz : Int) := by omega
    have s2 : IntKind.i64.wrap (2 * (c : Int)) = 2 * (c : Int) := IntWalk.i64_in _ (by omega)
    have s3 : IntKind.i64.wrap (2 * (c : Int) + (sz : Int)) = 2 * (c : Int) + (sz : Int) := IntWalk.i64_in _ (by omega)
    have s4 : IntKind.i64.wrap ((n : Int) + (sz : Int)) = (n : Int) + (sz : Int) := IntWalk.i64_in _ (by omega)
    obtain ⟨m, hm⟩ : ∃ m : Nat, 2 * c + sz = m := ⟨_, rfl⟩
    have hm1 : 2 * (c : Int) + (sz : Int) = (m : Int) := by omega
    have hnm : n + sz ≤ m := by omega
    have hmm : m ≤ 140737488355328 := by omega
    have hlt : (n : Int) + (sz : Int) ≤ (m : Int) := by omega
    clear hv hlen hn hvM
    have HX := Lib.hid (And.intro hm1 hmm)
    clear hm hm1 hmm hc1 hc2 hroom
    go_enter Tryz.func49, Tryz.ntmps49
    go_wp2_with (first
      | (refine wpList_make_u8 _ rfl _ _ rfl _ m HX.out.1 rfl rfl HX.out.2 ?_; intro W1 HM)
      | (obtain ⟨hk1, cur, hb1, hs1⟩ := HM.out; have H1 := Lib.hid (And.intro hk1 (And.intro hb1 hs1)); clear HM hk1 hb1 hs1; refine wpList_copy_b rfl _ _ rfl _ m m w.heap.size 0 cur _ rfl rfl H1.out.2.1 bs (HV.out.bsl.keep H1.out.1 (fun _ _ _ h => h)) (fun _ => rfl) (by rw [HL.out]; omega) (by rw [HL.out, H1.out.2.2]; omega) ?_; rw [HL.out]; intro W2 HC))
    go_ret2
    obtain ⟨hk2, cur', hb2, hs2, ht2⟩ := HC.out
    refine ⟨w.heap.size, m, cur', by rw [HL.out]; rfl, ⟨hb _ (Nat.le_refl _), hb2, by rw [hs2]; exact H1.out.2.2, by rw [HL.out]; exact hnm, by have := HX.out.2; unfold maxLen; omega, ?_, by omega⟩, ?_⟩
    · simpa using ht2
    · exact (H1.out.1.nope).trans hk2 (fun b hlt hk => absurd hlt (by have e : b = w.heap.size := hk; omega))
  · have t1 : ¬ (c : Int) - (n : Int) < (sz : Int) := by omega
    have s4 : IntKind.i64.wrap ((n : Int) + (sz : Int)) = (n : Int) + (sz : Int) := IntWalk.i64_in _ (by omega)
    obtain ⟨g, cur, rfl, hg0, hg, hcs, ht⟩ : ∃ g cur, p = some ⟨g, 0, none⟩ ∧ M g ∧ w.heap[g]? = some (.cells cur 5 (0, 0)) ∧ cur.size = c * 1 ∧ cur.toList.take (n * 1) = bs.map u8 := by
      rcases hv with ⟨e, _⟩ | ⟨g, cap, cur, e, h1, h2, _, _, h5, h6⟩
      · injection e with e1 e2 e3
        omega
      · injection e with e1 e2 e3
        subst e1 e3
        exact ⟨g, cur, rfl, hvM g rfl, h2, h5, h6⟩
    have HG := Lib.hid (And.intro hg0 (And.intro hg (And.intro hcs ht)))
    clear hv hlen hn hg0 hg hcs ht hvM
    go_enter Tryz.func49, Tryz.ntmps49
    go_wp2_with fail
    go_ret2
    refine ⟨g, c, cur, by rw [HL.out]; rfl, ⟨HG.out.1, HG.out.2.1, by have := HG.out.2.2.1; omega, by rw [HL.out]; omega, hc2, ?_, by omega⟩, Kept.refl _ _⟩
    have h := HG.out.2.2.2
    rw [Nat.mul_one] at h
    rw [HL.out]
    exact h
end Go.Proofs.YtapfahngeaojkaaGreatDoor
