/- Package msgp: AppendIntf over a list: a head, and each element. -/
import Derived.Test.YtapfahngeaojkaaGreatDoorK13
import Derived.Test.YtapfahngeaojkaaGreatDoorK12
import Derived.Test.YtapfahngeaojkaaGreatDoorK14
namespace Go.Proofs.YtapfahngeaojkaaGreatDoor
open Go Go.RowKit Go.Lib
def PutS (v : V) (ds : List UInt8) : Prop := PutR v ds ∧ ds.length ≤ v.room
def IntfK (M : Nat → Prop) (k : V) : Prop := ∀ (W : World) (b y : Value) (bs : List UInt8), UAny (fun i => ¬ M i) W y k → BRow M W b bs → bs.length + k.room ≤ 549755813888 → (∀ i, W.heap.size ≤ i → M i) → Calls Tryz.prog 13 #[b, y] W (IntfQ M bs (PutS k) W)
theorem sum_takeR {l : List V} {k : Nat} {x : V} (h : l[k]? = some x) : sumOf V.room (l.take (k + 1)) = sumOf V.room (l.take k) + x.room := by
  rw [List.take_add_one, h, sumOf_append]
  simp [sumOf]
theorem sum_takeR_le {l : List V} (k : Nat) : sumOf V.room (l.take k) ≤ sumOf V.room l := by
  have h := sumOf_append V.room (l.take k) (l.drop k)
  rw [List.take_append_drop] at h
  omega
theorem AppendArrayH_ok (M : Nat → Prop) (w : World) (v : Value) (bs : List UInt8) (n : Nat) (h1 : n ≤ 65535) (hv : BRow M w v bs) (hl : bs.length ≤ 549755813888) (hb : ∀ k, w.heap.size ≤ k → M k) : Calls Tryz.prog 46 #[v, .int .u32 n] w (AppQ M bs (ArrH n) w) := by
  rcases (show n < 16 ∨ 15 < n by omega) with h | h
  · exact (AppendArrayH_fix M w v bs n h hv hl hb).mono fun e w' hp => hp.q (.short h)
  · exact (AppendArrayH_16 M w v bs n h h1 hv hl hb).mono fun e w' hp => hp.q (.long (.inl ⟨rfl, rfl⟩) (by omega))
theorem AppendMapH_ok (M : Nat → Prop) (w : World) (v : Value) (bs : List UInt8) (n : Nat) (h1 : n ≤ 65535) (hv : BRow M w v bs) (hl : bs.length ≤ 549755813888) (hb : ∀ k, w.heap.size ≤ k → M k) : Calls Tryz.prog 74 #[v, .int .u32 n] w (AppQ M bs (MapH n) w) := by
  rcases (show n < 16 ∨ 15 < n by omega) with h | h
  · exact (AppendMapH_fix M w v bs n h hv hl hb).mono fun e w' hp => hp.q (.short h)
  · exact (AppendMapH_16 M w v bs n h h1 hv hl hb).mono fun e w' hp => hp.q (.long (.inl ⟨rfl, rfl⟩) (by omega))
theorem ArrH.len {n : Nat} {d : List UInt8} (h : ArrH n d) : d.length ≤ 9 := by
  cases h with
  | short h => simp
  | long hc h => have := sz_a hc; rw [List.length_cons, be_length]; omega
theorem MapH.len {n : Nat} {d : List UInt8} (h : MapH n d) : d.length ≤ 9 := by
  cases h with
  | short h => simp
  | long hc h => have := sz_m hc; rw [List.length_cons, be_length]; omega
set_option maxRecDepth 100000 in
set_option maxHeartbeats 3200000 in
theorem intf_arr (M : Nat → Prop) (v : V) (h8 : v.kind = 8) (hf : v.kids.length ≤ 2000) (w : World) (b s : Value) (bs : List UInt8) (xs : List Value) (hs : CSl (fun i => ¬ M i) w 1 s v.kids.length xs)
    (hx : ∀ (i : Nat) (x : Value) (k : V), xs[i]? = some x → v.kids[i]? = some k → UAny (fun i => ¬ M i) w x k) (hb : BRow M w b bs) (hl : bs.length + v.room ≤ 549755813888) (hbase : ∀ k, w.heap.size ≤ k → M k) (ih : ∀ k ∈ v.kids, IntfK M k) :
    Calls Tryz.prog 13 #[b, .iface 55 s] w (IntfQ M bs (PutS v) w) := by
  have HB := Lib.hid (And.intro hb (And.intro hl hbase))
  have HX := Lib.hid hx
  have HI := Lib.hid ih
  have H8 := Lib.hid h8
  obtain ⟨hxl, p, c, rfl, hc, hm, hs⟩ := hs
  have HS := Lib.hid (And.intro hxl hs)
  obtain ⟨n, hn⟩ : ∃ n, v.kids.length = n := ⟨_, rfl⟩
  rw [hn] at hf hc ⊢
  have HL := Lib.hid hn
  unfold maxLen at hm
  clear hb hl hbase hx ih h8 hxl hs hn
  have f_Marshaler := fun W => as_no_iface Tryz.underlying62 z_Marshaler meth_sAny miss1 (.slice p n c) W
  have f_Extension := fun W => as_no_iface Tryz.underlying65 z_Extension meth_sAny miss2 (.slice p n c) W
  have f_bool := fun W => as_no_bool (T := 55) (.slice p n c) W (by decide)
  have f_f32 := fun W => as_no_f32 (T := 55) (.slice p n c) W (by decide)
  have f_f64 := fun W => as_no_f64 (T := 55) (.slice p n c) W (by decide)
  have f_c64 := fun W => as_no_c64 (T := 55) (.slice p n c) W (by decide)
  have f_c128 := fun W => as_no_c128 (T := 55) (.slice p n c) W (by decide)
  have f_string := fun W => as_no_string (T := 55) (.slice p n c) W (by decide)
  have f_bytes := fun W => as_no_bytes (T := 55) (.slice p n c) W (by decide)
  have f_i8 := fun W => as_no_i8 (T := 55) (.slice p n c) W (by decide)
  have f_i16 := fun W => as_no_i16 (T := 55) (.slice p n c) W (by decide)
  have f_i32 := fun W => as_no_i32 (T := 55) (.slice p n c) W (by decide)
  have f_i64 := fun W => as_no_i64 (T := 55) (.slice p n c) W (by decide)
  have f_int := fun W => as_no_int (T := 55) (.slice p n c) W (by decide)
  have f_uint := fun W => as_no_uint (T := 55) (.slice p n c) W (by decide)
  have f_u8 := fun W => as_no_u8 (T := 55) (.slice p n c) W (by decide)
  have f_u16 := fun W => as_no_u16 (T := 55) (.slice p n c) W (by decide)
  have f_u32 := fun W => as_no_u32 (T := 55) (.slice p n c) W (by decide)
  have f_u64 := fun W => as_no_u64 (T := 55) (.slice p n c) W (by decide)
  have f_mTime := fun W => as_no_mTime (T := 55) (.slice p n c) W (by decide)
  have f_mDuration := fun W => as_no_mDuration (T := 55) (.slice p n c) W (by decide)
  have f_mStr := fun W => as_no_mStr (T := 55) (.slice p n c) W (by decide)
  have f_mSS := fun W => as_no_mSS (T := 55) (.slice p n c) W (by decide)
  have f_JSONNumber := fun W => as_no_JSONNumber (T := 55) (.slice p n c) W (by decide)
  have fy := fun W => as_yes_sAny (.slice p n c) W
  go_enter Tryz.func13, Tryz.ntmps13
  go_wp2_with (go_at_call 46; go_must (refine (AppendArrayH_ok M _ _ bs n (by omega) HB.out.1 (by have := HB.out.2.1; omega) HB.out.2.2).mono ?_; rintro e w1 ⟨x1, hd, rfl, hh, hr, hk⟩; have H1 := Lib.hid (And.intro hh (And.intro hr hk)); clear hh hr hk))
  go_loopw [0, 31, 201] (fun b' e c w' => ∃ (k : Nat) (d : List UInt8), k ≤ n ∧ c = .int .i64 k ∧ e = .nilIface ∧ Hid (BRow M w' b' (bs ++ hd ++ d) ∧ PutL (v.kids.take k) d ∧ d.length ≤ sumOf V.room (v.kids.take k) ∧ Kept M w w')) (fun _ _ c _ => n - (RowKit.intOf c).toNat)
  case atStart => exact ⟨0, [], by omega, rfl, rfl, Lib.hid ⟨by rw [List.append_nil]; exact H1.out.2.1, PutL.nil, by simp, H1.out.2.2⟩⟩
  case round =>
    obtain ⟨k, d, hk, rfl, rfl, HR⟩ := hrel
    by_cases hkn : k < n
    · have hkn' : (k : Int) < (n : Int) := by omega
      have hk0 : (0 : Int) ≤ (k : Int) := by omega
      have e1 : IntKind.i64.wrap ((k : Int) + 1) = (k : Int) + 1 := IntWalk.i64_in _ (by omega)
      obtain ⟨x, hx⟩ : ∃ u, v.kids[k]? = some u := ⟨v.kids[k]'(by rw [HL.out]; exact hkn), List.getElem?_eq_getElem _⟩
      obtain ⟨y, hy⟩ : ∃ u, xs[k]? = some u := ⟨xs[k]'(by have := HS.out.1; have := HL.out; omega), List.getElem?_eq_getElem _⟩
      obtain ⟨g, off, rfl, hg, hcell⟩ : ∃ g off, p = some ⟨g, off, none⟩ ∧ ¬ M g ∧ w.cell? ⟨g, off + k, none⟩ = some y := by
        rcases HS.out.2 with h0 | ⟨g, off, h1, h2, h3⟩
        · rw [HL.out] at h0; omega
        · exact ⟨g, off, h1, h2, h3 k y hy⟩
      have y0 : wr.cell? ⟨g, off + k, none⟩ = some y := HR.out.2.2.2.cell hcell hg
      have HU := Lib.hid (And.intro hx (And.intro ((HX.out k y x hy hx).keep HR.out.2.2.2 (fun b _ h h2 => h h2)) (sum_takeR hx)))
      have HT := Lib.hid (show (bs ++ hd ++ d).length + x.room ≤ 549755813888 by
        have h1 := sum_takeR hx
        have h2 := sum_takeR_le (l := v.kids) (k + 1)
        have h3 := v.room_eq
        have h4 := HB.out.2.1
        have h5 := H1.out.1.len
        have h6 := HR.out.2.2.1
        rw [List.length_append, List.length_append]
        omega)
      clear hx hy hcell
      go_wp2_with (go_at_call 13; go_must (refine (HI.out x (List.mem_of_getElem? HU.out.1) _ _ _ _ HU.out.2.1 HR.out.1 HT.out (fun i h => HB.out.2.2 i (Nat.le_trans HR.out.2.2.2.size h))).mono ?_; rintro e w2 ⟨x', ds, rfl, ⟨hp, hlen⟩, hr, hk2⟩; have H2 := Lib.hid (And.intro hp (And.intro hlen (And.intro hr hk2))); clear hp hlen hr hk2))
      go_roundw
      case rel =>
        refine ⟨k + 1, d ++ ds, by omega, by go_num, rfl, Lib.hid ⟨by rw [← List.append_assoc]; exact H2.out.2.2.1, ?_, ?_, HR.out.2.2.2.trans' H2.out.2.2.2⟩⟩
        · rw [List.take_add_one, HU.out.1]
          exact HR.out.2.1.snoc H2.out.1
        · rw [List.length_append, HU.out.2.2]
          have := H2.out.2.1
          have := HR.out.2.2.1
          omega
      case measure => simp [RowKit.intOf]; omega
    · obtain rfl : k = n := by omega
      have hlt : ¬ (k : Int) < (k : Int) := by omega
      go_wp2
      go_ret2
      have h1 := HR.out
      rw [List.take_of_length_le (by rw [HL.out]; exact Nat.le_refl _)] at h1
      refine ⟨_, hd ++ d, rfl, ⟨ArrH.put H8.out (by rw [HL.out]; exact H1.out.1) h1.2.1, ?_⟩, by rw [← List.append_assoc]; exact h1.1, h1.2.2.2⟩
      have h3 := v.room_eq
      have h5 := H1.out.1.len
      have h6 := h1.2.2.1
      rw [List.length_append]
      omega
end Go.Proofs.YtapfahngeaojkaaGreatDoor
