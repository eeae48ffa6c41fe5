/- Package spec: takeText: the bytes of a text. Package spec: takeBig: a number of so many bytes. -/
import Derived.Lib.ConvBytes
import Derived.RegionTactic
import Derived.Deep.RegionHeld3
import Derived.Test.YtapfahngeaojkaaGreatDoorK6
import Derived.Test.YtapfahngeaojkaaGreatDoorK4
import Derived.Lib.Endian
namespace Go.Proofs.YtapfahngeaojkaaGreatDoor
open Go Go.RowKit Go.Lib
theorem run_bytes_str {P : Program} {S : Nat → Prop} {w : World} {v : Value} {bs : List UInt8} (src dst e : TypeId) (hs : P.underlying src = some (.slice e)) (he : P.underlying e = some (.int .u8)) (hd : P.underlying dst = some .string)
    (h : BSl S w v bs) : (convert src dst v).run P w = .ok (.string ⟨bs.toArray⟩) w := by
  obtain ⟨a, c, rfl, _, _, h⟩ := h
  have hb : ∀ bs : List UInt8, strOfNums (bs.map fun x => (x.toNat : Int)) = ⟨bs.toArray⟩ := by
    intro bs
    unfold strOfNums
    congr 2
    rw [List.map_map]
    conv => rhs; rw [← List.map_id bs]
    apply List.map_congr_left
    intro x _
    simp
  rcases h with rfl | ⟨b, off, rfl, _, h⟩
  · rcases a with _ | a
    · rw [List.length_nil, run_convert_bytes_nil w src e hs he _ _ dst hd]; rfl
    · rw [List.length_nil, run_convert_bytes_string w src dst e _ _ _ hs he hd]; simp [Conv.bytesToString]; rfl
  · rw [run_convert_bytes_arg w src e hs he b off bs.length c (bs.map fun x => (x.toNat : Int)) (by simp) (fun i hi => ?_) dst hd, hb]
    have hx : bs[i]? = some bs[i] := List.getElem?_eq_getElem hi
    rw [h i _ hx]
    simp [u8, List.getD, hx]
set_option maxRecDepth 100000 in
theorem ret3p {fn : Func} {a b c : Tmp} (h : fn.results = #[.cell a 26, .tmp b, .tmp c]) (tmps : Array Value) (w : World) (g : Nat) (cs : Array Value) (ha : tmps.getD a undef = .pointer (some ⟨g, 0, none⟩)) (hb : Blk w g 26 cs) (hs : cs.size = 5) :
    (results fn tmps).run Tryz.prog w = .ok (.tuple #[.agg cs, tmps.getD b undef, tmps.getD c undef]) w := by
  have hi : (Tryz.prog.info? 26).map (fun i => i.size) = some cs.size := by rw [hs]; kernel_rfl
  have hl := run_loadVar_row (P := Tryz.prog) w g 26 26 cs (0, 0) _ hb Tryz.underlying26 rfl hi
  simp only [results, h]
  simp only [Array.getD_eq_getD_getElem?] at ha ⊢
  simp [Result.andThen, ha, asAddr, hl]
theorem BSl.take {S : Nat → Prop} {w : World} {a : Option Addr} {m c n : Nat} {bs : List UInt8} (hb : BSl S w (.slice a m c) bs) (hn : n ≤ m) : BSl S w (.slice a n c) (bs.take n) := by
  obtain ⟨a', c', e, hc, hm, hb⟩ := hb
  injection e with e1 e2 e3
  subst e1 e2 e3
  refine ⟨a, c, by rw [List.length_take]; congr 1; omega, by rw [List.length_take]; omega, hm, ?_⟩
  rcases hb with rfl | ⟨b, off, rfl, hS, hb⟩
  · exact .inl (by simp)
  · refine .inr ⟨b, off, rfl, hS, fun j x hx => hb j x ?_⟩
    rw [List.getElem?_take] at hx
    split at hx
    · exact hx
    · cases hx
theorem BSl.drew {S : Nat → Prop} {w : World} {s : Value} {bs : List UInt8} (h : BSl S w s bs) : BSl S w.drew s bs := h.keep ((Kept.refl Nope w).drew) fun _ _ _ h => h
theorem pack5 {w : World} {P : Nat} {b0 b1 b2 b3 b4 : Value} (hb : Blk w P 26 #[b0, b1, b2, b3, b4]) (a0 a1 a2 a3 a4 : Value) :
    Blk (((((w.setCell ⟨P, 0, none⟩ a0).setCell ⟨P, 1, none⟩ a1).setCell ⟨P, 2, none⟩ a2).setCell ⟨P, 3, none⟩ a3).setCell ⟨P, 4, none⟩ a4) P 26 #[a0, a1, a2, a3, a4] ∧
    Kept (Only P) w (((((w.setCell ⟨P, 0, none⟩ a0).setCell ⟨P, 1, none⟩ a1).setCell ⟨P, 2, none⟩ a2).setCell ⟨P, 3, none⟩ a3).setCell ⟨P, 4, none⟩ a4) := by
  refine ⟨?_, (((((Kept.refl _ w).set1 0 a0).set1 1 a1).set1 2 a2).set1 3 a3).set1 4 a4⟩
  have h := ((((hb.set_ 0 a0).set_ 1 a1).set_ 2 a2).set_ 3 a3).set_ 4 a4
  simpa using h
def TakeP (S : Nat → Prop) (R : Value → World → Prop) (D : List UInt8) (w : World) : Ending → World → Prop := fun e w' => ∃ x y, e = .returned (.tuple #[x, y, .bool true]) ∧ R x w' ∧ BSl S w' y D ∧ Kept Nope w w'
set_option maxRecDepth 100000 in
set_option maxHeartbeats 1600000 in
theorem takeText_ok (S : Nat → Prop) (k : Int) (w : World) (s : Value) (D : List UInt8) (n : Nat) (hs : BSl S w s D) (hn : n ≤ D.length) (hD : D.length ≤ 1099511627776) :
    Calls Tryz.prog 18 #[.int .i64 k, .int .u64 n, s] w (TakeP S (fun x _ => x = .agg #[.int .i64 k, .int .u64 0, .string ⟨(D.take n).toArray⟩, .int .i64 0, .slice none 0 0]) (D.drop n) w) := by
  have hs' := hs
  obtain ⟨a, c, rfl, hc, hm, _⟩ := hs'
  obtain ⟨P, hP⟩ : ∃ P, w.heap.size = P := ⟨_, rfl⟩
  obtain ⟨W1, hW1⟩ : ∃ W1, w.alloc (.cells #[.int .i64 0, .int .u64 0, .string ⟨#[]⟩, .int .i64 0, .slice none 0 0] 26) = W1 := ⟨_, rfl⟩
  have hk : Kept Nope w W1 := hW1 ▸ (Kept.refl Nope w).alloc _
  have hb : Blk W1 P 26 #[.int .i64 0, .int .u64 0, .string ⟨#[]⟩, .int .i64 0, .slice none 0 0] := by rw [← hW1, ← hP]; exact Blk.new _ _ _
  have hs1 := (hs.keep hk (fun _ _ _ h => h)).drew
  have kc := run_bytes_str 22 9 5 Tryz.underlying22 Tryz.underlying5 Tryz.underlying9 (BSl.take hs1 hn)
  have hrest := BSl.from_ hs hn
  have hln : ((D.take n).length : Int) = (n : Int) := by rw [List.length_take]; omega
  have HB := Lib.hid (And.intro hb (And.intro hk (And.intro hrest hP)))
  have z1 : (0 : Int) ≤ (n : Int) := by omega
  have z2 : (n : Int) ≤ (D.length : Int) := by omega
  have z3 : (n : Int) ≤ (c : Int) := by omega
  have z4 : ¬ (D.length : Int) < (n : Int) := by omega
  have e1 : IntKind.u64.wrap (D.length : Int) = (D.length : Int) := IntWalk.u64_in _ (by omega)
  have e2 : IntKind.i64.wrap (n : Int) = (n : Int) := IntWalk.i64_in _ (by omega)
  have q0 := hb.cell 0
  have q1 := hb.cell 1
  have q2 := hb.cell 2
  have q3 := hb.cell 3
  have q4 := hb.cell 4
  have qf := fun t => hb.frozen t
  simp only [List.getElem?_toArray, List.getElem?_cons_zero, List.getElem?_cons_succ] at q0 q1 q2 q3 q4
  clear hs hs1 hrest hb hk hln
  by_cases hcn : c = n
  · subst hcn
    go_enter Tryz.func18, Tryz.ntmps18
    go_wp2_with fail
    go_region_with (fail)
    go_wp2
    have h5 := pack5 HB.out.1 (.int .i64 k) (.int .u64 0) (.string ⟨(D.take c).toArray⟩) (.int .i64 0) (.slice none 0 0)
    have hd : D.drop c = [] := List.drop_of_length_le (by omega)
    have hkw := (HB.out.2.1.nope.trans' h5.2).drew.ofNew fun i e => (by have e' : i = P := e; have := HB.out.2.2.2; omega)
    refine bodyPost_ret (ret3p Tryz.results18 _ _ P _ rfl h5.1 rfl) rfl ⟨_, .slice a 0 0, rfl, rfl, ?_, hkw⟩
    rw [hd]
    exact .nil _ _ (by decide)
  · go_enter Tryz.func18, Tryz.ntmps18
    go_wp2_with fail
    go_region_with (fail)
    go_wp2
    have h5 := pack5 HB.out.1 (.int .i64 k) (.int .u64 0) (.string ⟨(D.take n).toArray⟩) (.int .i64 0) (.slice none 0 0)
    have hkw := (HB.out.2.1.nope.trans' h5.2).drew.ofNew fun i e => (by have e' : i = P := e; have := HB.out.2.2.2; omega)
    have hr := HB.out.2.2.1.keep hkw (fun _ _ _ h => h)
    rw [if_neg hcn] at hr
    exact bodyPost_ret (ret3p Tryz.results18 _ _ P _ rfl h5.1 rfl) rfl ⟨_, _, rfl, rfl, hr, hkw⟩
end Go.Proofs.YtapfahngeaojkaaGreatDoor
namespace Go.Proofs.YtapfahngeaojkaaGreatDoor
open Go Go.RowKit Go.Lib
theorem beFrom_snoc (l : List UInt8) (b : UInt8) : ∀ a : Nat, Lib.beFrom a (l ++ [b]) = Lib.beFrom a l * 256 + b.toNat := by
  induction l with
  | nil => intro a; simp [Lib.beFrom]
  | cons x l ih => intro a; simp only [List.cons_append, Lib.beFrom]; exact ih _
theorem beNat_snoc (l : List UInt8) (b : UInt8) : Lib.beNat (l ++ [b]) = Lib.beNat l * 256 + b.toNat := beFrom_snoc l b 0
theorem beFrom_lt (l : List UInt8) : ∀ a : Nat, Lib.beFrom a l < (a + 1) * 256 ^ l.length := by
  induction l with
  | nil => intro a; simp [Lib.beFrom]
  | cons x l ih =>
    intro a
    have h1 := ih (a * 256 + x.toNat)
    have h2 := x.toNat_lt
    simp only [Lib.beFrom, List.length_cons]
    refine Nat.lt_of_lt_of_le h1 ?_
    rw [Nat.pow_succ, Nat.mul_comm (256 ^ l.length) 256, ← Nat.mul_assoc]
    exact Nat.mul_le_mul_right _ (by omega)
theorem beNat_lt (l : List UInt8) : Lib.beNat l < 256 ^ l.length := by have := beFrom_lt l 0; unfold Lib.beNat; omega
set_option maxRecDepth 100000 in
set_option maxHeartbeats 1600000 in
theorem takeBig_ok (S : Nat → Prop) (w : World) (s : Value) (D : List UInt8) (k : Nat) (hs : BSl S w s D) (hk : k ≤ D.length) (hk8 : k ≤ 8) :
    Calls Tryz.prog 47 #[s, .int .i64 k] w (TakeP S (fun x _ => x = .int .u64 (Lib.beNat (D.take k))) (D.drop k) w) := by
  have hs' := hs
  obtain ⟨a, c, rfl, hc, hm, _⟩ := hs'
  have HS := Lib.hid hs
  have z1 : (0 : Int) ≤ (k : Int) := by omega
  have z2 : (k : Int) ≤ (D.length : Int) := by omega
  have z3 : (k : Int) ≤ (c : Int) := by omega
  have z4 : ¬ (D.length : Int) < (k : Int) := by omega
  clear hs
  go_enter Tryz.func47, Tryz.ntmps47
  go_wp2_with fail
  go_loopw [7, 18] (fun u q w' => ∃ i : Nat, i ≤ k ∧ q = .int .i64 i ∧ u = .int .u64 ((Lib.beNat (D.take i) : Nat) : Int) ∧ w = w') (fun _ q _ => k - (RowKit.intOf q).toNat)
  case atStart => exact ⟨0, by omega, rfl, rfl, rfl⟩
  case round =>
    obtain ⟨i, hi, rfl, rfl, rfl⟩ := hrel
    by_cases hik : i < k
    · have hik' : (i : Int) < (k : Int) := by omega
      have hi0 : (0 : Int) ≤ (i : Int) := by omega
      have e1 : IntKind.i64.wrap ((i : Int) + 1) = (i : Int) + 1 := IntWalk.i64_in _ (by omega)
      obtain ⟨x, hx⟩ : ∃ x, D[i]? = some x := ⟨D[i]'(by omega), List.getElem?_eq_getElem _⟩
      obtain ⟨b, off, cap, q1, _, hcell⟩ := HS.out.at_ hx
      injection q1 with q1 _ q2
      subst q1 q2
      have hbe : Lib.beNat (D.take (i + 1)) = Lib.beNat (D.take i) * 256 + x.toNat := by rw [List.take_add_one, hx]; exact beNat_snoc _ _
      have hlt := beNat_lt (D.take i)
      have hlt2 : Lib.beNat (D.take i) < 72057594037927936 := Nat.lt_of_lt_of_le hlt (by
        have h1 : (D.take i).length ≤ 7 := by rw [List.length_take]; omega
        exact Nat.pow_le_pow_right (by decide) h1)
      have hxl := x.toNat_lt
      have HBE := Lib.hid hbe
      obtain ⟨u, hu⟩ : ∃ u, Lib.beNat (D.take i) = u := ⟨_, rfl⟩
      obtain ⟨y, hy⟩ : ∃ y, x.toNat = y := ⟨_, rfl⟩
      have HU := Lib.hid (And.intro hu hy)
      rw [hu] at hlt2 ⊢
      unfold u8 at hcell
      rw [hy] at hcell hxl
      clear hbe hlt hu hy hx
      have hy0 : (0 : Int) ≤ (y : Int) := by omega
      have hy1 : (y : Int) ≤ 255 := by omega
      have hor : bits .or .u64 ((u : Int) * 256) (y : Int) = (u : Int) * 256 + (y : Int) := by
        have h1 := u64_or8 (x := (u : Int) * 256) (y := (y : Int)) (by omega) (by omega) (by omega) (by omega) (by omega)
        have h2 : bits .or .u64 ((u : Int) * 256) (y : Int) = bits .or .u64 (y : Int) ((u : Int) * 256) := by simp only [bits, BitVec.or_comm]
        rw [h2, h1, Int.add_comm]
      go_wp2
      go_roundw
      case rel =>
        refine ⟨i + 1, by omega, by go_num, ?_, trivial⟩
        rw [HBE.out, HU.out.1, HU.out.2]
        first | rfl | (congr 1; omega) | (simp; done)
      case measure => simp [RowKit.intOf]; omega
    · obtain rfl : i = k := by omega
      have hlt : ¬ (i : Int) < (i : Int) := by omega
      have hrest := BSl.from_ HS.out hk
      have HR := Lib.hid hrest
      clear hrest
      by_cases hcn : c = i
      · subst hcn
        go_wp2
        go_quiet (fail)
        go_wp2
        go_ret3
        have hd : D.drop c = [] := List.drop_of_length_le (by omega)
        refine ⟨_, _, rfl, rfl, ?_, (Kept.refl _ _).drewN _⟩
        rw [hd]
        exact .nil _ _ (by decide)
      · go_wp2
        go_quiet (fail)
        go_wp2
        go_ret3
        have hr := HR.out
        rw [if_neg hcn] at hr
        exact ⟨_, _, rfl, rfl, hr.keep ((Kept.refl Nope w).drewN _) (fun _ _ _ h => h), (Kept.refl _ _).drewN _⟩
end Go.Proofs.YtapfahngeaojkaaGreatDoor
