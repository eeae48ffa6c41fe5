/- What is known of the numbers of a value that came in. Package spec: SamePack over values without kids. -/
import Derived.Test.YtapfahngeaojkaaGreatDoorK6
import Derived.Test.YtapfahngeaojkaaGreatDoorK4
namespace Go.Proofs.YtapfahngeaojkaaGreatDoor
open Go Go.RowKit Go.Lib
theorem KSl.nums {S : Nat → Prop} {w : World} {s : Value} {l : List V} (h : KSl S w s l) : ∀ k ∈ l, Nums k := by
  induction h with
  | nil a cap hc => intro k hk; cases hk
  | mk b off cap l ks hb hl hc hm hcell _ ihk =>
    intro k hk
    obtain ⟨i, hi⟩ := List.mem_iff_getElem?.1 hk
    obtain ⟨⟨h0, hd⟩, _⟩ := hcell i k hi
    exact .mk hd h0.num.1 (by have := h0.num.2; omega) (ihk i k hi)
theorem KAgg.nums {S : Nat → Prop} {w : World} {x : Value} {v : V} (h : KAgg S w x v) : Nums v := by
  obtain ⟨ks, rfl, ⟨h0, hd⟩, hk⟩ := h
  exact .mk hd h0.num.1 (by have := h0.num.2; omega) hk.nums
end Go.Proofs.YtapfahngeaojkaaGreatDoor
namespace Go.Proofs.YtapfahngeaojkaaGreatDoor
open Go Go.RowKit Go.Lib
section
variable (n o : Int) (t t' : ByteArray) (p1 p2 : Option Addr) (c1 c2 : Nat) (w : World)
set_option maxRecDepth 100000 in
set_option maxHeartbeats 1600000 in
theorem SamePack_c (k : Int) (hk : k ≠ 2) : Calls Tryz.prog 20 #[.agg #[.int .i64 k, .int .u64 n, .string t, .int .i64 o, .slice p1 0 c1], .agg #[.int .i64 k, .int .u64 n, .string t, .int .i64 o, .slice p2 0 c2]] w (Quiet (.bool true) w) := by
  have hb : (k == 2) = false := by simpa using hk
  clear hk
  go_enter Tryz.func20, Tryz.ntmps20
  go_wp2_with fail
  go_loopw [64] (fun c w' => c = .int .i64 0 ∧ Hid (Kept Nope w w')) (fun _ _ => 0)
  case atStart => exact ⟨rfl, Lib.hid (((Kept.refl _ _).alloc _).alloc _)⟩
  case round =>
    obtain ⟨rfl, HR⟩ := hrel
    go_wp2
    go_ret
    exact ⟨rfl, HR.out⟩
set_option maxRecDepth 100000 in
set_option maxHeartbeats 1600000 in
theorem SamePack_b (hn : 9223372036854775808 ≤ n ∧ n < 18446744073709551616) : Calls Tryz.prog 20 #[.agg #[.int .i64 2, .int .u64 n, .string t, .int .i64 o, .slice p1 0 c1], .agg #[.int .i64 2, .int .u64 n, .string t, .int .i64 o, .slice p2 0 c2]] w (Quiet (.bool true) w) := by
  have e1 : IntKind.i64.wrap n = n - 18446744073709551616 := by simp only [IntKind.wrap, IntKind.bits, IntKind.signed]; simp; omega
  obtain ⟨m, hm⟩ : ∃ m, n - 18446744073709551616 = m := ⟨_, rfl⟩
  rw [hm] at e1
  have hb : ¬ (0 : Int) ≤ m := by omega
  clear hn hm
  go_enter Tryz.func20, Tryz.ntmps20
  go_wp2_with fail
  go_loopw [64] (fun c w' => c = .int .i64 0 ∧ Hid (Kept Nope w w')) (fun _ _ => 0)
  case atStart => exact ⟨rfl, Lib.hid (((Kept.refl _ _).alloc _).alloc _)⟩
  case round =>
    obtain ⟨rfl, HR⟩ := hrel
    go_wp2
    go_ret
    exact ⟨rfl, HR.out⟩
set_option maxRecDepth 100000 in
set_option maxHeartbeats 1600000 in
theorem SamePack_a (hn : 0 ≤ n ∧ n < 9223372036854775808) : Calls Tryz.prog 20 #[.agg #[.int .i64 2, .int .u64 n, .string t, .int .i64 o, .slice p1 0 c1], .agg #[.int .i64 3, .int .u64 n, .string t, .int .i64 o, .slice p2 0 c2]] w (Quiet (.bool true) w) := by
  have e1 : IntKind.i64.wrap n = n := IntWalk.i64_in _ (by omega)
  have hb : (0 : Int) ≤ n := hn.1
  clear hn
  go_enter Tryz.func20, Tryz.ntmps20
  go_wp2_with fail
  go_loopw [64] (fun c w' => c = .int .i64 0 ∧ Hid (Kept Nope w w')) (fun _ _ => 0)
  case atStart => exact ⟨rfl, Lib.hid (((Kept.refl _ _).alloc _).alloc _)⟩
  case round =>
    obtain ⟨rfl, HR⟩ := hrel
    go_wp2
    go_ret
    exact ⟨rfl, HR.out⟩
set_option maxRecDepth 100000 in
set_option maxHeartbeats 1600000 in
theorem SamePack_no (h : t ≠ t') : Calls Tryz.prog 20 #[.agg #[.int .i64 6, .int .u64 n, .string t, .int .i64 o, .slice p1 0 c1], .agg #[.int .i64 6, .int .u64 n, .string t', .int .i64 o, .slice p2 0 c2]] w (Quiet (.bool false) w) := by
  have hb := text_ne h
  clear h
  go_enter Tryz.func20, Tryz.ntmps20
  go_wp2
  go_ret
  exact ⟨rfl, ((Kept.refl _ _).alloc _).alloc _⟩
end
theorem SamePack_leaf (v : V) (w : World) (p1 p2 : Option Addr) (c1 c2 : Nat) (hn : Nums v) :
    Calls Tryz.prog 20 #[.agg #[.int .i64 v.kind, .int .u64 v.num, .string v.text, .int .i64 0, .slice p1 0 c1], .agg #[.int .i64 (rd0 v).kind, .int .u64 (rd0 v).num, .string (rd0 v).text, .int .i64 0, .slice p2 0 c2]] w (Quiet (.bool true) w) := by
  have h := hn.num
  unfold rd0
  simp only [V.kind_mk, V.num_mk, V.text_mk]
  by_cases hk : v.kind = 2
  · by_cases hm : v.num < 9223372036854775808
    · rw [if_pos ⟨hk, hm⟩, hk]
      exact SamePack_a _ _ _ _ _ _ _ _ ⟨h.1, hm⟩
    · rw [if_neg (fun e => hm e.2), hk]
      exact SamePack_b _ _ _ _ _ _ _ _ ⟨by omega, h.2⟩
  · rw [if_neg (fun e => hk e.1)]
    exact SamePack_c _ _ _ _ _ _ _ _ _ hk
end Go.Proofs.YtapfahngeaojkaaGreatDoor
