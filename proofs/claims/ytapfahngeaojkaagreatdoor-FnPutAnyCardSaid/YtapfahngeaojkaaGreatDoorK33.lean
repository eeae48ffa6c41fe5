/- TakePack: what it reads where the bytes of a value stand. -/
import Derived.Test.YtapfahngeaojkaaGreatDoorK4
import Derived.Test.YtapfahngeaojkaaGreatDoorK26
import Derived.Test.YtapfahngeaojkaaGreatDoorK27
import Derived.Test.YtapfahngeaojkaaGreatDoorK28
import Derived.Test.YtapfahngeaojkaaGreatDoorK31
import Derived.Test.YtapfahngeaojkaaGreatDoorK32
namespace Go.Proofs.YtapfahngeaojkaaGreatDoor
open Go Go.RowKit Go.Lib
theorem beFrom_be : ∀ (n u acc : Nat), Lib.beFrom acc (be n u) = acc * 256 ^ n + u % 256 ^ n
  | 0, u, acc => by simp [be, Lib.beFrom, Nat.mod_one]
  | n + 1, u, acc => by
    rw [be]
    show Lib.beFrom (acc * 256 + (UInt8.ofNat (u / 256 ^ n % 256)).toNat) (be n u) = _
    rw [beFrom_be n u]
    have h1 : (UInt8.ofNat (u / 256 ^ n % 256)).toNat = u / 256 ^ n % 256 := by simp
    rw [h1, Nat.pow_succ]
    have h2 : u % (256 ^ n * 256) = u % 256 ^ n + 256 ^ n * (u / 256 ^ n % 256) := Nat.mod_mul
    rw [h2, Nat.add_mul, Nat.mul_assoc, Nat.mul_comm 256 (256 ^ n), Nat.mul_comm (u / 256 ^ n % 256) (256 ^ n)]
    omega
theorem beNat_be (n u : Nat) : Lib.beNat (be n u) = u % 256 ^ n := by
  unfold Lib.beNat; rw [beFrom_be]; simp
theorem leafK {S : Nat → Prop} {r : V} {D : List UInt8} {w : World} {k n : Int} {t : ByteArray} (h0 : Nrm0 r) (hk : r.kind = k) (hn : r.num = n) (ht : r.text = t) (h8 : r.kind < 8) {e : Ending} {w' : World}
    (h : TakeP S (fun x _ => x = .agg #[.int .i64 k, .int .u64 n, .string t, .int .i64 0, .slice none 0 0]) D w e w') : TakeK S r D w e w' := by
  obtain ⟨x, y, rfl, rfl, hy, hkw⟩ := h
  have hkids : r.kids = [] := by rcases h0.leaf with h | h | h <;> first | omega | exact h
  refine ⟨_, y, rfl, ⟨.slice none 0 0, ?_, ⟨⟨?_, ?_, ?_, ?_⟩, h0.desc⟩, ?_⟩, hy, hkw⟩
  · unfold kagg; rw [hk, hn, ht, h0.ext]
  · have := h0.kind; omega
  · have := h0.wide; omega
  · have := h0.size; unfold maxLen; omega
  · have := h0.ext; omega
  · rw [hkids]; exact .nil _ _ (by decide)
theorem Nrm0.knum {r : V} (h : Nrm0 r) : KNum r := ⟨⟨by have := h.kind; omega, by have := h.wide; omega, by have := h.size; unfold maxLen; omega, by have := h.ext; omega⟩, h.desc⟩
theorem Nrm0.comp {r : V} (h : Nrm0 r) (hk : 8 ≤ r.kind) : r = .mk r.kind 0 ⟨#[]⟩ r.kids 0 [] := by
  have h1 : r.text = ⟨#[]⟩ := by rcases h.text with h | h | h <;> first | omega | exact h
  have h2 : r.num = 0 := by rcases h.num with h | h <;> omega
  have h3 := h.ext
  have h4 := h.desc
  obtain ⟨k, n, t, l, o, d⟩ := r
  simp only [V.text_mk, V.num_mk, V.of_mk, V.desc_mk] at h1 h2 h3 h4
  subst h1 h2 h3 h4
  rfl
theorem head_cut (s U : Nat) (E : List UInt8) : (be s U ++ E).drop s = E ∧ (be s U ++ E).take s = be s U ∧ s ≤ (be s U ++ E).length := by
  have h := be_length s U
  refine ⟨?_, ?_, by rw [List.length_append]; omega⟩
  · conv => lhs; rw [← h]
    rw [h, List.drop_append_of_le_length (by omega), List.drop_of_length_le (by omega), List.nil_append]
  · rw [List.take_append_of_le_length (by omega), List.take_of_length_le (by omega)]
theorem bytes_text (t : ByteArray) : (bytesOf t).length = t.size ∧ (⟨(bytesOf t).toArray⟩ : ByteArray) = t := ⟨rfl, by obtain ⟨⟨l⟩⟩ := t; rfl⟩
theorem text_cut (t : ByteArray) (D : List UInt8) : (⟨((bytesOf t ++ D).take t.size).toArray⟩ : ByteArray) = t ∧ (bytesOf t ++ D).drop t.size = D := by
  have h := (bytes_text t).1
  constructor
  · rw [List.take_append_of_le_length (by omega), List.take_of_length_le (by omega)]; exact (bytes_text t).2
  · rw [List.drop_append_of_le_length (by omega), List.drop_of_length_le (by omega), List.nil_append]
theorem Nrm0.zero {r : V} (h : Nrm0 r) (hk : r.kind < 1 ∨ 5 < r.kind) : r.num = 0 := by rcases h.num with h | h <;> omega
theorem Nrm0.bare {r : V} (h : Nrm0 r) (hk : r.kind < 6) : r.text = ⟨#[]⟩ := by rcases h.text with h | h | h <;> first | omega | exact h
theorem head_num (s U : Nat) (E : List UInt8) : Lib.beNat ((be s U ++ E).take s) = U % 256 ^ s := by rw [(head_cut s U E).2.1, beNat_be]
theorem tp_leaf (r : V) (h0 : Nrm0 r) (L : Int) (hL : 1 ≤ L ∧ L ≤ 1000) (p : List UInt8) (he : PEnc r p) (h6 : r.kind < 6) (S : Nat → Prop) (w : World) (s : Value) (D : List UInt8) (hs : BSl S w s (p ++ D)) :
    Calls Tryz.prog 10 #[s, .int .i64 L] w (TakeK S r D w) := by
  have ht := h0.bare h6
  have hw := h0.wide
  cases he with
  | nil hk => exact tp_coded S w s 0xc0 D 192 L hs rfl (by decide) hL r D fun S W y hy => (tc_nil S W y D D ((192 : Nat) : Int) L 0 0 hy (by decide) rfl (by omega) (by omega) rfl rfl).mono fun e w' h => leafK h0 hk (h0.zero (by omega)) ht (by omega) h
  | bool hk hn0 hn1 =>
    rcases (by omega : r.num = 0 ∨ r.num = 1) with hn | hn
    · rw [hn] at hs
      exact tp_coded S w s 194 D 194 L hs rfl (by decide) hL r D fun S W y hy => (tc_bool0 S W y D D ((194 : Nat) : Int) L 0 0 hy (by decide) rfl (by omega) (by omega) rfl rfl).mono fun e w' h => leafK h0 hk hn ht (by omega) h
    · rw [hn] at hs
      exact tp_coded S w s 195 D 195 L hs rfl (by decide) hL r D fun S W y hy => (tc_bool1 S W y D D ((195 : Nat) : Int) L 0 0 hy (by decide) rfl (by omega) (by omega) rfl rfl).mono fun e w' h => leafK h0 hk hn ht (by omega) h
  | fix hk hn0 hn1 =>
    refine (tp_fix S w s _ D r.num.toNat L hs (by simp; omega) (by omega) hL).mono fun e w' h => leafK h0 hk ?_ ht (by omega) h
    omega
  | neg hk hn0 hn1 =>
    refine (tp_neg S w s _ D (r.num.toNat % 256) L hs (by simp) (by omega) hL).mono fun e w' h => leafK h0 hk ?_ ht (by omega) h
    omega
  | unum hk hc hn0 hn1 =>
    rcases hc with ⟨rfl, rfl⟩ | ⟨rfl, rfl⟩ | ⟨rfl, rfl⟩ | ⟨rfl, rfl⟩ <;>
    · refine tp_coded S w s _ _ _ L hs rfl (by decide) hL r D fun S W y hy => (tc_uint S W y _ D _ L _ r.num.toNat hy (by decide) rfl (head_cut _ _ _).2.2 (by decide) (head_cut _ _ _).1 ?_).mono fun e w' h => leafK h0 hk (by omega) ht (by omega) h
      exact (head_num _ _ _).trans (by omega)
  | f32 hk hn0 hn1 =>
    refine tp_coded S w s 202 _ 202 L hs rfl (by decide) hL r D fun S W y hy => (tc_f32 S W y _ D ((202 : Nat) : Int) L 4 r.num.toNat hy (by decide) rfl (head_cut _ _ _).2.2 (by decide) (head_cut _ _ _).1 ?_).mono fun e w' h => leafK h0 hk (by omega) ht (by omega) h
    exact (head_num _ _ _).trans (by omega)
  | f64 hk hn0 hn1 =>
    refine tp_coded S w s 203 _ 203 L hs rfl (by decide) hL r D fun S W y hy => (tc_f64 S W y _ D ((203 : Nat) : Int) L 8 r.num.toNat hy (by decide) rfl (head_cut _ _ _).2.2 (by decide) (head_cut _ _ _).1 ?_).mono fun e w' h => leafK h0 hk (by omega) ht (by omega) h
    exact (head_num _ _ _).trans (by omega)
  | inum hc hf =>
    unfold fitsI at hf
    rcases hc with ⟨rfl, rfl⟩ | ⟨rfl, rfl⟩ | ⟨rfl, rfl⟩ | ⟨rfl, rfl⟩
    · rcases hf with ⟨hk, a, b⟩ | ⟨hk, a, b⟩
      · have b1 : r.num < 128 := b
        exact tp_coded S w s _ _ 208 L hs rfl (by decide) hL r D fun S W y hy => (tc_p208 S W y _ D ((208 : Nat) : Int) L 1 r.num.toNat hy (by decide) rfl (head_cut _ _ _).2.2 (by decide) (head_cut _ _ _).1 ((head_num _ _ _).trans (by omega)) (by omega)).mono fun e w' h => leafK h0 hk (by omega) ht (by omega) h
      · have a1 : 18446744073709551488 ≤ r.num := a
        exact tp_coded S w s _ _ 208 L hs rfl (by decide) hL r D fun S W y hy => (tc_n208 S W y _ D ((208 : Nat) : Int) L 1 (r.num.toNat % 256) hy (by decide) rfl (head_cut _ _ _).2.2 (by decide) (head_cut _ _ _).1 ((head_num _ _ _).trans (by omega)) (by omega)).mono fun e w' h => leafK h0 hk (by omega) ht (by omega) h
    · rcases hf with ⟨hk, a, b⟩ | ⟨hk, a, b⟩
      · have b1 : r.num < 32768 := b
        exact tp_coded S w s _ _ 209 L hs rfl (by decide) hL r D fun S W y hy => (tc_p209 S W y _ D ((209 : Nat) : Int) L 2 r.num.toNat hy (by decide) rfl (head_cut _ _ _).2.2 (by decide) (head_cut _ _ _).1 ((head_num _ _ _).trans (by omega)) (by omega)).mono fun e w' h => leafK h0 hk (by omega) ht (by omega) h
      · have a1 : 18446744073709518848 ≤ r.num := a
        exact tp_coded S w s _ _ 209 L hs rfl (by decide) hL r D fun S W y hy => (tc_n209 S W y _ D ((209 : Nat) : Int) L 2 (r.num.toNat % 65536) hy (by decide) rfl (head_cut _ _ _).2.2 (by decide) (head_cut _ _ _).1 ((head_num _ _ _).trans (by omega)) (by omega)).mono fun e w' h => leafK h0 hk (by omega) ht (by omega) h
    · rcases hf with ⟨hk, a, b⟩ | ⟨hk, a, b⟩
      · have b1 : r.num < 2147483648 := b
        exact tp_coded S w s _ _ 210 L hs rfl (by decide) hL r D fun S W y hy => (tc_p210 S W y _ D ((210 : Nat) : Int) L 4 r.num.toNat hy (by decide) rfl (head_cut _ _ _).2.2 (by decide) (head_cut _ _ _).1 ((head_num _ _ _).trans (by omega)) (by omega)).mono fun e w' h => leafK h0 hk (by omega) ht (by omega) h
      · have a1 : 18446744071562067968 ≤ r.num := a
        exact tp_coded S w s _ _ 210 L hs rfl (by decide) hL r D fun S W y hy => (tc_n210 S W y _ D ((210 : Nat) : Int) L 4 (r.num.toNat % 4294967296) hy (by decide) rfl (head_cut _ _ _).2.2 (by decide) (head_cut _ _ _).1 ((head_num _ _ _).trans (by omega)) (by omega)).mono fun e w' h => leafK h0 hk (by omega) ht (by omega) h
    · rcases hf with ⟨hk, a, b⟩ | ⟨hk, a, b⟩
      · have b1 : r.num < 9223372036854775808 := b
        exact tp_coded S w s _ _ 211 L hs rfl (by decide) hL r D fun S W y hy => (tc_p211 S W y _ D ((211 : Nat) : Int) L 8 r.num.toNat hy (by decide) rfl (head_cut _ _ _).2.2 (by decide) (head_cut _ _ _).1 ((head_num _ _ _).trans (by omega)) (by omega)).mono fun e w' h => leafK h0 hk (by omega) ht (by omega) h
      · have a1 : 9223372036854775808 ≤ r.num := a
        exact tp_coded S w s _ _ 211 L hs rfl (by decide) hL r D fun S W y hy => (tc_n211 S W y _ D ((211 : Nat) : Int) L 8 (r.num.toNat % 18446744073709551616) hy (by decide) rfl (head_cut _ _ _).2.2 (by decide) (head_cut _ _ _).1 ((head_num _ _ _).trans (by omega)) (by omega)).mono fun e w' h => leafK h0 hk (by omega) ht (by omega) h
  | text0 hk _ => omega
  | text hk _ _ => omega
  | bin hk _ _ => omega
  | arr0 hk _ _ => omega
  | arr hk _ _ _ => omega
  | map0 hk _ _ _ => omega
  | map hk _ _ _ _ => omega
end Go.Proofs.YtapfahngeaojkaaGreatDoor
