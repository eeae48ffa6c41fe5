/- PLAIN DATA: what is written for a value (PutR: something that is read as it), for values one behind the other (PutL), for keys and values (PutM). -/
import Derived.Test.YtapfahngeaojkaaGreatDoorK4
namespace Go.Proofs.YtapfahngeaojkaaGreatDoor
def PutR (v : V) (ds : List UInt8) : Prop := ∃ r, Rd v r ∧ PEnc r ds
theorem rd0_kind {v : V} (h : v.kind ≠ 2) : (rd0 v).kind = v.kind := by simp only [rd0, V.kind_mk]; rw [if_neg (fun e => h e.1)]
theorem put_nil {v : V} (h : v.kind = 0) : PutR v [0xc0] := ⟨rd0 v, .leaf (by omega) (by omega), .nil (by rw [rd0_kind (by omega), h])⟩
theorem put_bool {v : V} (h : v.kind = 1) (h0 : 0 ≤ v.num) (h1 : v.num ≤ 1) : PutR v [UInt8.ofNat (0xc2 + v.num.toNat)] :=
  ⟨rd0 v, .leaf (by omega) (by omega), .bool (v := rd0 v) (by rw [rd0_kind (by omega), h]) h0 h1⟩
theorem put_fix {v : V} (h : v.kind = 2 ∨ v.kind = 3) (h0 : 0 ≤ v.num) (h1 : v.num < 128) : PutR v [UInt8.ofNat v.num.toNat] :=
  ⟨rd0 v, .leaf (by omega) (by omega), .fix (v := rd0 v) (by simp only [rd0, V.kind_mk]; split <;> omega) h0 h1⟩
theorem put_neg {v : V} (h : v.kind = 2) (h0 : 18446744073709551584 ≤ v.num) (h1 : v.num < 18446744073709551616) : PutR v [UInt8.ofNat (v.num.toNat % 256)] :=
  ⟨rd0 v, .leaf (by omega) (by omega), .neg (v := rd0 v) (by simp only [rd0, V.kind_mk]; split <;> omega) h0 h1⟩
theorem put_unum {v : V} {c s : Nat} (h : v.kind = 3) (hc : uCode c s) (h0 : 0 ≤ v.num) (h1 : v.num < 256 ^ s) : PutR v (UInt8.ofNat c :: be s v.num.toNat) :=
  ⟨rd0 v, .leaf (by omega) (by omega), .unum (v := rd0 v) (by rw [rd0_kind (by omega), h]) hc h0 h1⟩
theorem put_inum {v : V} {c s : Nat} (h : v.kind = 2) (hc : iCode c s) (h0 : 0 ≤ v.num) (h1 : v.num < 18446744073709551616) (hs : v.num < 2 ^ (8 * s - 1) ∨ 18446744073709551616 - 2 ^ (8 * s - 1) ≤ v.num) : PutR v (UInt8.ofNat c :: be s v.num.toNat) := by
  refine ⟨rd0 v, .leaf (by omega) (by omega), .inum (v := rd0 v) hc ?_⟩
  have hp : (2 : Int) ^ (8 * s - 1) ≤ 9223372036854775808 := by
    unfold iCode at hc
    rcases hc with ⟨_, rfl⟩ | ⟨_, rfl⟩ | ⟨_, rfl⟩ | ⟨_, rfl⟩ <;> decide
  unfold fitsI
  simp only [rd0, V.kind_mk, V.num_mk]
  split
  · exact .inl ⟨rfl, h0, by rcases hs with hs | hs; exact hs; omega⟩
  · exact .inr ⟨h, by rcases hs with hs | hs; omega; exact hs, h1⟩
theorem put_f32 {v : V} (h : v.kind = 4) (h0 : 0 ≤ v.num) (h1 : v.num < 4294967296) : PutR v (0xca :: be 4 v.num.toNat) :=
  ⟨rd0 v, .leaf (by omega) (by omega), .f32 (v := rd0 v) (by rw [rd0_kind (by omega), h]) h0 h1⟩
theorem put_f64 {v : V} (h : v.kind = 5) (h0 : 0 ≤ v.num) (h1 : v.num < 18446744073709551616) : PutR v (0xcb :: be 8 v.num.toNat) :=
  ⟨rd0 v, .leaf (by omega) (by omega), .f64 (v := rd0 v) (by rw [rd0_kind (by omega), h]) h0 h1⟩
inductive TxtB (t : ByteArray) : List UInt8 → Prop
  | short : t.size < 32 → TxtB t (UInt8.ofNat (0xa0 + t.size) :: bytesOf t)
  | long {c s : Nat} : tCode c s → t.size < 256 ^ s → TxtB t (UInt8.ofNat c :: (be s t.size ++ bytesOf t))
theorem TxtB.enc {v : V} (h : v.kind = 6) {d : List UInt8} (hd : TxtB v.text d) : PEnc (rd0 v) d := by
  have hk : (rd0 v).kind = 6 := by rw [rd0_kind (by omega), h]
  cases hd with
  | short h1 => exact .text0 (v := rd0 v) hk h1
  | long hc h1 => exact .text (v := rd0 v) hk hc h1
theorem put_text {v : V} (h : v.kind = 6) {d : List UInt8} (hd : TxtB v.text d) : PutR v d := ⟨rd0 v, .leaf (by omega) (by omega), hd.enc h⟩
theorem put_bin {v : V} {c s : Nat} (h : v.kind = 7) (hc : bCode c s) (h1 : v.text.size < 256 ^ s) : PutR v (UInt8.ofNat c :: (be s v.text.size ++ bytesOf v.text)) :=
  ⟨rd0 v, .leaf (by omega) (by omega), .bin (v := rd0 v) (by rw [rd0_kind (by omega), h]) hc h1⟩
theorem TxtB.len {t : ByteArray} {d : List UInt8} (h : TxtB t d) : d.length ≤ t.size + 9 := by
  have hb : (bytesOf t).length = t.size := rfl
  cases h with
  | short h1 => rw [List.length_cons, hb]; omega
  | long hc h1 => have h2 := sz_t hc; clear h1; rw [List.length_cons, List.length_append, be_length, hb]; omega
def PutL (l : List V) (d : List UInt8) : Prop := ∃ rs : List V, rs.length = l.length ∧ (∀ (i : Nat) (x y : V), l[i]? = some x → rs[i]? = some y → Rd x y) ∧ PEncL rs d
theorem PutL.nil : PutL [] [] := ⟨[], rfl, fun i x y h => by simp at h, .nil⟩
theorem PutL.snoc {l : List V} {k : V} {d q : List UInt8} (h : PutL l d) (hk : PutR k q) : PutL (l ++ [k]) (d ++ q) := by
  obtain ⟨rs, h1, h2, h3⟩ := h
  obtain ⟨r, h4, h5⟩ := hk
  refine ⟨rs ++ [r], by simp [h1], fun i x y hx hy => ?_, h3.snoc h5⟩
  rw [List.getElem?_append] at hx hy
  rw [h1] at hy
  split at hx
  · next hlt => rw [if_pos hlt] at hy; exact h2 i x y hx hy
  · next hge =>
    rw [if_neg hge] at hy
    have h0 : i - l.length = 0 := by have := (List.getElem?_eq_some_iff.1 hx).1; simp at this; omega
    rw [h0] at hx hy
    simp at hx hy
    subst hx hy
    exact h4
theorem put_arr0 {v : V} {d : List UInt8} (h : v.kind = 8) (hl : v.kids.length < 16) (hd : PutL v.kids d) : PutR v (UInt8.ofNat (0x90 + v.kids.length) :: d) := by
  obtain ⟨rs, h1, h2, h3⟩ := hd
  refine ⟨.mk 8 0 ⟨#[]⟩ rs 0 [], .arr h rfl rfl rfl rfl rfl h1 h2, ?_⟩
  rw [← h1]
  exact .arr0 (v := .mk 8 0 ⟨#[]⟩ rs 0 []) rfl (by show rs.length < 16; omega) h3
theorem put_arr {v : V} {c s : Nat} {d : List UInt8} (h : v.kind = 8) (hc : aCode c s) (hl : v.kids.length < 256 ^ s) (hd : PutL v.kids d) : PutR v (UInt8.ofNat c :: (be s v.kids.length ++ d)) := by
  obtain ⟨rs, h1, h2, h3⟩ := hd
  refine ⟨.mk 8 0 ⟨#[]⟩ rs 0 [], .arr h rfl rfl rfl rfl rfl h1 h2, ?_⟩
  rw [← h1]
  exact .arr (v := .mk 8 0 ⟨#[]⟩ rs 0 []) rfl hc (by show rs.length < 256 ^ s; rw [h1]; exact hl) h3
def PutM (l : List (V × V)) (d : List UInt8) : Prop := ∃ rs : List V, rs.length = 2 * l.length ∧ (∀ (i : Nat) (p : V × V) (y : V), l[i]? = some p → rs[2 * i]? = some y → p.1.kind = 6 ∧ y = rd0 p.1) ∧
  (∀ (i : Nat) (p : V × V) (y : V), l[i]? = some p → rs[2 * i + 1]? = some y → Rd p.2 y) ∧ PEncL rs d
theorem PutM.nil : PutM [] [] := ⟨[], rfl, fun i x y h => by simp at h, fun i x y h => by simp at h, .nil⟩
theorem PutM.snoc {l : List (V × V)} {p : V × V} {d q1 q2 : List UInt8} (h : PutM l d) (hk : p.1.kind = 6) (h1 : PEnc (rd0 p.1) q1) (h2 : PutR p.2 q2) : PutM (l ++ [p]) (d ++ q1 ++ q2) := by
  obtain ⟨rs, g1, g2, g3, g4⟩ := h
  obtain ⟨r, h4, h5⟩ := h2
  refine ⟨rs ++ [rd0 p.1] ++ [r], by simp [g1]; omega, fun i x y hx hy => ?_, fun i x y hx hy => ?_, (g4.snoc h1).snoc h5⟩
  · rw [List.append_assoc] at hy
    rw [List.getElem?_append] at hx hy
    split at hx
    · next hlt => rw [if_pos (by omega)] at hy; exact g2 i x y hx hy
    · next hge =>
      rw [if_neg (by omega)] at hy
      have h0 : i - l.length = 0 := by have := (List.getElem?_eq_some_iff.1 hx).1; simp at this; omega
      have h0' : 2 * i - rs.length = 0 := by omega
      rw [h0] at hx
      rw [h0'] at hy
      simp at hx hy
      subst hx hy
      exact ⟨hk, rfl⟩
  · rw [List.append_assoc] at hy
    rw [List.getElem?_append] at hx hy
    split at hx
    · next hlt => rw [if_pos (by omega)] at hy; exact g3 i x y hx hy
    · next hge =>
      rw [if_neg (by omega)] at hy
      have h0 : i - l.length = 0 := by have := (List.getElem?_eq_some_iff.1 hx).1; simp at this; omega
      have h0' : 2 * i + 1 - rs.length = 1 := by omega
      rw [h0] at hx
      rw [h0'] at hy
      simp at hx hy
      subst hx hy
      exact h4
theorem put_map0 {v : V} {l : List (V × V)} {n : Nat} {d : List UInt8} (h : v.kind = 9) (hp : (pairs v.kids).Perm l) (hl : l.length = n) (hn : n < 16) (hd : PutM l d) : PutR v (UInt8.ofNat (0x80 + n) :: d) := by
  obtain ⟨rs, h1, h2, h3, h4⟩ := hd
  subst hl
  exact ⟨.mk 9 0 ⟨#[]⟩ rs 0 [], .map l h rfl rfl rfl rfl rfl hp h1 h2 h3, .map0 (v := .mk 9 0 ⟨#[]⟩ rs 0 []) rfl h1 hn h4⟩
theorem put_map {v : V} {l : List (V × V)} {n c s : Nat} {d : List UInt8} (h : v.kind = 9) (hp : (pairs v.kids).Perm l) (hl : l.length = n) (hc : mCode c s) (hn : n < 256 ^ s) (hd : PutM l d) : PutR v (UInt8.ofNat c :: (be s n ++ d)) := by
  obtain ⟨rs, h1, h2, h3, h4⟩ := hd
  subst hl
  exact ⟨.mk 9 0 ⟨#[]⟩ rs 0 [], .map l h rfl rfl rfl rfl rfl hp h1 h2 h3, .map (v := .mk 9 0 ⟨#[]⟩ rs 0 []) rfl h1 hc hn h4⟩
inductive ArrH (n : Nat) : List UInt8 → Prop
  | short : n < 16 → ArrH n [UInt8.ofNat (0x90 + n)]
  | long {c s : Nat} : aCode c s → n < 256 ^ s → ArrH n (UInt8.ofNat c :: be s n)
inductive MapH (n : Nat) : List UInt8 → Prop
  | short : n < 16 → MapH n [UInt8.ofNat (0x80 + n)]
  | long {c s : Nat} : mCode c s → n < 256 ^ s → MapH n (UInt8.ofNat c :: be s n)
theorem ArrH.put {v : V} {h d : List UInt8} (hk : v.kind = 8) (hh : ArrH v.kids.length h) (hd : PutL v.kids d) : PutR v (h ++ d) := by
  cases hh with
  | short h1 => exact put_arr0 hk h1 hd
  | long hc h1 => exact put_arr hk hc h1 hd
theorem MapH.put {v : V} {l : List (V × V)} {h d : List UInt8} (hk : v.kind = 9) (hp : (pairs v.kids).Perm l) (hh : MapH l.length h) (hd : PutM l d) : PutR v (h ++ d) := by
  cases hh with
  | short h1 => exact put_map0 hk hp rfl h1 hd
  | long hc h1 => exact put_map hk hp rfl hc h1 hd
theorem perm_lift {α β : Type} {f : α → β} {a b : List β} (h : a.Perm b) : ∀ l : List α, l.map f = a → ∃ m : List α, l.Perm m ∧ m.map f = b := by
  induction h with
  | nil => intro l hl; exact ⟨l, .refl _, hl⟩
  | cons x h ih =>
    intro l hl
    cases l with
    | nil => simp at hl
    | cons y l =>
      simp only [List.map_cons, List.cons.injEq] at hl
      obtain ⟨m, h1, h2⟩ := ih l hl.2
      exact ⟨y :: m, h1.cons _, by simp [hl.1, h2]⟩
  | swap x y t =>
    intro l hl
    match l, hl with
    | u :: z :: l, hl =>
      simp only [List.map_cons, List.cons.injEq] at hl
      exact ⟨z :: u :: l, .swap _ _ _, by simp [hl.1, hl.2.1, hl.2.2]⟩
  | trans h1 h2 ih1 ih2 =>
    intro l hl
    obtain ⟨m, p1, q1⟩ := ih1 l hl
    obtain ⟨m', p2, q2⟩ := ih2 m q1
    exact ⟨m', p1.trans p2, q2⟩
end Go.Proofs.YtapfahngeaojkaaGreatDoor
