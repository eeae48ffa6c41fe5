/- PLAIN DATA: values of MessagePack as trees (V: kind, number, text, kids; of_ is the extension's type, desc is empty), the forms in which they may be written, what is read where a value was written. -/
import Derived.Test.YtapfahngeaojkaaGreatDoorK1
namespace Go.Proofs.YtapfahngeaojkaaGreatDoor
def uCode (c s : Nat) : Prop := (c = 0xcc ∧ s = 1) ∨ (c = 0xcd ∧ s = 2) ∨ (c = 0xce ∧ s = 4) ∨ (c = 0xcf ∧ s = 8)
def iCode (c s : Nat) : Prop := (c = 0xd0 ∧ s = 1) ∨ (c = 0xd1 ∧ s = 2) ∨ (c = 0xd2 ∧ s = 4) ∨ (c = 0xd3 ∧ s = 8)
def tCode (c s : Nat) : Prop := (c = 0xd9 ∧ s = 1) ∨ (c = 0xda ∧ s = 2) ∨ (c = 0xdb ∧ s = 4)
def bCode (c s : Nat) : Prop := (c = 0xc4 ∧ s = 1) ∨ (c = 0xc5 ∧ s = 2) ∨ (c = 0xc6 ∧ s = 4)
def aCode (c s : Nat) : Prop := (c = 0xdc ∧ s = 2) ∨ (c = 0xdd ∧ s = 4)
def mCode (c s : Nat) : Prop := (c = 0xde ∧ s = 2) ∨ (c = 0xdf ∧ s = 4)
def fitsI (s : Nat) (k n : Int) : Prop := (k = 3 ∧ 0 ≤ n ∧ n < 2 ^ (8 * s - 1)) ∨ (k = 2 ∧ 18446744073709551616 - 2 ^ (8 * s - 1) ≤ n ∧ n < 18446744073709551616)
mutual
inductive PEnc : V → List UInt8 → Prop
  | nil {v : V} : v.kind = 0 → PEnc v [0xc0]
  | bool {v : V} : v.kind = 1 → 0 ≤ v.num → v.num ≤ 1 → PEnc v [UInt8.ofNat (0xc2 + v.num.toNat)]
  | fix {v : V} : v.kind = 3 → 0 ≤ v.num → v.num < 128 → PEnc v [UInt8.ofNat v.num.toNat]
  | neg {v : V} : v.kind = 2 → 18446744073709551584 ≤ v.num → v.num < 18446744073709551616 → PEnc v [UInt8.ofNat (v.num.toNat % 256)]
  | unum {v : V} {c s : Nat} : v.kind = 3 → uCode c s → 0 ≤ v.num → v.num < 256 ^ s → PEnc v (UInt8.ofNat c :: be s v.num.toNat)
  | inum {v : V} {c s : Nat} : iCode c s → fitsI s v.kind v.num → PEnc v (UInt8.ofNat c :: be s v.num.toNat)
  | f32 {v : V} : v.kind = 4 → 0 ≤ v.num → v.num < 4294967296 → PEnc v (0xca :: be 4 v.num.toNat)
  | f64 {v : V} : v.kind = 5 → 0 ≤ v.num → v.num < 18446744073709551616 → PEnc v (0xcb :: be 8 v.num.toNat)
  | text0 {v : V} : v.kind = 6 → v.text.size < 32 → PEnc v (UInt8.ofNat (0xa0 + v.text.size) :: bytesOf v.text)
  | text {v : V} {c s : Nat} : v.kind = 6 → tCode c s → v.text.size < 256 ^ s → PEnc v (UInt8.ofNat c :: (be s v.text.size ++ bytesOf v.text))
  | bin {v : V} {c s : Nat} : v.kind = 7 → bCode c s → v.text.size < 256 ^ s → PEnc v (UInt8.ofNat c :: (be s v.text.size ++ bytesOf v.text))
  | arr0 {v : V} {d : List UInt8} : v.kind = 8 → v.kids.length < 16 → PEncL v.kids d → PEnc v (UInt8.ofNat (0x90 + v.kids.length) :: d)
  | arr {v : V} {c s : Nat} {d : List UInt8} : v.kind = 8 → aCode c s → v.kids.length < 256 ^ s → PEncL v.kids d → PEnc v (UInt8.ofNat c :: (be s v.kids.length ++ d))
  | map0 {v : V} {n : Nat} {d : List UInt8} : v.kind = 9 → v.kids.length = 2 * n → n < 16 → PEncL v.kids d → PEnc v (UInt8.ofNat (0x80 + n) :: d)
  | map {v : V} {n c s : Nat} {d : List UInt8} : v.kind = 9 → v.kids.length = 2 * n → mCode c s → n < 256 ^ s → PEncL v.kids d → PEnc v (UInt8.ofNat c :: (be s n ++ d))
inductive PEncL : List V → List UInt8 → Prop
  | nil : PEncL [] []
  | cons {v : V} {l : List V} {p q : List UInt8} : PEnc v p → PEncL l q → PEncL (v :: l) (p ++ q)
end
theorem PEncL.snoc {l : List V} {v : V} {p q : List UInt8} (h : PEncL l p) (hv : PEnc v q) : PEncL (l ++ [v]) (p ++ q) := by
  induction l generalizing p with
  | nil => cases h; simpa using PEncL.cons hv PEncL.nil
  | cons a l ih => cases h with | cons h1 h2 => simpa using PEncL.cons h1 (ih h2)
theorem PEnc.pos {v : V} {p : List UInt8} (h : PEnc v p) : 0 < p.length := by cases h <;> simp
theorem PEncL.len {l : List V} {d : List UInt8} (h : PEncL l d) : l.length ≤ d.length := by
  induction l generalizing d with
  | nil => simp
  | cons a l ih => cases h with | cons h1 h2 => have := ih h2; have := h1.pos; simp only [List.length_cons, List.length_append]; omega
def rd0 (v : V) : V := .mk (if v.kind = 2 ∧ v.num < 9223372036854775808 then 3 else v.kind) v.num v.text [] 0 []
def pairs : List V → List (V × V)
  | a :: b :: l => (a, b) :: pairs l
  | _ => []
theorem pairs_at : ∀ (l : List V) (i : Nat) (p : V × V), (pairs l)[i]? = some p → l[2 * i]? = some p.1 ∧ l[2 * i + 1]? = some p.2
  | [], i, p, h => by simp [pairs] at h
  | [a], i, p, h => by simp [pairs] at h
  | a :: b :: l, 0, p, h => by simp [pairs] at h; subst h; exact ⟨rfl, rfl⟩
  | a :: b :: l, i + 1, p, h => by
    have := pairs_at l i p (by simpa [pairs] using h)
    exact ⟨by rw [show 2 * (i + 1) = 2 * i + 1 + 1 by omega]; simpa using this.1, by rw [show 2 * (i + 1) + 1 = 2 * i + 1 + 1 + 1 by omega]; simpa using this.2⟩
theorem pairs_of : ∀ (l : List V) (i : Nat) (a b : V), l[2 * i]? = some a → l[2 * i + 1]? = some b → (pairs l)[i]? = some (a, b)
  | [], i, a, b, h, _ => by simp at h
  | [x], 0, a, b, _, h => by simp at h
  | [x], i + 1, a, b, h, _ => by rw [show 2 * (i + 1) = 2 * i + 1 + 1 by omega] at h; simp at h
  | x :: y :: l, 0, a, b, h, h' => by simp at h h'; subst h h'; rfl
  | x :: y :: l, i + 1, a, b, h, h' => by
    have := pairs_of l i a b (by rw [show 2 * (i + 1) = 2 * i + 1 + 1 by omega] at h; simpa using h) (by rw [show 2 * (i + 1) + 1 = 2 * i + 1 + 1 + 1 by omega] at h'; simpa using h')
    simpa [pairs] using this
theorem pairs_len : ∀ (l : List V), l.length % 2 = 0 → l.length = 2 * (pairs l).length
  | [], _ => rfl
  | [a], h => by simp at h
  | a :: b :: l, h => by
    have := pairs_len l (by simp only [List.length_cons] at h; omega)
    simp only [pairs, List.length_cons]; omega
theorem pairs_mem {l : List V} {p : V × V} (h : p ∈ pairs l) : p.1 ∈ l ∧ p.2 ∈ l := by
  obtain ⟨i, hi⟩ := List.mem_iff_getElem?.1 h
  have := pairs_at l i p hi
  exact ⟨List.mem_of_getElem? this.1, List.mem_of_getElem? this.2⟩
inductive Rd : V → V → Prop
  | leaf {v : V} : 0 ≤ v.kind → v.kind < 8 → Rd v (rd0 v)
  | arr {v r : V} : v.kind = 8 → r.kind = 8 → r.desc = [] → r.num = 0 → r.text = ⟨#[]⟩ → r.of_ = 0 → r.kids.length = v.kids.length → (∀ (i : Nat) (x y : V), v.kids[i]? = some x → r.kids[i]? = some y → Rd x y) → Rd v r
  | map {v r : V} (l : List (V × V)) : v.kind = 9 → r.kind = 9 → r.desc = [] → r.num = 0 → r.text = ⟨#[]⟩ → r.of_ = 0 → (pairs v.kids).Perm l → r.kids.length = 2 * l.length →
      (∀ (i : Nat) (p : V × V) (y : V), l[i]? = some p → r.kids[2 * i]? = some y → p.1.kind = 6 ∧ y = rd0 p.1) → (∀ (i : Nat) (p : V × V) (y : V), l[i]? = some p → r.kids[2 * i + 1]? = some y → Rd p.2 y) → Rd v r
structure POwn (v : V) : Prop where
  kind : 0 ≤ v.kind ∧ v.kind < 11
  leaf : v.kind = 8 ∨ v.kind = 9 ∨ v.kids = []
  text : v.kind = 6 ∨ v.kind = 7 ∨ v.kind = 10 ∨ v.text.size = 0
  num : (1 ≤ v.kind ∧ v.kind ≤ 5) ∨ v.num = 0
  ext : v.kind = 10 ∨ v.of_ = 0
  flag : v.kind = 1 → v.num ≤ 1
  n4 : v.kind = 4 → v.num < 4294967296
  even : v.kind = 9 → v.kids.length % 2 = 0
  few : v.kids.length ≤ 2000
  size : v.text.size ≤ 131072
inductive PFits : Nat → V → Prop
  | mk {n : Nat} {v : V} : POwn v → (∀ k ∈ v.kids, PFits n k) → PFits (n + 1) v
inductive PPlain : V → Prop
  | mk {v : V} : v.kind ≠ 10 → (∀ k ∈ v.kids, PPlain k) → (v.kind = 9 → ∀ (i : Nat) (k : V), v.kids[2 * i]? = some k → k.kind = 6 ∧ ∀ (j : Nat) (k' : V), j < i → v.kids[2 * j]? = some k' → k'.text ≠ k.text) → PPlain v
end Go.Proofs.YtapfahngeaojkaaGreatDoor
