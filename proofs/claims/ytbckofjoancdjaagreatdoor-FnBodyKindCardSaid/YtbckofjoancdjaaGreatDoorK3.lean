/- PLAIN DATA: the values that are asked ('Good'): what the guards of the statements say of a tree. -/
import Derived.Test.YtbckofjoancdjaaGreatDoorK2
namespace Go.Proofs.YtbckofjoancdjaaGreatDoor
structure Tidy (v : V) : Prop where
  pos : 0 ≤ v.num ∧ v.num < 18446744073709551616
  flag : v.kind = 1 → v.num ≤ 1
  n1 : v.kind = 2 → v.num < 256
  n2 : v.kind = 3 → v.num < 65536
  n4 : v.kind = 4 ∨ v.kind = 10 → v.num < 4294967296
  s1 : v.kind = 6 → v.num < 128 ∨ 18446744073709551488 ≤ v.num
  s2 : v.kind = 7 → v.num < 32768 ∨ 18446744073709518848 ≤ v.num
  s4 : v.kind = 8 → v.num < 2147483648 ∨ 18446744071562067968 ≤ v.num
  zero : v.kind = 0 ∨ 17 ≤ v.kind → v.num = 0
  empty : v.kind < 17 ∨ 20 < v.kind → v.text = ByteArray.empty
  uuid : v.kind = 17 → v.text.size = 16
  size : v.text.size ≤ 131072
  few : v.kids.length ≤ 1000
  leaf : v.kind < 21 → v.kids = []
  kind : (0 ≤ v.kind ∧ v.kind ≤ 11) ∨ (16 ≤ v.kind ∧ v.kind ≤ 23)
inductive Good : V → Prop
  | mk {v : V} : Tidy v → v.desc = [] → (∀ k ∈ v.kids, Good k) →
      (v.kind = 22 → v.kids.length % 2 = 0 ∧ (∀ (i : Nat) (k : V), v.kids[2 * i]? = some k → keyKind k.kind) ∧ ∀ (i j : Nat) (k k' : V), i < j → v.kids[2 * i]? = some k → v.kids[2 * j]? = some k' → ¬ Same (asRead k) (asRead k')) →
      (v.kind = 23 → ∃ k0, v.kids[0]? = some k0 ∧ arrayKind k0.kind ∧ k0.kind ≠ 20 ∧ (∀ k ∈ v.kids, k.kind = k0.kind) ∧ (18 ≤ k0.kind → ∀ k ∈ v.kids, k.text.size ≠ 0) ∧
        (k0.kind = 8 ∨ k0.kind = 9 → (∀ k ∈ v.kids, k.num < 9223372036854775808 ∨ 18446744073709551488 ≤ k.num) ∨ ∃ k ∈ v.kids, 128 ≤ k.num ∧ k.num < 9223372036854775808) ∧
        (k0.kind = 16 → ∀ k ∈ v.kids, k.num ≤ 9200000000000 ∨ 18446744073709551616 - 9200000000000 ≤ k.num)) → Good v
namespace Good
variable {v : V}
theorem tidy (h : Good v) : Tidy v := by cases h; assumption
theorem desc (h : Good v) : v.desc = [] := by cases h; assumption
theorem kid (h : Good v) {k : V} (hk : k ∈ v.kids) : Good k := by cases h with | mk _ _ h _ _ => exact h k hk
end Good
theorem Same.of_fields {a b : V} (h0 : a.kind = b.kind) (h1 : a.num = b.num) (h2 : a.text = b.text) (ka : a.kids = []) (kb : b.kids = []) (da : a.desc = []) (db : b.desc = []) : Same a b :=
  .mk h0 h1 h2 (by rw [ka, kb]) (by rw [da, db]) (fun i x y hx => by rw [ka] at hx; simp at hx) (fun x y hx => by rw [da] at hx; simp at hx)
end Go.Proofs.YtbckofjoancdjaaGreatDoor
