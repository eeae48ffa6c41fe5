/- PLAIN DATA: what the guards of the statements say of a tree ('Fits', 'Say', 'NoSym'), and that such a tree is 'Good'. -/
import Derived.Lib.ValidLaws
import Derived.Test.YtbckofjoancdjaaGreatDoorK3
namespace Go.Proofs.YtbckofjoancdjaaGreatDoor
structure Content (v : V) : Prop where
  flag : v.kind = 1 → v.num ≤ 1
  n1 : v.kind = 2 → v.num < 256
  n2 : v.kind = 3 → v.num < 65536
  n4 : v.kind = 4 ∨ v.kind = 10 → v.num < 4294967296
  s1 : v.kind = 6 → v.num < 128 ∨ 18446744073709551488 ≤ v.num
  s2 : v.kind = 7 → v.num < 32768 ∨ 18446744073709518848 ≤ v.num
  s4 : v.kind = 8 → v.num < 2147483648 ∨ 18446744071562067968 ≤ v.num
  wide : v.kind = 14 ∨ v.kind = 17 → v.text.size = 16
  utf : v.kind = 19 → Go.Lib.validD (bytesOf v.text) = true
  ascii : v.kind = 20 → ∀ b ∈ bytesOf v.text, b.toNat < 128
  even : v.kind = 22 → v.kids.length % 2 = 0
  arr : v.kind = 23 → (v.kids = [] → 0 ≤ v.of_ ∧ v.of_ < 24) ∧ ∀ k0, v.kids[0]? = some k0 → ∀ k ∈ v.kids, k.kind = k0.kind ∧ k.desc.length = k0.desc.length
structure Own (v : V) : Prop where
  kind : 0 ≤ v.kind ∧ v.kind < 24
  leaf : v.kind = 21 ∨ v.kind = 22 ∨ v.kind = 23 ∨ v.kids = []
  text : (17 ≤ v.kind ∧ v.kind ≤ 20) ∨ v.kind = 14 ∨ v.text.size = 0
  num : (1 ≤ v.kind ∧ v.kind ≤ 16 ∧ v.kind ≠ 14) ∨ v.num = 0
  desc : v.desc.length ≤ 1
  few : v.kids.length ≤ 1000
  size : v.text.size ≤ 131072
  dkind : ∀ d ∈ v.desc, (d.kind = 5 ∨ d.kind = 20) ∧ d.desc = []
inductive Fits : V → Prop
  | mk {v : V} : Own v → Content v → (∀ k ∈ v.kids, Fits k) → (∀ k ∈ v.desc, Fits k) → Fits v
namespace Fits
variable {v : V}
theorem own (h : Fits v) : Own v := by cases h; assumption
theorem content (h : Fits v) : Content v := by cases h; assumption
theorem kid (h : Fits v) {k : V} (hk : k ∈ v.kids) : Fits k := by cases h with | mk _ _ h _ => exact h k hk
theorem descr (h : Fits v) {k : V} (hk : k ∈ v.desc) : Fits k := by cases h with | mk _ _ _ h => exact h k hk
end Fits
structure Asked (l : List V) : Prop where
  text : ∀ k ∈ l, 18 ≤ k.kind → k.kind ≤ 20 → k.text.size ≠ 0
  time : ∀ k ∈ l, k.kind = 16 → k.num ≤ 9200000000000 ∨ 18446744073709551616 - 9200000000000 ≤ k.num
  high : (∀ k ∈ l, k.kind = 8 ∨ k.kind = 9 → k.num < 9223372036854775808 ∨ 18446744073709551488 ≤ k.num) ∨ ∃ k ∈ l, (k.kind = 8 ∨ k.kind = 9) ∧ 128 ≤ k.num ∧ k.num < 9223372036854775808
inductive Say : V → Prop
  | arr {v k0 : V} : v.desc = [] → v.kind = 23 → v.kids[0]? = some k0 → arrayKind k0.kind → k0.desc = [] → Asked v.kids → Say v
  | mk {v : V} : v.desc = [] → (v.kind < 12 ∨ 15 < v.kind) → v.kind ≠ 23 → (∀ k ∈ v.kids, Say k) →
      (v.kind = 22 → ∀ (i : Nat) (k : V), v.kids[2 * i]? = some k → keyKind k.kind ∧ ∀ (j : Nat) (k' : V), j < i → v.kids[2 * j]? = some k' → ¬ Same (asRead k') (asRead k)) → Say v
inductive NoSym : V → Prop
  | mk {v : V} : (∀ k0, v.kind = 23 → v.kids[0]? = some k0 → k0.kind ≠ 20) → (∀ k ∈ v.kids, NoSym k) → NoSym v
theorem tidy_of {v : V} (hn : 0 ≤ v.num ∧ v.num ≤ 18446744073709551615) (h : Own v) (c : Content v) (hk : v.kind < 12 ∨ 15 < v.kind) : Tidy v where
  pos := ⟨hn.1, by omega⟩
  flag := c.flag
  n1 := c.n1
  n2 := c.n2
  n4 := c.n4
  s1 := c.s1
  s2 := c.s2
  s4 := c.s4
  zero hz := by have := h.num; omega
  empty he := by
    have h1 : v.text.size = 0 := by have := h.text; omega
    obtain ⟨⟨l⟩⟩ : ∃ x, v.text = x := ⟨_, rfl⟩
    exact ByteArray.size_eq_zero_iff.1 h1
  uuid h17 := c.wide (.inr h17)
  size := h.size
  few := h.few
  leaf hl := by
    rcases h.leaf with h1 | h1 | h1 | h1
    · omega
    · omega
    · omega
    · exact h1
  kind := by have := h.kind; omega
def VNum0 (v : V) : Prop := 0 ≤ v.num ∧ v.num ≤ 18446744073709551615
inductive Nums : V → Prop
  | mk {v : V} : VNum0 v → (∀ k ∈ v.kids, Nums k) → (∀ k ∈ v.desc, Nums k) → Nums v
theorem good_leaf {k : V} (hf : Fits k) (hn : 0 ≤ k.num ∧ k.num ≤ 18446744073709551615) (ha : arrayKind k.kind) (hd : k.desc = []) : Good k := by
  have ha' := ha
  unfold arrayKind at ha'
  have hl : k.kids = [] := by
    rcases hf.own.leaf with h1 | h1 | h1 | h1
    · omega
    · omega
    · omega
    · exact h1
  refine .mk (tidy_of hn hf.own hf.content (by omega)) hd (fun x hx => by rw [hl] at hx; cases hx) (fun h => by omega) (fun h => by omega)
theorem good_of : ∀ (n : Nat) (v : V), SizeOf.sizeOf v ≤ n → Nums v → Fits v → Say v → NoSym v → Good v := by
  intro n
  induction n using Nat.strongRecOn with
  | _ n ih =>
    intro v hv hN hf hs hy
    have hn : VNum0 v := by cases hN; assumption
    have hNk : ∀ k ∈ v.kids, Nums k := by cases hN; assumption
    have hyk : ∀ k ∈ v.kids, NoSym k := by cases hy; assumption
    cases hs with
    | @arr _ k0 hd h23 h0 hak hd0 hA =>
      have hm0 := List.mem_of_getElem? h0
      have hall := (hf.content.arr h23).2 k0 h0
      have hgk : ∀ k ∈ v.kids, Good k := fun k hk => by
        have hkn : VNum0 k := by have := hNk k hk; cases this; assumption
        refine good_leaf (hf.kid hk) hkn (by rw [(hall k hk).1]; exact hak) ?_
        have := (hall k hk).2
        rw [hd0] at this
        exact List.eq_nil_of_length_eq_zero this
      refine .mk (tidy_of hn hf.own hf.content (by omega)) hd hgk (fun h => by omega) (fun _ => ⟨k0, h0, hak, ?_, fun k hk => (hall k hk).1, fun h18 k hk => ?_, fun h89 => ?_, fun h16 k hk => ?_⟩)
      · cases hy with
        | mk h1 _ => exact h1 k0 h23 h0
      · have h1 := (hall k hk).1
        unfold arrayKind at hak
        exact hA.text k hk (by omega) (by omega)
      · rcases hA.high with h1 | ⟨k, hk, _, h1⟩
        · exact .inl fun k hk => h1 k hk (by have := (hall k hk).1; omega)
        · exact .inr ⟨k, hk, h1⟩
      · exact hA.time k hk (by have := (hall k hk).1; omega)
    | mk hd hk h23 hkids hmap =>
      refine .mk (tidy_of hn hf.own hf.content hk) hd (fun k hk' => ?_) (fun h22 => ⟨hf.content.even h22, fun i k hi => (hmap h22 i k hi).1, fun i j k k' hij hi hj => (hmap h22 j k' hj).2 i k hij hi⟩) (fun h => absurd h h23)
      have := V.sizeOf_kid hk'
      exact ih (SizeOf.sizeOf k) (by omega) k (Nat.le_refl _) (hNk k hk') (hf.kid hk') (hkids k hk') (hyk k hk')
inductive Utf : V → Prop
  | mk {v : V} : (v.kind = 19 → Go.Lib.validD (bytesOf v.text) = true) → (∀ k ∈ v.kids, Utf k) → Utf v
theorem valid_ascii : ∀ (l : List UInt8), (∀ b ∈ l, b.toNat < 128) → Go.Lib.validD l = true
  | [], _ => rfl
  | b :: t, h => by rw [Go.Lib.validD_cons b t (h b (by simp))]; exact valid_ascii t fun c hc => h c (by simp [hc])
theorem utf_of : ∀ (n : Nat) (v : V), SizeOf.sizeOf v ≤ n → Fits v → Utf v ∧ Utf (asRead v) := by
  intro n
  induction n using Nat.strongRecOn with
  | _ n ih =>
    intro v hv hf
    have hk : ∀ k ∈ v.kids, Utf k ∧ Utf (asRead k) := fun k hk => ih (SizeOf.sizeOf k) (by have := V.sizeOf_kid hk; omega) k (Nat.le_refl _) (hf.kid hk)
    refine ⟨.mk hf.content.utf fun k h => (hk k h).1, ?_⟩
    rw [asRead_eq]
    refine .mk (fun h => ?_) fun k h => ?_
    · simp only [V.kind_mk, V.text_mk] at h ⊢
      split at h
      · next h20 => exact valid_ascii _ (hf.content.ascii h20)
      · exact hf.content.utf h
    · simp only [V.kids_mk] at h
      split at h
      · exact (hk k h).1
      · obtain ⟨x, hx, rfl⟩ := List.mem_map.1 h
        exact (hk x hx).2
end Go.Proofs.YtbckofjoancdjaaGreatDoor
