/- Package spec: SameUnordered holds of what was written and what is read. -/
import Derived.Test.YtapfahngeaojkaaGreatDoorK22
namespace Go.Proofs.YtapfahngeaojkaaGreatDoor
open Go Go.RowKit Go.Lib
theorem own_leaf {v : V} (h : POwn v) (hk : v.kind < 8) : v.of_ = 0 ∧ v.kids = [] := by
  refine ⟨?_, ?_⟩
  · rcases h.ext with h | h
    · omega
    · exact h
  · rcases h.leaf with h | h | h
    · omega
    · omega
    · exact h
theorem own_key {u : V} (h : POwn u) (h6 : u.kind = 6) : Key u := by
  refine ⟨h6, ?_, (own_leaf h (by omega)).1, (own_leaf h (by omega)).2⟩
  rcases h.num with h | h
  · omega
  · exact h
theorem rd_key {u : V} (h : Key u) : Key (rd0 u) := by
  refine ⟨?_, h.num, rfl, rfl⟩
  have h6 := h.kind
  simp only [rd0, V.kind_mk]
  rw [if_neg (by omega)]
  exact h6
theorem keys_nodup {l : List V} (h : ∀ (i : Nat) (k : V), l[2 * i]? = some k → ∀ (j : Nat) (k' : V), j < i → l[2 * j]? = some k' → k'.text ≠ k.text) : ((pairs l).map fun p => p.1.text).Nodup := by
  rw [List.Nodup, List.pairwise_map, List.pairwise_iff_getElem]
  intro i j hi hj hij
  have h1 := (pairs_at l i _ (List.getElem?_eq_getElem hi)).1
  have h2 := (pairs_at l j _ (List.getElem?_eq_getElem hj)).1
  exact h j _ h2 i _ hij h1
theorem nodup_at {α β : Type} {f : α → β} {l : List α} (h : (l.map f).Nodup) {i j : Nat} {a b : α} (hi : l[i]? = some a) (hj : l[j]? = some b) (e : f a = f b) : i = j := by
  rw [List.Nodup, List.pairwise_map, List.pairwise_iff_getElem] at h
  obtain ⟨hi', rfl⟩ := List.getElem?_eq_some_iff.1 hi
  obtain ⟨hj', rfl⟩ := List.getElem?_eq_some_iff.1 hj
  rcases Nat.lt_trichotomy i j with h1 | h1 | h1
  · exact absurd e (h i j hi' hj' h1)
  · exact h1
  · exact absurd e.symm (h j i hj' hi' h1)
theorem SU_any : ∀ (n : Nat) (v : V), SizeOf.sizeOf v ≤ n → ∀ (L : Nat), PFits L v → PPlain v → Nums v → SUok v := by
  intro n
  induction n using Nat.strongRecOn with
  | _ n ih =>
    intro v hn L hf hp hnu r W x y hrd hx hy
    have hih : ∀ k ∈ v.kids, SUok k := by
      intro k hk
      cases hf with
      | mk _ hfk =>
        cases hp with
        | mk _ hpk _ =>
          cases hnu with
          | mk _ _ _ hnk => exact ih (SizeOf.sizeOf k) (by have := V.sizeOf_kid hk; omega) k (Nat.le_refl _) _ (hfk k hk) (hpk k hk) (hnk k hk)
    obtain ⟨ka, rfl, _, hka⟩ := hx
    obtain ⟨kb, rfl, _, hkb⟩ := hy
    cases hrd with
    | leaf h0 h8 =>
      obtain ⟨h1, h2⟩ := own_leaf hf.own h8
      obtain ⟨p1, c1, rfl, _, _⟩ := hka.form
      obtain ⟨p2, c2, rfl, _, _⟩ := hkb.form
      unfold kagg
      rw [h1, h2]
      exact SU_leaf v W p1 p2 c1 c2 h8 hnu
    | arr h8 k8 hde hnum htx hof hl hk =>
      unfold kagg
      rw [h8, k8]
      exact SU_arr v r W ka kb hka hkb hl _ _ _ _ _ _ hk hih
    | map l h9 k9 hde hnum htx hof hpm hl hkey hval =>
      have hev := hf.own.even h9
      have hfew := hf.own.few
      have hpl := pairs_len v.kids hev
      have hll := hpm.length_eq
      have hpp : ∀ (i : Nat) (k : V), v.kids[2 * i]? = some k → k.kind = 6 ∧ ∀ (j : Nat) (k' : V), j < i → v.kids[2 * j]? = some k' → k'.text ≠ k.text := by
        cases hp with
        | mk _ _ h => exact h h9
      have hfk : ∀ k ∈ v.kids, POwn k := by
        cases hf with
        | mk _ hfk => exact fun k hk => (hfk k hk).own
      have hnd : (l.map fun p => p.1.text).Nodup := (hpm.map _).nodup_iff.1 (keys_nodup fun i k hi => (hpp i k hi).2)
      have hkv : ∀ (i : Nat) (x : V), v.kids[2 * i]? = some x → Key x := fun i x hx => own_key (hfk x (List.mem_of_getElem? hx)) (hpp i x hx).1
      have hlk : ∀ (p : Nat) (e : V × V), l[p]? = some e → Key e.1 := fun p e he => by
        have hm := hpm.mem_iff.2 (List.mem_of_getElem? he)
        obtain ⟨i, hi⟩ := List.mem_iff_getElem?.1 hm
        exact hkv i e.1 (pairs_at _ i e hi).1
      have hlr : ∀ (j : Nat) (x : V), r.kids[2 * j]? = some x → ∃ e, l[j]? = some e ∧ x = rd0 e.1 := fun j x hx => by
        have h1 := (List.getElem?_eq_some_iff.1 hx).1
        obtain ⟨e, he⟩ : ∃ e, l[j]? = some e := ⟨l[j]'(by omega), List.getElem?_eq_getElem _⟩
        exact ⟨e, he, (hkey j e x he hx).2⟩
      unfold kagg
      rw [h9, k9]
      refine SU_map v r W ka kb hka hkb (by omega) hev hfew _ _ _ _ _ _ hkv (fun j x hx => ?_) (fun i u v1 hu hv => ?_) hih
      · obtain ⟨e, he, rfl⟩ := hlr j x hx
        exact rd_key (hlk j e he)
      · have hm := hpm.mem_iff.1 (List.mem_of_getElem? (pairs_of v.kids i u v1 hu hv))
        obtain ⟨p, hpi⟩ := List.mem_iff_getElem?.1 hm
        have hpb := (List.getElem?_eq_some_iff.1 hpi).1
        obtain ⟨x, hx⟩ : ∃ x, r.kids[2 * p]? = some x := ⟨r.kids[2 * p]'(by omega), List.getElem?_eq_getElem _⟩
        obtain ⟨y, hy⟩ : ∃ y, r.kids[2 * p + 1]? = some y := ⟨r.kids[2 * p + 1]'(by omega), List.getElem?_eq_getElem _⟩
        have h1 := (hkey p _ x hpi hx).2
        refine ⟨p, x, y, hx, hy, by rw [h1]; rfl, hval p _ y hpi hy, fun j x' hx' ht => ?_⟩
        obtain ⟨e, he, rfl⟩ := hlr j x' hx'
        exact nodup_at hnd he hpi ht
end Go.Proofs.YtapfahngeaojkaaGreatDoor
