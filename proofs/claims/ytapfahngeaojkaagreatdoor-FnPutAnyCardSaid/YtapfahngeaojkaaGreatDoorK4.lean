/- PLAIN DATA: what is read is in its plain form, as deep as what was written. -/
import Derived.Test.YtapfahngeaojkaaGreatDoorK3
namespace Go.Proofs.YtapfahngeaojkaaGreatDoor
structure Nrm0 (r : V) : Prop where
  desc : r.desc = []
  ext : r.of_ = 0
  kind : 0 ≤ r.kind ∧ r.kind < 10
  leaf : r.kind = 8 ∨ r.kind = 9 ∨ r.kids = []
  text : r.kind = 6 ∨ r.kind = 7 ∨ r.text = ⟨#[]⟩
  num : (1 ≤ r.kind ∧ r.kind ≤ 5) ∨ r.num = 0
  wide : 0 ≤ r.num ∧ r.num < 18446744073709551616
  size : r.text.size ≤ 131072
inductive Nrm : Nat → V → Prop
  | mk {n : Nat} {r : V} : Nrm0 r → (∀ k ∈ r.kids, Nrm n k) → Nrm (n + 1) r
inductive Nums : V → Prop
  | mk {v : V} : v.desc = [] → 0 ≤ v.num → v.num < 18446744073709551616 → (∀ k ∈ v.kids, Nums k) → Nums v
theorem empty_text {t : ByteArray} (h : t.size = 0) : t = ⟨#[]⟩ := by
  obtain ⟨⟨l⟩⟩ := t
  have h1 : l.length = 0 := h
  rw [List.eq_nil_of_length_eq_zero h1]
theorem PFits.own {n : Nat} {v : V} (h : PFits n v) : POwn v := by cases h; assumption
theorem PPlain.ne {v : V} (h : PPlain v) : v.kind ≠ 10 := by cases h; assumption
theorem Nums.num {v : V} (h : Nums v) : 0 ≤ v.num ∧ v.num < 18446744073709551616 := by cases h; constructor <;> assumption
theorem rd0_nrm {n : Nat} {v : V} (ho : POwn v) (h8 : v.kind < 8) (hn : Nums v) : Nrm (n + 1) (rd0 v) := by
  have hw := hn.num
  have h0 := ho.kind
  refine .mk ⟨rfl, rfl, ?_, ?_, ?_, ?_, hw, ho.size⟩ (fun k hk => by simp [rd0] at hk)
  · simp only [rd0, V.kind_mk]; split <;> omega
  · exact .inr (.inr rfl)
  · have := ho.text
    simp only [rd0, V.kind_mk, V.text_mk]
    split
    · exact .inr (.inr (empty_text (by omega)))
    · rcases this with h | h | h | h
      · exact .inl h
      · exact .inr (.inl h)
      · omega
      · exact .inr (.inr (empty_text h))
  · have := ho.num
    simp only [rd0, V.kind_mk, V.num_mk]
    split <;> omega
theorem mem_at {l : List V} {k : V} (h : k ∈ l) : ∃ i : Nat, l[i]? = some k := List.mem_iff_getElem?.1 h
theorem at_some {l : List V} {i : Nat} (h : i < l.length) : ∃ k, l[i]? = some k := ⟨l[i], List.getElem?_eq_getElem h⟩
theorem rd_nrm {v r : V} (h : Rd v r) : ∀ (n : Nat), PFits n v → PPlain v → Nums v → Nrm n r := by
  induction h with
  | leaf h0 h8 =>
    intro n hf _ hn
    cases hf with
    | mk ho _ => exact rd0_nrm ho h8 hn
  | arr h8 k8 hde hnum htx hof hl hk ih =>
    rename_i v r
    intro n hf hp hn
    cases hf with
    | mk ho hfk =>
      cases hp with
      | mk _ hpk _ =>
        cases hn with
        | mk _ _ _ hnk =>
          refine .mk ⟨hde, hof, by omega, .inl k8, .inr (.inr htx), .inr hnum, by omega, by rw [htx]; decide⟩ fun k hkr => ?_
          obtain ⟨i, hi⟩ := mem_at hkr
          obtain ⟨x, hx⟩ := at_some (l := v.kids) (i := i) (by have := (List.getElem?_eq_some_iff.1 hi).1; omega)
          exact ih i x k hx hi _ (hfk x (List.mem_of_getElem? hx)) (hpk x (List.mem_of_getElem? hx)) (hnk x (List.mem_of_getElem? hx))
  | map l h9 k9 hde hnum htx hof hpm hl hkey hval ih =>
    rename_i v r
    intro n hf hp hn
    cases hf with
    | mk ho hfk =>
      cases hp with
      | mk _ hpk _ =>
        cases hn with
        | mk _ _ _ hnk =>
          refine .mk ⟨hde, hof, by omega, .inr (.inl k9), .inr (.inr htx), .inr hnum, by omega, by rw [htx]; decide⟩ fun k hkr => ?_
          obtain ⟨j, hj⟩ := mem_at hkr
          have hjl := (List.getElem?_eq_some_iff.1 hj).1
          obtain ⟨p, hpl⟩ : ∃ p, l[j / 2]? = some p := ⟨l[j / 2]'(by omega), List.getElem?_eq_getElem _⟩
          have hm := pairs_mem (hpm.mem_iff.2 (List.mem_of_getElem? hpl))
          rcases Nat.mod_two_eq_zero_or_one j with h2 | h2
          · have hjj : j = 2 * (j / 2) := by omega
            obtain ⟨h6, rfl⟩ := hkey (j / 2) p k hpl (by rw [← hjj]; exact hj)
            cases hfk p.1 hm.1 with
            | mk hox _ => exact rd0_nrm hox (by omega) (hnk p.1 hm.1)
          · have hjj : j = 2 * (j / 2) + 1 := by omega
            exact ih (j / 2) p k hpl (by rw [← hjj]; exact hj) _ (hfk p.2 hm.2) (hpk p.2 hm.2) (hnk p.2 hm.2)
theorem sz_u {c s : Nat} (h : uCode c s) : s ≤ 8 := by unfold uCode at h; omega
theorem sz_i {c s : Nat} (h : iCode c s) : s ≤ 8 := by unfold iCode at h; omega
theorem sz_t {c s : Nat} (h : tCode c s) : s ≤ 8 := by unfold tCode at h; omega
theorem sz_b {c s : Nat} (h : bCode c s) : s ≤ 8 := by unfold bCode at h; omega
theorem sz_a {c s : Nat} (h : aCode c s) : s ≤ 8 := by unfold aCode at h; omega
theorem sz_m {c s : Nat} (h : mCode c s) : s ≤ 8 := by unfold mCode at h; omega
theorem penc_len : ∀ (n : Nat) (r : V) (p : List UInt8), sizeOf r ≤ n → PEnc r p → p.length ≤ r.room := by
  intro n
  induction n using Nat.strongRecOn with
  | _ n ih =>
    intro r p hn h
    have hL : ∀ (l : List V) (d : List UInt8), (∀ k ∈ l, sizeOf k < n) → PEncL l d → d.length ≤ sumOf V.room l := by
      intro l
      induction l with
      | nil => intro d _ h; cases h; simp
      | cons a l ihl =>
        intro d hs h
        cases h with
        | cons h1 h2 =>
          have h3 := ih _ (hs a (by simp)) a _ (Nat.le_refl _) h1
          have h4 := ihl _ (fun k hk => hs k (by simp [hk])) h2
          simp only [List.length_append, sumOf]
          omega
    have hK : ∀ d, PEncL r.kids d → d.length ≤ sumOf V.room r.kids := fun d h => hL _ _ (fun k hk => by have := V.sizeOf_kid hk; omega) h
    have hr := r.room_eq
    have hb : (bytesOf r.text).length = r.text.size := by unfold bytesOf; rfl
    cases h with
    | nil _ => show 1 ≤ r.room; omega
    | bool _ _ _ => show 1 ≤ r.room; omega
    | fix _ _ _ => show 1 ≤ r.room; omega
    | neg _ _ _ => show 1 ≤ r.room; omega
    | unum _ hc _ h1 => have h2 := sz_u hc; clear h1; rw [List.length_cons, be_length]; omega
    | inum hc h1 => have h2 := sz_i hc; clear h1; rw [List.length_cons, be_length]; omega
    | f32 _ _ _ => rw [List.length_cons, be_length]; omega
    | f64 _ _ _ => rw [List.length_cons, be_length]; omega
    | text0 _ _ => rw [List.length_cons]; omega
    | text _ hc h1 => have h2 := sz_t hc; clear h1; rw [List.length_cons, List.length_append, be_length]; omega
    | bin _ hc h1 => have h2 := sz_b hc; clear h1; rw [List.length_cons, List.length_append, be_length]; omega
    | arr0 _ _ hk => have h3 := hK _ hk; rw [List.length_cons]; omega
    | arr _ hc h1 hk => have h2 := sz_a hc; have h3 := hK _ hk; clear h1; rw [List.length_cons, List.length_append, be_length]; omega
    | map0 _ _ _ hk => have h3 := hK _ hk; rw [List.length_cons]; omega
    | map _ _ hc h1 hk => have h2 := sz_m hc; have h3 := hK _ hk; clear h1; rw [List.length_cons, List.length_append, be_length]; omega
theorem PEnc.len {r : V} {p : List UInt8} (h : PEnc r p) : p.length ≤ r.room := penc_len _ r p (Nat.le_refl _) h
end Go.Proofs.YtapfahngeaojkaaGreatDoor
