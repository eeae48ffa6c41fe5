/- PLAIN DATA: the forms in which a value may be written, as relations: what stands behind a code ('Form'), a whole value ('Enc'), values one behind the other ('EncL'), elements of an array ('FormL'). And how long they are. -/
import Derived.Test.YtapfahngeaojkaaGreatDoorK0
namespace Go.Proofs.YtapfahngeaojkaaGreatDoor
def be : Nat → Nat → List UInt8
  | 0, _ => []
  | n + 1, u => UInt8.ofNat (u / 256 ^ n % 256) :: be n u
@[simp] theorem be_length (n u : Nat) : (be n u).length = n := by
  induction n with
  | zero => rfl
  | succ n ih => simp [be, ih]
def fsz (k : Int) : Nat :=
  if k = 2 ∨ k = 6 then 1 else if k = 3 ∨ k = 7 then 2 else if k = 4 ∨ k = 8 ∨ k = 10 ∨ k = 12 ∨ k = 15 then 4
  else if k = 5 ∨ k = 9 ∨ k = 11 ∨ k = 13 ∨ k = 16 then 8 else 0
def coded (k : Int) : Nat :=
  if k = 0 then 0x40 else if k = 1 then 0x56 else if k = 2 then 0x50 else if k = 6 then 0x51 else if k = 3 then 0x60 else if k = 7 then 0x61
  else if k = 4 then 0x70 else if k = 8 then 0x71 else if k = 10 then 0x72 else if k = 15 then 0x73 else if k = 12 then 0x74 else if k = 5 then 0x80
  else if k = 9 then 0x81 else if k = 11 then 0x82 else if k = 16 then 0x83 else if k = 13 then 0x84 else if k = 14 then 0x94 else if k = 17 then 0x98
  else if k = 18 then 0xb0 else if k = 19 then 0xb1 else if k = 20 then 0xb3 else if k = 21 then 0xd0 else if k = 22 then 0xd1 else if k = 23 then 0xf0 else 0
def numKind (k : Int) : Prop := (2 ≤ k ∧ k ≤ 13) ∨ k = 15 ∨ k = 16
def tcode (k : Int) : Nat := if k = 18 then 0xa0 else if k = 19 then 0xa1 else 0xa3
def ccode (k : Int) : Nat := if k = 21 then 0xc0 else if k = 22 then 0xc1 else 0xe0
def bytesOf (b : ByteArray) : List UInt8 := b.data.toList
def elemCode (k : Int) (c : Nat) : Prop := c = coded k ∨ (k = 4 ∧ c = 0x52) ∨ (k = 5 ∧ c = 0x53) ∨ (k = 8 ∧ c = 0x54) ∨ (k = 9 ∧ c = 0x55) ∨ (k = 18 ∧ c = 0xa0) ∨ (k = 19 ∧ c = 0xa1) ∨ (k = 20 ∧ c = 0xa3)
mutual
inductive Form : V → Nat → List UInt8 → Prop
  | null {v : V} : v.kind = 0 → Form v 0x40 []
  | flag {v : V} : v.kind = 1 → Form v (0x42 - v.num.toNat) []
  | bool {v : V} : v.kind = 1 → Form v 0x56 [UInt8.ofNat v.num.toNat]
  | full {v : V} : numKind v.kind → Form v (coded v.kind) (be (fsz v.kind) v.num.toNat)
  | uint0 {v : V} : v.kind = 4 → v.num = 0 → Form v 0x43 []
  | ulong0 {v : V} : v.kind = 5 → v.num = 0 → Form v 0x44 []
  | uint1 {v : V} : v.kind = 4 → v.num < 256 → Form v 0x52 (be 1 v.num.toNat)
  | ulong1 {v : V} : v.kind = 5 → v.num < 256 → Form v 0x53 (be 1 v.num.toNat)
  | int1 {v : V} : v.kind = 8 → (v.num < 128 ∨ 18446744073709551488 ≤ v.num) → Form v 0x54 (be 1 v.num.toNat)
  | long1 {v : V} : v.kind = 9 → (v.num < 128 ∨ 18446744073709551488 ≤ v.num) → Form v 0x55 (be 1 v.num.toNat)
  | wide {v : V} : (v.kind = 14 ∨ v.kind = 17) → v.text.size = 16 → Form v (coded v.kind) (bytesOf v.text)
  | text1 {v : V} : (v.kind = 18 ∨ v.kind = 19 ∨ v.kind = 20) → v.text.size < 256 → Form v (tcode v.kind) (be 1 v.text.size ++ bytesOf v.text)
  | text4 {v : V} : (v.kind = 18 ∨ v.kind = 19 ∨ v.kind = 20) → Form v (coded v.kind) (be 4 v.text.size ++ bytesOf v.text)
  | list0 {v : V} : v.kind = 21 → v.kids = [] → Form v 0x45 []
  | kids1 {v : V} {d : List UInt8} : (v.kind = 21 ∨ v.kind = 22) → EncL v.kids d → v.kids.length < 256 → d.length + 1 < 256 → Form v (ccode v.kind) (be 1 (d.length + 1) ++ be 1 v.kids.length ++ d)
  | kids4 {v : V} {d : List UInt8} : (v.kind = 21 ∨ v.kind = 22) → EncL v.kids d → Form v (coded v.kind) (be 4 (d.length + 4) ++ be 4 v.kids.length ++ d)
  | array1 {v : V} {d : List UInt8} : v.kind = 23 → Elems v d → v.kids.length < 256 → d.length + 1 < 256 → Form v 0xe0 (be 1 (d.length + 1) ++ be 1 v.kids.length ++ d)
  | array4 {v : V} {d : List UInt8} : v.kind = 23 → Elems v d → Form v 0xf0 (be 4 (d.length + 4) ++ be 4 v.kids.length ++ d)
inductive Elems : V → List UInt8 → Prop
  | plain {v : V} {c : Nat} {p : List UInt8} : (∀ k, v.kids[0]? = some k → k.desc = []) → c < 256 → (∀ k ∈ v.kids, elemCode k.kind c) → FormL v.kids c p → Elems v (UInt8.ofNat c :: p)
  | desc {v k d : V} {c : Nat} {e p : List UInt8} : v.kids[0]? = some k → k.desc = [d] → Enc d e → FormL v.kids c p → Elems v (0 :: (e ++ UInt8.ofNat c :: p))
inductive FormL : List V → Nat → List UInt8 → Prop
  | nil {c : Nat} : FormL [] c []
  | cons {v : V} {l : List V} {c : Nat} {p q : List UInt8} : Form v c p → FormL l c q → FormL (v :: l) c (p ++ q)
inductive Enc : V → List UInt8 → Prop
  | plain {v : V} {c : Nat} {p : List UInt8} : v.desc = [] → Form v c p → Enc v (UInt8.ofNat c :: p)
  | desc {v d : V} {c : Nat} {e p : List UInt8} : v.desc = [d] → Enc d e → Form v c p → Enc v (0 :: (e ++ UInt8.ofNat c :: p))
inductive EncL : List V → List UInt8 → Prop
  | nil : EncL [] []
  | cons {v : V} {l : List V} {p q : List UInt8} : Enc v p → EncL l q → EncL (v :: l) (p ++ q)
end
theorem EncL.snoc {l : List V} {v : V} {p q : List UInt8} (h : EncL l p) (hv : Enc v q) : EncL (l ++ [v]) (p ++ q) := by
  induction l generalizing p with
  | nil => cases h; simpa using EncL.cons hv EncL.nil
  | cons a l ih => cases h with | cons h1 h2 => simpa using EncL.cons h1 (ih h2)
theorem FormL.snoc {l : List V} {v : V} {c : Nat} {p q : List UInt8} (h : FormL l c p) (hv : Form v c q) : FormL (l ++ [v]) c (p ++ q) := by
  induction l generalizing p with
  | nil => cases h; simpa using FormL.cons hv FormL.nil
  | cons a l ih => cases h with | cons h1 h2 => simpa using FormL.cons h1 (ih h2)
def V.room (v : V) : Nat := 20 + v.text.size + (v.kids.attach.map fun k => V.room k.1).sum + (v.desc.attach.map fun k => V.room k.1).sum
termination_by sizeOf v
decreasing_by
  · exact V.sizeOf_kid k.2
  · exact V.sizeOf_desc k.2
theorem V.room_eq (v : V) : v.room = 20 + v.text.size + sumOf V.room v.kids + sumOf V.room v.desc := by
  rw [V.room]; simp only [sum_attach]
def V.inner (v : V) : Nat := 18 + v.text.size + sumOf V.room v.kids
theorem V.room_inner (v : V) : v.room = 2 + v.inner + sumOf V.room v.desc := by rw [V.room_eq]; unfold V.inner; omega
theorem fsz_le (k : Int) : fsz k ≤ 8 := by unfold fsz; repeat' split
                                           all_goals omega
theorem bytesOf_length (b : ByteArray) : (bytesOf b).length = b.size := by unfold bytesOf; rw [Array.length_toList]; rfl
theorem len_all (n : Nat) : (∀ v c p, sizeOf v ≤ n → Form v c p → p.length ≤ v.inner) ∧ (∀ v p, sizeOf v ≤ n → Enc v p → p.length ≤ v.room) := by
  induction n using Nat.strongRecOn with
  | _ n ih =>
    have hL : ∀ (l : List V) (p : List UInt8), (∀ k ∈ l, sizeOf k < n) → EncL l p → p.length ≤ sumOf V.room l := by
      intro l
      induction l with
      | nil => intro p _ h; cases h; simp
      | cons a l ihl =>
        intro p hl h
        cases h with
        | cons h1 h2 =>
          have := (ih (sizeOf a) (hl a (by simp))).2 a _ (Nat.le_refl _) h1
          have := ihl _ (fun k hk => hl k (by simp [hk])) h2
          simp [sumOf]; omega
    have hF : ∀ (l : List V) (c : Nat) (p : List UInt8), (∀ k ∈ l, sizeOf k < n) → FormL l c p → p.length + sumOf (fun k => 2 + sumOf V.room k.desc) l ≤ sumOf V.room l := by
      intro l
      induction l with
      | nil => intro c p _ h; cases h; simp [sumOf]
      | cons a l ihl =>
        intro c p hl h
        cases h with
        | cons h1 h2 =>
          have := (ih (sizeOf a) (hl a (by simp))).1 a _ _ (Nat.le_refl _) h1
          have := ihl _ _ (fun k hk => hl k (by simp [hk])) h2
          have := a.room_inner
          simp [sumOf]; omega
    have hE : ∀ (v : V) (d : List UInt8), sizeOf v ≤ n → Elems v d → d.length ≤ 2 + sumOf V.room v.kids := by
      intro v d hv h
      have hk : ∀ k ∈ v.kids, sizeOf k < n := fun k hk => by have := V.sizeOf_kid hk; omega
      cases h with
      | plain _ _ _ h => have := hF _ _ _ hk h; simp; omega
      | @desc _ k d' c e p h0 h1 h2 h3 =>
        have := hF _ _ _ hk h3
        have hm : k ∈ v.kids := List.mem_of_getElem? h0
        have hm' : d' ∈ k.desc := by rw [h1]; simp
        have hd : sizeOf d' < n := by have := V.sizeOf_desc hm'; have := hk k hm; omega
        have h4 := (ih _ hd).2 d' _ (Nat.le_refl _) h2
        have h5 := sumOf_mem (fun k => 2 + sumOf V.room k.desc) v.kids k hm
        simp only [h1, sumOf] at h5
        simp; omega
    have hForm : ∀ v c p, sizeOf v ≤ n → Form v c p → p.length ≤ v.inner := by
      intro v c p hv h
      have hk : ∀ k ∈ v.kids, sizeOf k < n := fun k hk => by have := V.sizeOf_kid hk; omega
      unfold V.inner
      cases h with
      | full _ => have := fsz_le v.kind; simp; omega
      | wide _ h => simp [bytesOf_length]; omega
      | text1 _ h => simp [bytesOf_length]; omega
      | text4 _ => simp [bytesOf_length]; omega
      | kids1 _ h _ _ => have := hL _ _ hk h; simp; omega
      | kids4 _ h => have := hL _ _ hk h; simp; omega
      | array1 _ h _ _ => have := hE _ _ hv h; simp; omega
      | array4 _ h => have := hE _ _ hv h; simp; omega
      | _ => simp <;> omega
    refine ⟨hForm, ?_⟩
    intro v p hv h
    have h0 := v.room_inner
    cases h with
    | plain h1 h2 => have := hForm _ _ _ hv h2; simp; omega
    | @desc _ d c e p h1 h2 h3 =>
      have := hForm _ _ _ hv h3
      have hd : sizeOf d < n := by have := V.sizeOf_desc (v := v) (k := d) (by rw [h1]; simp); omega
      have := (ih _ hd).2 d _ (Nat.le_refl _) h2
      rw [h1] at h0
      simp [sumOf] at h0 ⊢; omega
theorem Form.len {v : V} {c : Nat} {p : List UInt8} (h : Form v c p) : p.length ≤ v.inner := (len_all (sizeOf v)).1 v c p (Nat.le_refl _) h
theorem Enc.len {v : V} {p : List UInt8} (h : Enc v p) : p.length ≤ v.room := (len_all (sizeOf v)).2 v p (Nat.le_refl _) h
theorem EncL.len {l : List V} {p : List UInt8} (h : EncL l p) : p.length ≤ sumOf V.room l := by
  induction l generalizing p with
  | nil => cases h; simp
  | cons a l ih => cases h with | cons h1 h2 => have := h1.len; have := ih h2; simp [sumOf]; omega
theorem FormL.len {l : List V} {c : Nat} {p : List UInt8} (h : FormL l c p) : p.length ≤ sumOf V.inner l := by
  induction l generalizing p with
  | nil => cases h; simp
  | cons a l ih => cases h with | cons h1 h2 => have := h1.len; have := ih h2; simp [sumOf]; omega
theorem inner_le_room (l : List V) : sumOf V.inner l ≤ sumOf V.room l := sumOf_le _ _ _ fun a _ => by have := a.room_inner; omega
end Go.Proofs.YtapfahngeaojkaaGreatDoor
