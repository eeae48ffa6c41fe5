/- PLAIN DATA: AMQP values as trees, and what their encodings are (the reference's PutValue, as a relation). No Go and no memory here. -/
namespace Go.Proofs.YtapfahngeaojkaaGreatDoor
inductive V where
  | mk (kind num : Int) (text : ByteArray) (kids : List V) (of_ : Int) (desc : List V)
namespace V
def kind : V → Int | mk k _ _ _ _ _ => k
def num : V → Int | mk _ n _ _ _ _ => n
def text : V → ByteArray | mk _ _ t _ _ _ => t
def kids : V → List V | mk _ _ _ l _ _ => l
def of_ : V → Int | mk _ _ _ _ o _ => o
def desc : V → List V | mk _ _ _ _ _ d => d
theorem eta (v : V) : v = mk v.kind v.num v.text v.kids v.of_ v.desc := by cases v; rfl
def bare (v : V) : V := mk v.kind v.num v.text v.kids v.of_ []
@[simp] theorem kind_mk (a b c d e f) : (mk a b c d e f).kind = a := rfl
@[simp] theorem num_mk (a b c d e f) : (mk a b c d e f).num = b := rfl
@[simp] theorem text_mk (a b c d e f) : (mk a b c d e f).text = c := rfl
@[simp] theorem kids_mk (a b c d e f) : (mk a b c d e f).kids = d := rfl
@[simp] theorem of_mk (a b c d e f) : (mk a b c d e f).of_ = e := rfl
@[simp] theorem desc_mk (a b c d e f) : (mk a b c d e f).desc = f := rfl
theorem sizeOf_kid {v k : V} (h : k ∈ v.kids) : sizeOf k < sizeOf v := by
  cases v; have := List.sizeOf_lt_of_mem h; simp_all; omega
theorem sizeOf_desc {v k : V} (h : k ∈ v.desc) : sizeOf k < sizeOf v := by
  cases v; have := List.sizeOf_lt_of_mem h; simp_all; omega
def count (v : V) : Nat := 1 + (v.kids.attach.map fun k => count k.1).sum + (v.desc.attach.map fun k => count k.1).sum
termination_by sizeOf v
decreasing_by
  · exact sizeOf_kid k.2
  · exact sizeOf_desc k.2
end V
def sumOf {α : Type} (f : α → Nat) : List α → Nat
  | [] => 0
  | a :: l => f a + sumOf f l
theorem sumOf_append {α : Type} (f : α → Nat) (l r : List α) : sumOf f (l ++ r) = sumOf f l + sumOf f r := by
  induction l with
  | nil => simp [sumOf]
  | cons a l ih => simp [sumOf, ih]; omega
theorem sumOf_le {α : Type} (f g : α → Nat) (l : List α) (h : ∀ a ∈ l, f a ≤ g a) : sumOf f l ≤ sumOf g l := by
  induction l with
  | nil => simp [sumOf]
  | cons a l ih =>
    have h1 := h a (by simp)
    have h2 := ih (fun b hb => h b (by simp [hb]))
    simp [sumOf]; omega
theorem sumOf_mem {α : Type} (f : α → Nat) (l : List α) (a : α) (h : a ∈ l) : f a ≤ sumOf f l := by
  induction l with
  | nil => cases h
  | cons b l ih =>
    simp only [sumOf]
    cases List.mem_cons.1 h with
    | inl e => subst e; omega
    | inr e => have := ih e; omega
theorem sumOf_mul {α : Type} (f : α → Nat) (c : Nat) (l : List α) : sumOf (fun a => f a * c) l = sumOf f l * c := by
  induction l with
  | nil => simp [sumOf]
  | cons a l ih => simp [sumOf, ih, Nat.add_mul]
theorem sum_attach {α : Type} (f : α → Nat) (l : List α) : (l.attach.map fun k => f k.1).sum = sumOf f l := by
  have h : (l.attach.map fun k => f k.1) = l.map f := by simp
  rw [h]
  induction l with
  | nil => rfl
  | cons a l ih => simp [sumOf, ih]
theorem V.count_eq (v : V) : v.count = 1 + sumOf V.count v.kids + sumOf V.count v.desc := by
  rw [V.count]; simp only [sum_attach]
end Go.Proofs.YtapfahngeaojkaaGreatDoor
