/- PLAIN DATA: which values are asked ('Fits', 'Say'), how they are read ('asRead'), and when two are the same ('Same', 'Loosely'). -/
import Derived.Test.YtbckofjoancdjaaGreatDoorK1
namespace Go.Proofs.YtbckofjoancdjaaGreatDoor
inductive Same : V → V → Prop
  | mk {a b : V} : a.kind = b.kind → a.num = b.num → a.text = b.text → a.kids.length = b.kids.length → a.desc.length = b.desc.length →
      (∀ (i : Nat) (x y : V), a.kids[i]? = some x → b.kids[i]? = some y → Same x y) → (∀ (x y : V), a.desc[0]? = some x → b.desc[0]? = some y → Same x y) → Same a b
theorem Same.refl (v : V) : Same v v := by
  have H : ∀ n, ∀ v : V, sizeOf v ≤ n → Same v v := by
    intro n
    induction n using Nat.strongRecOn with
    | _ n ih =>
      intro v hv
      refine .mk rfl rfl rfl rfl rfl (fun i x y hx hy => ?_) (fun x y hx hy => ?_)
      · rw [hx] at hy
        obtain rfl := Option.some.inj hy
        have := V.sizeOf_kid (List.mem_of_getElem? hx)
        exact ih (sizeOf x) (by omega) x (Nat.le_refl _)
      · rw [hx] at hy
        obtain rfl := Option.some.inj hy
        have := V.sizeOf_desc (List.mem_of_getElem? hx)
        exact ih (sizeOf x) (by omega) x (Nat.le_refl _)
  exact H _ v (Nat.le_refl _)
inductive Loosely : V → V → Prop
  | leaf {a b : V} : a.kind ≠ 21 → a.kind ≠ 22 → Same a b → Loosely a b
  | list {a b : V} : a.kind = 21 → b.kind = 21 → a.kids.length = b.kids.length → a.desc = [] → b.desc = [] → (∀ (i : Nat) (x y : V), a.kids[i]? = some x → b.kids[i]? = some y → Loosely x y) → Loosely a b
  | map {a b : V} (j : Nat → Nat) (k x : Nat → V) : a.kind = 22 → b.kind = 22 → a.kids.length = b.kids.length → a.desc = [] → b.desc = [] →
      (∀ (i : Nat) (u : V), a.kids[2 * i]? = some u → 2 * i + 1 < a.kids.length → b.kids[2 * j i]? = some (k i) ∧ b.kids[2 * j i + 1]? = some (x i) ∧ Same u (k i)) →
      (∀ (i : Nat) (u : V), a.kids[2 * i + 1]? = some u → Loosely u (x i)) → Loosely a b
def asRead (v : V) : V :=
  .mk (if v.kind = 20 then 19 else v.kind) v.num v.text (if v.kind = 23 then v.kids else v.kids.attach.map fun k => asRead k.1) v.of_ v.desc
termination_by sizeOf v
decreasing_by exact V.sizeOf_kid k.2
theorem asRead_eq (v : V) : asRead v = .mk (if v.kind = 20 then 19 else v.kind) v.num v.text (if v.kind = 23 then v.kids else v.kids.map asRead) v.of_ v.desc := by
  rw [asRead]; congr 1; split <;> simp
def keyKind (k : Int) : Prop := (1 ≤ k ∧ k ≤ 9) ∨ k = 16 ∨ k = 17 ∨ k = 19 ∨ k = 20
def arrayKind (k : Int) : Prop := (1 ≤ k ∧ k ≤ 11) ∨ (16 ≤ k ∧ k ≤ 20)
end Go.Proofs.YtbckofjoancdjaaGreatDoor
