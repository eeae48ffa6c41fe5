/- A composite value that was written is read. What the readers of performatives share. Fields of composites as plain data: what they are written as, that they lie so. -/
import Derived.Test.YtbckofjoancdjaaGreatDoorK27
import Derived.LoopTactic
import Derived.IntWalk
import Derived.Outline
import Derived.RegionTactic
import Derived.Deep.DeepCutAuto
import Derived.Deep.RegionHeld3
import Derived.Test.YtbckofjoancdjaaGreatDoorK24
namespace Go.Proofs.YtbckofjoancdjaaGreatDoor
open Go Go.RowKit Go.Lib
theorem Enc.pos_len {v : V} {p : List UInt8} (h : Enc v p) : 0 < p.length := by cases h <;> simp
theorem EncL.split {K : List V} {d : List UInt8} (h : EncL K d) : ∃ ps : List (List UInt8), ps.length = K.length ∧ ps.flatten = d ∧ K.length ≤ d.length ∧ ∀ (k : Nat) (v : V) (p : List UInt8), K[k]? = some v → ps[k]? = some p → Enc v p := by
  induction K generalizing d with
  | nil => cases h; exact ⟨[], rfl, rfl, Nat.le_refl _, fun k v p hk => by simp at hk⟩
  | cons a K ih =>
    cases h with
    | cons h1 h2 =>
      rename_i p q
      obtain ⟨ps, hl, hf, hc, hk⟩ := ih h2
      have hp := h1.pos_len
      refine ⟨p :: ps, by simp [hl], by simp [hf], by simp only [List.length_cons, List.length_append]; omega, fun k v b hv hb => ?_⟩
      cases k with
      | zero => simp at hv hb; rw [← hv, ← hb]; exact h1
      | succ k => simp at hv hb; exact hk k v b hv hb
theorem Comp_ok (w0 w : World) (r : Nat) (s : Value) (D : List UInt8) (i0 i : Nat) (T n : Nat) (code : UInt8) (v : V) (c : Nat) (q : List UInt8) (F : List (Value × Value)) (g : Nat) (t : TypeId) (cs : Array Value)
    (h0 : Buf w0 r s D i0) (h : At_ w0 w r s D i) (hT0 : w0.heap.size ≤ T) (hT : TAt T n w) (hg0 : w0.heap.size ≤ g) (hgT : g ≠ T) (hg : Blk w g t cs)
    (hk : v.kind = 21) (hf : Form v c q) (hl : Lies D i (0 :: 83 :: code :: UInt8.ofNat c :: q)) (hm : F.length ≤ 100) (hD : D.length ≤ 1000000000) (hF0 : 0 < F.length) (hKF : v.kids.length = F.length)
    (hc : ∀ (k : Nat) (x y : Value), F[k]? = some (x, y) → cs[k * 2]? = some x ∧ cs[k * 2 + 1]? = some y ∧ (∃ a b, x = .iface a b) ∧ (y = .nilFunc ∨ ∃ a b d, y = .func a b d))
    (hF : ∀ (k : Nat) (x y : Value) (u : V), F[k]? = some (x, y) → v.kids[k]? = some u → FieldV w0 r s T n x y u) :
    Calls Tryz.prog 62 #[.pointer (some ⟨r, 0, none⟩), .int .u8 code.toNat, .slice (some ⟨g, 0, none⟩) F.length F.length] w (Gives fun e w' => e = .nilIface ∧ (∃ j, At_ w0 w' r s D j) ∧ TAt T n w' ∧ Kept (Or2 r T) w w') := by
  have hlt := h0.lt
  have key : ∀ (b : Nat) (d : List UInt8), EncL v.kids d → Lies D b d →
      (∀ W, Buf W r s D (i + 3) → Calls Tryz.prog 101 #[.pointer (some ⟨r, 0, none⟩)] W fun e W' => e = .returned (.tuple #[.int .i64 F.length, .nilIface]) ∧ At_ W W' r s D b) →
      Calls Tryz.prog 62 #[.pointer (some ⟨r, 0, none⟩), .int .u8 code.toNat, .slice (some ⟨g, 0, none⟩) F.length F.length] w (Gives fun e w' => e = .nilIface ∧ (∃ j, At_ w0 w' r s D j) ∧ TAt T n w' ∧ Kept (Or2 r T) w w') := by
    intro b d he hb hH
    obtain ⟨ps, hps, rfl, _, hek⟩ := he.split
    refine (UnmComp_ok r s D i w0 w T n code F g t cs (fun k => b + (ps.take k).flatten.length) h hT (by omega) hg (by omega) hgT hm hc (fun W hW => readComp_ok r s D i W code _ _ hW (hl 0 _ rfl) (hl 1 _ rfl) (hl 2 _ rfl) hH) ?_).mono ?_
    · intro k x y hxy
      have hkF := (List.getElem?_eq_some_iff.1 hxy).1
      have hu : v.kids[k]? = some (v.kids[k]'(by omega)) := List.getElem?_eq_getElem _
      have hp : ps[k]? = some (ps[k]'(by omega)) := List.getElem?_eq_getElem _
      have hsp : ps.flatten = (ps.take k).flatten ++ ((ps[k]'(by omega)) ++ (ps.drop (k + 1)).flatten) := by
        rw [← List.flatten_cons, ← List.drop_eq_getElem_cons (by omega), ← List.flatten_append, List.take_append_drop]
      have hlk : Lies D (b + (ps.take k).flatten.length) (ps[k]'(by omega)) := by
        rw [hsp] at hb
        exact hb.right.left
      have := hF k x y _ hxy hu D i0 _ _ h0 hT0 (hek k _ _ hu hp) hlk
      have e : b + (ps.take (k + 1)).flatten.length = b + (ps.take k).flatten.length + (ps[k]'(by omega)).length := by
        rw [List.take_add_one, hp, List.flatten_append, List.length_append]; simp only [Option.toList_some, List.flatten_cons, List.flatten_nil, List.append_nil]; omega
      rw [e]; exact this
    · rintro e w' ⟨x, rfl, rfl, h1, h2, h3⟩
      exact ⟨_, rfl, rfl, ⟨_, h1⟩, h2, h3⟩
  have hle := h.buf.le
  have hsm := h.buf.small
  have hend := hl.len hle
  cases hf <;> first
    | (exfalso; omega)
    | (exfalso; simp only [numKind] at *; omega)
    | skip
  · rename_i hk0 hkk; rw [hkk] at hKF; simp at hKF; omega
  · rename_i d hn hs he hor
    have hcc := he.split
    obtain ⟨_, _, _, hcnt, _⟩ := hcc
    rw [hk] at hl hend
    have hb : Lies D (i + 6) d := hl.tail.tail.tail.tail.right
    simp only [List.length_cons, List.length_append, be_length] at hend
    refine key (i + 6) d he hb (fun W hW => ?_)
    have e1 : (UInt8.ofNat ((d.length + 1) / 256 ^ 0 % 256)).toNat = d.length + 1 := by simp; omega
    have e2 : (UInt8.ofNat (v.kids.length / 256 ^ 0 % 256)).toNat = F.length := by simp; omega
    refine (readListHeader_1 r s D (i + 3) W _ _ hW (hl 3 _ rfl) (hl 4 _ rfl) (hl 5 _ rfl) (by rw [e1]; omega) (by rw [e1, e2]; omega)).mono ?_
    rintro e w' ⟨rfl, hA⟩
    exact ⟨by rw [e2], hA⟩
  · rename_i d hor he
    have hcc := he.split
    obtain ⟨_, _, _, hcnt, _⟩ := hcc
    rw [hk] at hl hend
    have hb : Lies D (i + 12) d := hl.tail.tail.tail.tail.right
    simp only [List.length_cons, List.length_append, be_length] at hend
    refine key (i + 12) d he hb (fun W hW => ?_)
    have e1 : Lib.beNat [UInt8.ofNat ((d.length + 4) / 256 ^ 3 % 256), UInt8.ofNat ((d.length + 4) / 256 ^ 2 % 256), UInt8.ofNat ((d.length + 4) / 256 ^ 1 % 256), UInt8.ofNat ((d.length + 4) / 256 ^ 0 % 256)] = d.length + 4 := (beNat_be 4 (d.length + 4)).trans (Nat.mod_eq_of_lt (by omega))
    have e2 : Lib.beNat [UInt8.ofNat (v.kids.length / 256 ^ 3 % 256), UInt8.ofNat (v.kids.length / 256 ^ 2 % 256), UInt8.ofNat (v.kids.length / 256 ^ 1 % 256), UInt8.ofNat (v.kids.length / 256 ^ 0 % 256)] = v.kids.length := (beNat_be 4 v.kids.length).trans (Nat.mod_eq_of_lt (by omega))
    refine (readListHeader_4 r s D (i + 3) W (UInt8.ofNat ((d.length + 4) / 256 ^ 3 % 256)) (UInt8.ofNat ((d.length + 4) / 256 ^ 2 % 256)) (UInt8.ofNat ((d.length + 4) / 256 ^ 1 % 256)) (UInt8.ofNat ((d.length + 4) / 256 ^ 0 % 256)) (UInt8.ofNat (v.kids.length / 256 ^ 3 % 256)) (UInt8.ofNat (v.kids.length / 256 ^ 2 % 256)) (UInt8.ofNat (v.kids.length / 256 ^ 1 % 256)) (UInt8.ofNat (v.kids.length / 256 ^ 0 % 256)) hW (hl 3 _ rfl) ⟨hl 4 _ rfl, hl 5 _ rfl, hl 6 _ rfl, hl 7 _ rfl, hl 8 _ rfl, hl 9 _ rfl, hl 10 _ rfl, hl 11 _ rfl⟩ (by rw [e1]; omega) (by rw [e1, e2]; omega) (by rw [e2]; omega)).mono ?_
    rintro e w' ⟨rfl, hA⟩
    exact ⟨by rw [e2, hKF], hA⟩
end Go.Proofs.YtbckofjoancdjaaGreatDoor
namespace Go.Proofs.YtbckofjoancdjaaGreatDoor
open Go Go.RowKit Go.Lib
def FVs (w0 : World) (r : Nat) (s : Value) (T n : Nat) : List (Value × Value) → List V → Prop
  | [], [] => True
  | p :: F, v :: K => FieldV w0 r s T n p.1 p.2 v ∧ FVs w0 r s T n F K
  | _, _ => False
theorem FVs.at_ {w0 : World} {r : Nat} {s : Value} {T n : Nat} : ∀ {F : List (Value × Value)} {K : List V}, FVs w0 r s T n F K → F.length = K.length ∧ ∀ (k : Nat) (x y : Value) (u : V), F[k]? = some (x, y) → K[k]? = some u → FieldV w0 r s T n x y u
  | [], [], _ => ⟨rfl, fun k x y u h => by simp at h⟩
  | p :: F, v :: K, h => by
    obtain ⟨h1, h2⟩ := FVs.at_ h.2
    refine ⟨by simp [h1], fun k x y u hp hu => ?_⟩
    cases k with
    | zero => simp at hp hu; rw [← hu]; have := h.1; rw [hp] at this; exact this
    | succ k => simp at hp hu; exact h2 k x y u hp hu
  | [], _ :: _, h => h.elim
  | _ :: _, [], h => h.elim
def flat : List (Value × Value) → List Value
  | [] => []
  | p :: F => p.1 :: p.2 :: flat F
theorem flat_at : ∀ (F : List (Value × Value)) (k : Nat) (x y : Value), F[k]? = some (x, y) → (flat F)[k * 2]? = some x ∧ (flat F)[k * 2 + 1]? = some y
  | [], k, x, y, h => by simp at h
  | p :: F, 0, x, y, h => by simp at h; subst h; exact ⟨rfl, rfl⟩
  | p :: F, k + 1, x, y, h => by
    simp at h
    have := flat_at F k x y h
    rw [show (k + 1) * 2 = k * 2 + 1 + 1 by omega]
    simpa [flat] using this
def FieldX (p : Value × Value) : Prop := (∃ a b, p.1 = .iface a b) ∧ (p.2 = .nilFunc ∨ ∃ a b d, p.2 = .func a b d)
def FXs : List (Value × Value) → Prop
  | [] => True
  | p :: F => FieldX p ∧ FXs F
theorem FXs.mem : ∀ {F : List (Value × Value)}, FXs F → ∀ p ∈ F, FieldX p
  | _ :: _, h, p, hp => by rcases List.mem_cons.1 hp with rfl | hp; exact h.1; exact h.2.mem p hp
structure Task (w0 : World) (r : Nat) (s : Value) (D : List UInt8) (i0 i : Nat) (code : UInt8) (v : V) (K : List V) : Prop where
  buf : Buf w0 r s D i0
  kind : v.kind = 21
  lies : ∃ c q, Form v c q ∧ Lies D i (0 :: 83 :: code :: UInt8.ofNat c :: q)
  size : D.length ≤ 1000000000
  kids : v.kids = K
theorem Task.run {w0 : World} {r : Nat} {s : Value} {D : List UInt8} {i0 i : Nat} {code : UInt8} {v : V} {K : List V} (h : Task w0 r s D i0 i code v K) (w : World) (T n : Nat) (F : List (Value × Value)) (cd : Int) (m g : Nat) (t : TypeId) (cs : Array Value)
    (hA : At_ w0 w r s D i) (hT0 : w0.heap.size ≤ T) (hT : TAt T n w) (hg0 : w0.heap.size ≤ g) (hgT : g ≠ T) (hg : Blk w g t cs) (hcs : cs = (flat F).toArray) (hcd : cd = code.toNat) (hm : m = F.length) (hm1 : 0 < m) (hm2 : m ≤ 100)
    (hX : FXs F) (hV : FVs w0 r s T n F K) :
    Calls Tryz.prog 62 #[.pointer (some ⟨r, 0, none⟩), .int .u8 cd, .slice (some ⟨g, 0, none⟩) m m] w (Gives fun e w' => e = .nilIface ∧ (∃ j, At_ w0 w' r s D j) ∧ TAt T n w' ∧ Kept (Or2 r T) w w') := by
  obtain ⟨c, q, hf, hl⟩ := h.lies
  obtain ⟨h1, h2⟩ := hV.at_
  have hk := h.kids
  subst hcd hm hcs
  rw [← hk] at h1 h2
  exact Comp_ok w0 w r s D i0 i T n code v c q F g t _ h.buf hA hT0 hT hg0 hgT hg h.kind hf hl hm2 h.size hm1 h1.symm
    (fun k x y hp => by have := flat_at F k x y hp; have hx := hX.mem _ (List.mem_of_getElem? hp); exact ⟨by simpa using this.1, by simpa using this.2, hx.1, hx.2⟩) h2
abbrev nulV : V := .mk 0 0 ⟨#[]⟩ [] 0 []
abbrev numV (k n : Int) : V := .mk k n ⟨#[]⟩ [] 0 []
abbrev txtV (k : Int) : V := .mk k 0 ⟨#[97]⟩ [] 0 []
def PfPost (w0 : World) (r : Nat) (s : Value) (D : List UInt8) (T n : Nat) (w : World) : Ending → World → Prop := Gives fun e w' => e = .nilIface ∧ (∃ j, At_ w0 w' r s D j) ∧ TAt T n w' ∧ Kept (Or2 r T) w w'
theorem New_u16 (w : World) (p : Addr) : Calls Tryz.prog 66 #[.pointer (some p)] w fun e w' => (∃ a b, e = .returned (.iface a b)) ∧ w = w' := by
  go_enter Tryz.func66, Tryz.ntmps66
  go_wp2
  go_ret
  exact ⟨⟨_, _, rfl⟩, rfl⟩
theorem New_snd (w : World) (p : Addr) : Calls Tryz.prog 74 #[.pointer (some p)] w fun e w' => (∃ a b, e = .returned (.iface a b)) ∧ w = w' := by
  go_enter Tryz.func74, Tryz.ntmps74
  go_wp2
  go_ret
  exact ⟨⟨_, _, rfl⟩, rfl⟩
theorem New_rcv (w : World) (p : Addr) : Calls Tryz.prog 75 #[.pointer (some p)] w fun e w' => (∃ a b, e = .returned (.iface a b)) ∧ w = w' := by
  go_enter Tryz.func75, Tryz.ntmps75
  go_wp2
  go_ret
  exact ⟨⟨_, _, rfl⟩, rfl⟩
theorem New_src (w : World) (p : Addr) : Calls Tryz.prog 76 #[.pointer (some p)] w fun e w' => (∃ a b, e = .returned (.iface a b)) ∧ w = w' := by
  go_enter Tryz.func76, Tryz.ntmps76
  go_wp2
  go_ret
  exact ⟨⟨_, _, rfl⟩, rfl⟩
theorem New_tgt (w : World) (p : Addr) : Calls Tryz.prog 77 #[.pointer (some p)] w fun e w' => (∃ a b, e = .returned (.iface a b)) ∧ w = w' := by
  go_enter Tryz.func77, Tryz.ntmps77
  go_wp2
  go_ret
  exact ⟨⟨_, _, rfl⟩, rfl⟩
theorem New_err (w : World) (p : Addr) : Calls Tryz.prog 85 #[.pointer (some p)] w fun e w' => (∃ a b, e = .returned (.iface a b)) ∧ w = w' := by
  go_enter Tryz.func85, Tryz.ntmps85
  go_wp2
  go_ret
  exact ⟨⟨_, _, rfl⟩, rfl⟩
section
variable (w0 w : World) (r : Nat) (s : Value) (D : List UInt8) (i0 i : Nat) (v : V) (T n : Nat)
set_option maxRecDepth 100000 in
set_option maxHeartbeats 1600000 in
theorem un_End (h : Task w0 r s D i0 i 23 v [nulV]) (hA : At_ w0 w r s D i) (hT0 : w0.heap.size ≤ T) (hT : TAt T n w) :
    Calls Tryz.prog 54 #[.pointer (some ⟨T, 0, none⟩), .pointer (some ⟨r, 0, none⟩)] w (PfPost w0 r s D T n w) := by
  have H := Lib.hid (And.intro h (And.intro hA (And.intro hT0 hT)))
  clear h hA hT0 hT
  go_enter Tryz.func54, Tryz.ntmps54
  go_wp2_with (first | (go_at_call 85; go_must (refine (New_err _ _).mono ?_; rintro e w1 ⟨⟨a1, b1, rfl⟩, rfl⟩)) | (go_at_call 62; go_must (refine (H.out.1.run _ T n [(_, _)] _ _ _ _ _ (H.out.2.1.nope ((Kept.refl _ _).alloc _)) H.out.2.2.1 (H.out.2.2.2.keep ((Kept.refl Nope _).alloc _) (fun h => h)) H.out.2.1.kept.size (Nat.ne_of_gt H.out.2.2.2.lt) (Blk.new _ _ _) rfl rfl rfl (by simp) (by simp) ⟨⟨⟨_, _, rfl⟩, .inl rfl⟩, trivial⟩ ⟨fv_null rfl rfl, trivial⟩).mono ?_; rintro e w3 ⟨_, rfl, rfl, hj, ht, hk⟩; have H3 := Lib.hid (And.intro hj (And.intro ht hk)); clear hj ht hk)))
  go_ret
  exact ⟨_, rfl, rfl, H3.out.1, H3.out.2.1, ((Kept.refl _ _).alloc _).trans' H3.out.2.2⟩
end
end Go.Proofs.YtbckofjoancdjaaGreatDoor
namespace Go.Proofs.YtbckofjoancdjaaGreatDoor
open Go Go.RowKit Go.Lib
structure SF where
  k : Int
  n : Int
  t : ByteArray
  k' : Int
  n' : Int
namespace SF
def cells (s : SF) : List Value := [.int .i64 s.k, .int .u64 s.n, .string s.t, .slice none 0 0, .int .i64 0, .slice none 0 0, .int .i64 s.k', .int .u64 s.n', .string ⟨#[]⟩, .slice none 0 0, .int .i64 0, .slice none 0 0]
def v (s : SF) : Lay := ⟨.mk s.k s.n s.t [] 0 [], .slice none 0 0, .slice none 0 0⟩
def d (s : SF) : Lay := ⟨.mk s.k' s.n' ⟨#[]⟩ [] 0 [], .slice none 0 0, .slice none 0 0⟩
def pair (s : SF) : Lay × Lay := (s.v, s.d)
def eld (s : SF) : Prop := s.k ≠ 0 ∧ s.k' ≠ 0 ∧ s.k = s.k' ∧ s.n = s.n' ∧ s.t = ⟨#[]⟩
def good (s : SF) : Prop := ((s.k = 0 ∧ s.n = 0 ∧ s.t = ⟨#[]⟩) ∨ (1 ≤ s.k ∧ s.k ≤ 5 ∧ 0 ≤ s.n ∧ (s.n ≤ 1 ∨ s.k = 4 ∧ s.n ≤ 512) ∧ s.t = ⟨#[]⟩) ∨ (18 ≤ s.k ∧ s.k ≤ 20 ∧ s.n = 0 ∧ s.t = ⟨#[97]⟩)) ∧ 0 ≤ s.k' ∧ s.k' ≤ 5 ∧ 0 ≤ s.n' ∧ s.n' ≤ 4294967295
end SF
theorem txt_size : (⟨#[]⟩ : ByteArray).size = 0 ∧ (⟨#[97]⟩ : ByteArray).size = 1 := ⟨rfl, rfl⟩
theorem SF.good_v {s : SF} (h : s.good) (S : Nat → Prop) (w : World) : s.v.Ok S w ∧ s.d.Ok S w := by
  obtain ⟨k, n, t, k', n'⟩ := s
  obtain ⟨h1, h2, h3, h4, h5⟩ := h
  simp only at h1 h2 h3 h4 h5
  have hz : ∀ x : Value, x = .slice none 0 0 → VSl S w x [] := fun x e => e ▸ .nil _ _ (by decide)
  refine ⟨⟨⟨?_, ?_, ?_, ?_⟩, hz _ rfl, hz _ rfl⟩, ⟨⟨?_, ?_, ?_, ?_⟩, hz _ rfl, hz _ rfl⟩⟩
  · show _ ≤ k ∧ k ≤ _; omega
  · show 0 ≤ n ∧ n ≤ _; omega
  · show t.size ≤ maxLen
    rcases h1 with ⟨_, _, rfl⟩ | ⟨_, _, _, _, rfl⟩ | ⟨_, _, _, rfl⟩ <;> decide
  · show _ ≤ (0 : Int) ∧ (0 : Int) ≤ _; omega
  · show _ ≤ k' ∧ k' ≤ _; omega
  · show 0 ≤ n' ∧ n' ≤ _; omega
  · show (⟨#[]⟩ : ByteArray).size ≤ maxLen; decide
  · show _ ≤ (0 : Int) ∧ (0 : Int) ≤ _; omega
def SF.out (s : SF) (p : Bool) : Lay := if p then nulL else s.v
theorem SF.outs {s : SF} (hg : s.good) (w : World) (p : Bool) (hp : p = true ↔ s.eld) : Outs w s.pair (s.out p) := by
  have he : Eld s.pair ↔ s.eld := by
    unfold Eld SF.eld SF.pair SF.v SF.d
    simp only [V.kind_mk]
    rw [same_mk]
    constructor
    · rintro ⟨h1, h2, h3, h4, h5, _⟩; exact ⟨h1, h2, h3, h4, h5⟩
    · rintro ⟨h1, h2, h3, h4, h5⟩; exact ⟨h1, h2, h3, h4, h5, rfl, rfl, fun i x y h => by simp at h, fun x y h => by simp at h⟩
  unfold Outs SF.out
  cases p with
  | true => exact .inl ⟨he.2 (hp.1 rfl), rfl⟩
  | false =>
    refine .inr ⟨fun h => (by have := hp.2 (he.1 h); cases this), ?_⟩
    have hk : s.k ≠ 23 := by rcases hg.1 with ⟨h, _⟩ | ⟨_, h, _⟩ | ⟨_, h, _⟩ <;> omega
    exact .same hk
theorem flatMap_twelve {l : List SF} {k : Nat} {a : SF} (h : l[k]? = some a) (m : Nat) (hm : m < 12) : (l.flatMap SF.cells)[k * 12 + m]? = a.cells[m]? := by
  induction l generalizing k with
  | nil => simp at h
  | cons b l ih =>
    cases k with
    | zero =>
      simp at h
      subst h
      rw [List.flatMap_cons, List.getElem?_append_left (by simp [SF.cells]; omega)]
      simp
    | succ k =>
      rw [List.flatMap_cons, List.getElem?_append_right (by simp [SF.cells]; omega)]
      have : (k + 1) * 12 + m - b.cells.length = k * 12 + m := by simp [SF.cells]; omega
      rw [this]
      exact ih (by simpa using h)
theorem frow_of {w : World} {b : Nat} {t : TypeId} {l : List SF} {cs : List Value} (hb : Blk w b t cs.toArray) (hc : cs = l.flatMap SF.cells) (hg : ∀ s ∈ l, s.good) : FRow w b (l.map SF.pair) := by
  subst hc
  refine ⟨hb.lt, fun k p hp => ?_⟩
  rw [List.getElem?_map] at hp
  obtain ⟨s, hs, rfl⟩ := Option.map_eq_some_iff.1 hp
  have hgs := SF.good_v (hg s (List.mem_of_getElem? hs)) (fun b => b < w.heap.size) w
  refine ⟨fun j u hu => ?_, fun j u hu => ?_, hgs.1, hgs.2⟩
  · have hj : j < 6 := by have := (List.getElem?_eq_some_iff.1 hu).1; simpa [Lay.cells] using this
    rw [hb.cell, List.getElem?_toArray, flatMap_twelve hs j (by omega), ← hu]
    rcases (show j = 0 ∨ j = 1 ∨ j = 2 ∨ j = 3 ∨ j = 4 ∨ j = 5 by omega) with rfl | rfl | rfl | rfl | rfl | rfl <;> rfl
  · have hj : j < 6 := by have := (List.getElem?_eq_some_iff.1 hu).1; simpa [Lay.cells] using this
    rw [hb.cell, List.getElem?_toArray, Nat.add_assoc, flatMap_twelve hs (6 + j) (by omega), ← hu]
    rcases (show j = 0 ∨ j = 1 ∨ j = 2 ∨ j = 3 ∨ j = 4 ∨ j = 5 by omega) with rfl | rfl | rfl | rfl | rfl | rfl <;> rfl
theorem own_nul : Fits nulVal := by
  refine .mk ⟨by decide, by simp, by right; right; rfl, .inr rfl, by simp, by simp, by decide, by simp⟩ ⟨?_, ?_, ?_, ?_, ?_, ?_, ?_, ?_, ?_, ?_, ?_, ?_⟩ (by simp) (by simp)
  all_goals (intro h; simp at h)
theorem a_ascii : ∀ b ∈ bytesOf ⟨#[97]⟩, b.toNat < 128 := fun b hb => by
  have h : b = 97 := by simpa [bytesOf] using hb
  subst h
  decide
theorem SF.fits {s : SF} (h : s.good) : Fits s.v.v := by
  obtain ⟨k, n, t, k', n'⟩ := s
  obtain ⟨h1, _⟩ := h
  simp only at h1
  unfold SF.v
  rcases h1 with ⟨rfl, rfl, rfl⟩ | ⟨ha, hb, hc, hd, rfl⟩ | ⟨ha, hb, rfl, rfl⟩
  · exact own_nul
  · refine .mk ⟨by simp; omega, by simp, by right; right; rfl, .inl (by simp; omega), by simp, by simp, by show (⟨#[]⟩ : ByteArray).size ≤ _; decide, by simp⟩ ⟨?_, ?_, ?_, ?_, ?_, ?_, ?_, ?_, ?_, ?_, ?_, ?_⟩ (by simp) (by simp)
    all_goals (intro h; simp only [V.kind_mk, V.num_mk] at h ⊢; omega)
  · refine .mk ⟨by simp; omega, by simp, by left; simp; omega, .inr rfl, by simp, by simp, by show (⟨#[97]⟩ : ByteArray).size ≤ _; decide, by simp⟩ ⟨?_, ?_, ?_, ?_, ?_, ?_, ?_, ?_, ?_, ?_, ?_, ?_⟩ (by simp) (by simp)
    all_goals first
      | (intro h; simp only [V.kind_mk, V.num_mk] at h ⊢; omega)
      | exact fun _ => valid_ascii _ a_ascii
      | exact fun _ => a_ascii
theorem SF.nums {s : SF} (h : s.good) : Nums s.v.v := by
  obtain ⟨k, n, t, k', n'⟩ := s
  obtain ⟨h1, _⟩ := h
  simp only at h1
  exact .mk ⟨by show 0 ≤ n; omega, by show n ≤ _; omega⟩ (by simp [SF.v]) (by simp [SF.v])
theorem nums_nul : Nums nulVal := .mk ⟨by decide, by decide⟩ (by simp) (by simp)
theorem whole_fits {c : Int} {l : List V} (hl : l.length ≤ 1000) (h : ∀ k ∈ l, Fits k) : Fits (wholeV c l) := by
  have hd : Fits (.mk 5 c ⟨#[]⟩ [] 0 []) := by
    refine .mk ⟨by simp, by simp, by right; right; rfl, .inl (by simp), by simp, by simp, by show (⟨#[]⟩ : ByteArray).size ≤ _; decide, by simp⟩ ⟨?_, ?_, ?_, ?_, ?_, ?_, ?_, ?_, ?_, ?_, ?_, ?_⟩ (by simp) (by simp)
    all_goals (intro h; simp at h)
  refine .mk ⟨by simp [wholeV], by simp [wholeV], by right; right; rfl, .inr rfl, by simp [wholeV], by simpa [wholeV] using hl, by show (⟨#[]⟩ : ByteArray).size ≤ _; decide, by simp [wholeV]⟩ ⟨?_, ?_, ?_, ?_, ?_, ?_, ?_, ?_, ?_, ?_, ?_, ?_⟩ (by simpa [wholeV] using h) (by simpa [wholeV] using hd)
  all_goals (intro h; simp [wholeV] at h)
theorem whole_nums {c : Int} (hc : 0 < c ∧ c < 256) {l : List V} (h : ∀ k ∈ l, Nums k) : Nums (wholeV c l) := by
  have hd : Nums (.mk 5 c ⟨#[]⟩ [] 0 []) := .mk ⟨by show 0 ≤ c; omega, by show c ≤ _; omega⟩ (by simp) (by simp)
  exact .mk ⟨by simp [wholeV], by simp [wholeV]⟩ (by simpa [wholeV] using h) (by simpa [wholeV] using hd)
theorem whole_room {c : Int} {l : List V} (h : ∀ k ∈ l, k.text.size ≤ 1 ∧ k.kids = [] ∧ k.desc = []) (hl : l.length ≤ 1000) : (wholeV c l).room ≤ 30000 := by
  have h1 : ∀ k : V, k.kids = [] → k.desc = [] → k.room = 20 + k.text.size := fun k a b => by rw [V.room_eq, a, b]; simp [sumOf]
  have h2 : ∀ l : List V, (∀ k ∈ l, k.text.size ≤ 1 ∧ k.kids = [] ∧ k.desc = []) → sumOf V.room l ≤ 21 * l.length := by
    intro l
    induction l with
    | nil => intro _; simp [sumOf]
    | cons a l ih =>
      intro h
      have ha := h a (by simp)
      have hb := ih fun k hk => h k (by simp [hk])
      have hc := h1 a ha.2.1 ha.2.2
      simp only [sumOf, List.length_cons]
      omega
  have h3 := h2 l h
  have h4 := h1 (.mk 5 c ⟨#[]⟩ [] 0 []) rfl rfl
  have h5 := (wholeV c l).room_eq
  simp only [wholeV, V.text_mk, V.kids_mk, V.desc_mk, sumOf, txt_size.1] at h4 h5 ⊢
  omega
end Go.Proofs.YtbckofjoancdjaaGreatDoor
