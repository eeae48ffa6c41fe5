/- WORDS FOR MEMORY: a map that is known by its entries ('MapAt'), and a value of type any that stands for a tree ('AnyV'). Package encoding: a list of values of any kind. Package encoding: a list of values of any kind as a value of type any. Interface values: which type they hold; package encoding: what may be a key. -/
import Derived.Test.YtbckofjoancdjaaGreatDoorK11
import Derived.Test.YtbckofjoancdjaaGreatDoorK2
import Derived.Deep.OwnRows
namespace Go.Proofs.YtbckofjoancdjaaGreatDoor
open Go Go.RowKit Go.Lib
def sint (n : Int) : Int := if n < 9223372036854775808 then n else n - 18446744073709551616
def raw (v : V) : Value :=
  if v.kind = 1 then .bool (decide (v.num ≠ 0)) else if v.kind = 2 then .int .u8 v.num else if v.kind = 3 then .int .u16 v.num else if v.kind = 4 then .int .u32 v.num
  else if v.kind = 5 then .int .u64 v.num else if v.kind = 6 then .int .i8 (sint v.num) else if v.kind = 7 then .int .i16 (sint v.num) else if v.kind = 8 then .int .i32 (sint v.num)
  else if v.kind = 9 then .int .i64 (sint v.num) else if v.kind = 10 then .float .f32 v.num.toNat else if v.kind = 11 then .float .f64 v.num.toNat
  else if v.kind = 16 then tm (sint v.num) else if v.kind = 17 then uid (bytesOf v.text) else .string v.text
def rtype (k : Int) : TypeId :=
  if k = 1 then 4 else if k = 2 then 5 else if k = 3 then 38 else if k = 4 then 37 else if k = 5 then 27 else if k = 6 then 260 else if k = 7 then 264 else if k = 8 then 21
  else if k = 9 then 2 else if k = 10 then 279 else if k = 11 then 283 else if k = 16 then 295 else if k = 17 then 406 else 9
def atype (k : Int) : TypeId :=
  if k = 1 then 389 else if k = 2 then 421 else if k = 3 then 44 else if k = 4 then 54 else if k = 5 then 380 else if k = 6 then 371 else if k = 7 then 375 else if k = 8 then 378
  else if k = 9 then 383 else if k = 10 then 385 else if k = 11 then 387 else if k = 16 then 395 else if k = 17 then 403 else 39
def esize (k : Int) : Nat := if k = 16 then 2 else if k = 17 then 16 else 1
def scalKind (k : Int) : Prop := (1 ≤ k ∧ k ≤ 11) ∨ k = 16 ∨ k = 17 ∨ k = 19
def MapAt (w : World) (b : Nat) (es : List (Value × Value)) : Prop :=
  ∃ arr clock, w.heap[b]? = some (.map arr clock) ∧ arr.toList.map (fun e => (e.key, e.val)) = es ∧ (∀ x ∈ arr.toList, x.born < clock) ∧ (arr.toList.map (·.born)).Nodup
namespace MapAt
variable {M : Nat → Prop} {w w' : World} {b : Nat} {es : List (Value × Value)}
theorem lt (h : MapAt w b es) : b < w.heap.size := by obtain ⟨_, _, h, _⟩ := h; exact block_lt h
theorem keep (h : MapAt w b es) (hk : Kept M w w') (hb : ¬ M b) : MapAt w' b es := by
  obtain ⟨arr, clock, h, h2⟩ := h
  exact ⟨arr, clock, hk.obj h hb, h2⟩
theorem new (w : World) : MapAt (w.alloc (.map #[] 0)) w.heap.size [] := ⟨#[], 0, heap_alloc_new w _, rfl, by simp, by simp⟩
end MapAt
inductive AnyV (S : Nat → Prop) (w : World) : Value → V → Prop
  | null {v : V} : v.kind = 0 → AnyV S w .nilIface v
  | scal {v : V} : scalKind v.kind → AnyV S w (.iface (rtype v.kind) (raw v)) v
  | bin {v : V} {s : Value} : v.kind = 18 → BSl S w s (bytesOf v.text) → AnyV S w (.iface 26 s) v
  | list {v : V} {s : Value} {xs : List Value} : v.kind = 21 → CSl S w 1 s v.kids.length xs → (∀ (i : Nat) (x : Value) (k : V), xs[i]? = some x → v.kids[i]? = some k → AnyV S w x k) → AnyV S w (.iface 407 s) v
  | map {v : V} {b : Nat} {es : List (Value × Value)} (j l : Nat → Nat) : v.kind = 22 → S b → MapAt w b es → es.length * 2 = v.kids.length → (∀ i, i < es.length → j i < es.length) → (∀ p, p < es.length → l p < es.length ∧ j (l p) = p) →
      (∀ (i : Nat) (e : Value × Value) (k : V), es[i]? = some e → v.kids[2 * j i]? = some k → AnyV S w e.1 k) → (∀ (i : Nat) (e : Value × Value) (k : V), es[i]? = some e → v.kids[2 * j i + 1]? = some k → AnyV S w e.2 k) → AnyV S w (.iface 343 (.map (some b))) v
  | mapS {v : V} {b : Nat} {es : List (Value × Value)} (j l : Nat → Nat) : v.kind = 22 → S b → MapAt w b es → es.length * 2 = v.kids.length → (∀ i, i < es.length → j i < es.length) → (∀ p, p < es.length → l p < es.length ∧ j (l p) = p) →
      (∀ (i : Nat) (e : Value × Value) (k : V), es[i]? = some e → v.kids[2 * j i]? = some k → k.kind = 19 ∧ e.1 = .string k.text) → (∀ (i : Nat) (e : Value × Value) (k : V), es[i]? = some e → v.kids[2 * j i + 1]? = some k → AnyV S w e.2 k) → AnyV S w (.iface 221 (.map (some b))) v
  | arr {v k0 : V} {s : Value} : v.kind = 23 → v.kids[0]? = some k0 → scalKind k0.kind → CSl S w (esize k0.kind) s v.kids.length (v.kids.flatMap fun k => (raw k).cells.toList) → AnyV S w (.iface (atype k0.kind) s) v
  | arrB {v k0 : V} {s : Value} {xs : List Value} : v.kind = 23 → v.kids[0]? = some k0 → k0.kind = 18 → CSl S w 1 s v.kids.length xs → (∀ (i : Nat) (x : Value) (k : V), xs[i]? = some x → v.kids[i]? = some k → BSl S w x (bytesOf k.text)) → AnyV S w (.iface 393 s) v
theorem CSl.keep {S M : Nat → Prop} {w w' : World} {size n : Nat} {s : Value} {xs : List Value} (h : CSl S w size s n xs) (hk : Kept M w w') (hS : ∀ b, b < w.heap.size → S b → ¬ M b) : CSl S w' size s n xs := by
  obtain ⟨hl, a, cap, rfl, hc, hm, h⟩ := h
  refine ⟨hl, a, cap, rfl, hc, hm, ?_⟩
  rcases h with rfl | ⟨b, off, rfl, hb, h⟩
  · exact .inl rfl
  · exact .inr ⟨b, off, rfl, hb, fun j x hx => hk.cell (h j x hx) (hS b (World.block_lt_of_cell? w _ (h j x hx)) hb)⟩
theorem CSl.mono {S S' : Nat → Prop} {w : World} {size n : Nat} {s : Value} {xs : List Value} (h : CSl S w size s n xs) (hS : ∀ b, S b → S' b) : CSl S' w size s n xs := by
  obtain ⟨hl, a, cap, rfl, hc, hm, h⟩ := h
  refine ⟨hl, a, cap, rfl, hc, hm, ?_⟩
  rcases h with rfl | ⟨b, off, rfl, hb, h⟩
  · exact .inl rfl
  · exact .inr ⟨b, off, rfl, hS b hb, h⟩
namespace AnyV
theorem form {S : Nat → Prop} {w : World} {x : Value} {v : V} (h : AnyV S w x v) : x = .nilIface ∨ ∃ T y, x = .iface T y := by
  cases h <;> first | exact .inl rfl | exact .inr ⟨_, _, rfl⟩
variable {S S' M : Nat → Prop} {w w' : World} {x : Value} {v : V}
theorem keep (h : AnyV S w x v) (hk : Kept M w w') (hS : ∀ b, b < w.heap.size → S b → ¬ M b) : AnyV S w' x v := by
  induction h with
  | null h => exact .null h
  | scal h => exact .scal h
  | bin h hb => exact .bin h (hb.keep hk hS)
  | list h hs _ ih => exact .list h (hs.keep hk hS) ih
  | map j l h hb hm h1 h2 h3 _ _ ih1 ih2 => exact .map j l h hb (hm.keep hk (hS _ hm.lt hb)) h1 h2 h3 ih1 ih2
  | mapS j l h hb hm h1 h2 h3 h4 _ ih => exact .mapS j l h hb (hm.keep hk (hS _ hm.lt hb)) h1 h2 h3 h4 ih
  | arr h h0 h1 hs => exact .arr h h0 h1 (hs.keep hk hS)
  | arrB h h0 h1 hs h2 => exact .arrB h h0 h1 (hs.keep hk hS) fun i x k hx hk' => (h2 i x k hx hk').keep hk hS
theorem mono (h : AnyV S w x v) (hS : ∀ b, S b → S' b) : AnyV S' w x v := by
  induction h with
  | null h => exact .null h
  | scal h => exact .scal h
  | bin h hb => exact .bin h (hb.mono fun b _ => hS b)
  | list h hs _ ih => exact .list h (hs.mono hS) ih
  | map j l h hb hm h1 h2 h3 _ _ ih1 ih2 => exact .map j l h (hS _ hb) hm h1 h2 h3 ih1 ih2
  | mapS j l h hb hm h1 h2 h3 h4 _ ih => exact .mapS j l h (hS _ hb) hm h1 h2 h3 h4 ih
  | arr h h0 h1 hs => exact .arr h h0 h1 (hs.mono hS)
  | arrB h h0 h1 hs h2 => exact .arrB h h0 h1 (hs.mono hS) fun i x k hx hk' => (h2 i x k hx hk').mono fun b _ => hS b
end AnyV
end Go.Proofs.YtbckofjoancdjaaGreatDoor
namespace Go.Proofs.YtbckofjoancdjaaGreatDoor
open Go Go.RowKit Go.Lib
def Above (w : World) : Nat → Prop := fun b => w.heap.size ≤ b
def Reads (r : Nat) (s : Value) (D : List UInt8) (l : List V) (pos : Nat → Nat) : Prop :=
  ∀ k v, l[k]? = some v → ∀ W, Buf W r s D (pos k) → Calls Tryz.prog 138 #[.pointer (some ⟨r, 0, none⟩)] W (Gives2 fun x e W' => e = .nilIface ∧ AnyV (Above W) W' x v ∧ At_ W W' r s D (pos (k + 1)))
theorem info_any : (Tryz.prog.info? 20).map (fun i => (i.zero, i.size, i.bytes)) = some (some .nilIface, 1, 16) := by kernel_rfl
theorem size_setCell (w : World) (p : Addr) (u : Value) : (w.setCell p u).heap.size = w.heap.size := by simp [World.setCell]
structure LInv (w0 : World) (r : Nat) (s : Value) (D : List UInt8) (p : Nat) (t : TypeId) (g : Nat) (l : List V) (pos : Nat → Nat) (k : Nat) (w : World) : Prop where
  at_ : At_ w0 w r s D (pos k)
  cell : Blk w p t #[.slice none 0 0]
  big : w0.heap.size ≤ g
  bigp : w0.heap.size ≤ p
  ne : p < g
  row : ∃ cs, Blk w g 20 cs ∧ cs.size = l.length ∧ ∀ (i : Nat) (x : Value) (v : V), i < k → cs[i]? = some x → l[i]? = some v → AnyV (fun b => g < b) w x v
theorem LInv.step {w0 w w1 : World} {r : Nat} {s : Value} {D : List UInt8} {i0 p : Nat} {t : TypeId} {g : Nat} {l : List V} {pos : Nat → Nat} {k : Nat} {x : Value} {v : V}
    (h : LInv w0 r s D p t g l pos k w) (h0 : Buf w0 r s D i0) (hv : l[k]? = some v) (hA : At_ w w1 r s D (pos (k + 1))) (hx : AnyV (Above w) w1 x v) :
    (∃ u, w1.cell? ⟨g, k, none⟩ = some u) ∧ w1.frozen? ⟨g, k, none⟩ = false ∧ LInv w0 r s D p t g l pos (k + 1) (w1.setCell ⟨g, k, none⟩ x) := by
  obtain ⟨cs, hb, hs, hcs⟩ := h.row
  have hgr : g ≠ r := fun e => by have := h0.lt; have := h.big; omega
  have hpr : p ≠ r := fun e => by have := h0.lt; have := h.bigp; omega
  have hb1 := hb.kept hA.kept hgr
  have hk : k < l.length := (List.getElem?_eq_some_iff.1 hv).1
  have hkr : Kept (Only r) w w1 := hA.kept
  have hks : Kept (Only g) w1 (w1.setCell ⟨g, k, none⟩ x) := (Kept.refl _ _).set1 k x
  refine ⟨?_, hb1.frozen k, ⟨(h.at_.trans hA).setNew h0 h.big x, ?_, h.big, h.bigp, h.ne, ?_⟩⟩
  · rw [hb1.cell k]; exact ⟨_, Array.getElem?_eq_getElem (by omega)⟩
  · exact (h.cell.kept hA.kept hpr).kept hks (fun e => absurd (show p = g from e) (Nat.ne_of_lt h.ne))
  · refine ⟨_, hb1.set_ k x, by simpa using hs, fun i y u hi hy hu => ?_⟩
    rcases Nat.lt_or_ge i k with hlt | hge
    · rw [Array.getElem?_setIfInBounds, if_neg (by omega)] at hy
      have := (hcs i y u hlt hy hu).keep hkr (fun b _ hg he => by have h1 : b = r := he; have := h0.lt; have := h.big; have h3 : g < b := hg; omega)
      exact this.keep hks (fun b _ hg he => by have h1 : b = g := he; have h3 : g < b := hg; omega)
    · obtain rfl : i = k := by omega
      rw [Array.getElem?_setIfInBounds, if_pos rfl, if_pos (by omega)] at hy
      cases hy
      rw [hv] at hu
      cases hu
      refine (hx.mono fun b hbb => ?_).keep hks (fun b _ hg he => by have h1 : b = g := he; have h3 : g < b := hg; omega)
      have h2 : w.heap.size ≤ b := hbb
      have := hb.lt
      show g < b
      omega
theorem LInv.start {w0 w : World} {r : Nat} {s : Value} {D : List UInt8} {p : Nat} {t : TypeId} {l : List V} {pos : Nat → Nat}
    (hA : At_ w0 w r s D (pos 0)) (hb : Blk w p t #[.slice none 0 0]) (hp : w0.heap.size ≤ p) : LInv w0 r s D p t w.heap.size l pos 0 (w.alloc (.cells (madeCells #[.nilIface] l.length) 20)) :=
  ⟨hA.nope ((Kept.refl _ _).alloc _), hb.alloc _, hA.kept.size, hp, hb.lt, _, Blk.new _ _ _, by simp [madeCells], fun i x v hi => by omega⟩
def ListPost (w0 : World) (r : Nat) (s : Value) (D : List UInt8) (j p : Nat) (t : TypeId) (l : List V) (w' : World) : Prop :=
  At_ w0 w' r s D j ∧ ∃ v xs, Blk w' p t #[v] ∧ CSl (Above w0) w' 1 v l.length xs ∧ ∀ (i : Nat) (x : Value) (k : V), xs[i]? = some x → l[i]? = some k → AnyV (Above w0) w' x k
theorem LInv.done {w0 w : World} {r : Nat} {s : Value} {D : List UInt8} {i0 p : Nat} {t : TypeId} {g : Nat} {l : List V} {pos : Nat → Nat}
    (h : LInv w0 r s D p t g l pos l.length w) (h0 : Buf w0 r s D i0) (hl : l.length ≤ maxLen) :
    ListPost w0 r s D (pos l.length) p t l (w.setCell ⟨p, 0, none⟩ (.slice (some ⟨g, 0, none⟩) l.length l.length)) := by
  obtain ⟨cs, hb, hs, hcs⟩ := h.row
  have hks : ∀ u, Kept (Only p) w (w.setCell ⟨p, 0, none⟩ u) := fun u => (Kept.refl _ _).set1 0 u
  have hbg := hb.kept (hks (.slice (some ⟨g, 0, none⟩) l.length l.length)) (fun e => absurd (show g = p from e) (Nat.ne_of_gt h.ne))
  refine ⟨h.at_.setNew h0 h.bigp _, _, cs.toList, by simpa using h.cell.set_ 0 (.slice (some ⟨g, 0, none⟩) l.length l.length), ⟨by simpa using hs, some ⟨g, 0, none⟩, l.length, rfl, Nat.le_refl _, hl, .inr ⟨g, 0, rfl, h.big, fun j u hu => ?_⟩⟩, fun i x k hx hk => ?_⟩
  · rw [hbg.cell, Nat.zero_add]; simpa using hu
  · have hi : i < l.length := (List.getElem?_eq_some_iff.1 hk).1
    refine ((hcs i x k hi (by simpa using hx) hk).keep (hks _) (fun b _ hg he => ?_)).mono (fun b hg => ?_)
    · have h1 : b = p := he; have h3 : g < b := hg; have := h.ne; omega
    · have h3 : g < b := hg; have := h.big; show w0.heap.size ≤ b; omega
set_option maxRecDepth 100000 in
set_option maxHeartbeats 800000 in
theorem listUn_some (w0 w : World) (r : Nat) (s : Value) (D : List UInt8) (i0 i p : Nat) (t : TypeId) (l : List V) (pos : Nat → Nat) (h0 : Buf w0 r s D i0) (hA : At_ w0 w r s D i) (hp : w0.heap.size ≤ p) (hc : Blk w p t #[.slice none 0 0])
    (hz : 0 < l.length) (hn : l.length ≤ 65536) (hle : pos 0 + l.length ≤ D.length)
    (hH : ∀ W, Buf W r s D i → Calls Tryz.prog 101 #[.pointer (some ⟨r, 0, none⟩)] W fun e W' => e = .returned (.tuple #[.int .i64 l.length, .nilIface]) ∧ At_ W W' r s D (pos 0)) (hR : Reads r s D l pos) :
    Calls Tryz.prog 133 #[.pointer (some ⟨p, 0, none⟩), .pointer (some ⟨r, 0, none⟩)] w (Gives fun e w' => e = .nilIface ∧ ListPost w0 r s D (pos l.length) p t l w') := by
  obtain ⟨i1, hi, hz0, hz1, hz2⟩ := info_parts info_any
  obtain ⟨n, hnn⟩ : ∃ n, l.length = n := ⟨_, rfl⟩
  have HL := Lib.hid hnn
  have HB := Lib.hid h0
  have HA := Lib.hid (And.intro hA (And.intro hc hp))
  have HH := Lib.hid hH
  have HR := Lib.hid hR
  have hpr : p ≠ r := fun e => by have := h0.lt; omega
  have HP := Lib.hid hpr
  rw [hnn] at hz hn hle
  have hz' : (0 : Int) < (n : Int) := by omega
  have hle' : (n : Int) ≤ (D.length : Int) - (pos 0 : Int) := by omega
  have HLE := Lib.hid hle
  clear h0 hA hp hc hH hR hnn hpr hle
  go_enter Tryz.func133, Tryz.ntmps133
  go_wp2_with (first | (go_at_call 101; go_must (refine (HH.out _ HA.out.1.buf).mono ?_; rw [HL.out]; rintro e w1 ⟨rfl, hA1⟩; have H1 := Lib.hid (HA.out.1.trans hA1); have hB1 := HA.out.2.1.kept hA1.kept HP.out; have H1B := Lib.hid hB1; clear hA1 hB1)) | (go_at_call 45; go_must (refine (Len_any r s D (pos 0) _ H1.out.buf).mono ?_; rintro e w2 ⟨rfl, k2, rfl⟩; have H2 := Lib.hid (H1.out.drewN k2); have H2B := Lib.hid (H1B.out.drewN k2); have c2 : w1.cell? ⟨p, 0, none⟩ = some (.slice none 0 0) := H1B.out.cell 0)) | (at_make; go_must (refine wpList_make_row _ rfl (.tmp 29) (.tmp 29) 407 rfl 20 i1 .nilIface Tryz.underlying407 hi hz0 hz1 rfl .i64 .i64 n rfl rfl (by rw [hz2]; omega) (by omega) ?_)))
  have HI := Lib.hid (LInv.start (l := l) (pos := pos) H2.out H2B.out HA.out.2.2)
  rw [HL.out] at HI
  generalize hW : (w1.drewN k2).alloc (.cells (madeCells #[.nilIface] n) 20) = W at HI ⊢
  change Hid (LInv w0 r s D p t w1.heap.size l pos 0 W) at HI
  obtain ⟨g, hg⟩ : ∃ g, w1.heap.size = g := ⟨_, rfl⟩
  rw [hg] at HI ⊢
  clear hW hg H1 H1B H2 H2B c2
  go_loopw [36] (fun c w' => ∃ k : Nat, k ≤ n ∧ c = .int .i64 k ∧ Hid (LInv w0 r s D p t g l pos k w')) (fun c _ => n - (RowKit.intOf c).toNat)
  case atStart => exact ⟨0, by omega, rfl, HI⟩
  case round =>
    obtain ⟨k, hk, rfl, HI⟩ := hrel
    by_cases hkn : k < n
    · have hkn' : (k : Int) < (n : Int) := by omega
      have hk0 : (0 : Int) ≤ (k : Int) := by omega
      obtain ⟨v, hv⟩ : ∃ v, l[k]? = some v := ⟨l[k]'(by rw [HL.out]; exact hkn), List.getElem?_eq_getElem _⟩
      have HV := Lib.hid hv
      have e1 : IntKind.i64.wrap ((k : Int) + 1) = (k : Int) + 1 := IntWalk.i64_in _ (by omega)
      clear hv
      go_wp2_with ((go_at_call 138; go_must (refine (HR.out k v HV.out _ HI.out.at_.buf).mono ?_; rintro e w3 ⟨x, y, rfl, rfl, hx, hA3⟩; have hst := HI.out.step HB.out HV.out hA3 hx; obtain ⟨⟨u, c3⟩, f3, hI3⟩ := hst; have HI3 := Lib.hid hI3; have hf := hx.form; clear hx hA3 hI3; rcases hf with rfl | ⟨T, z, rfl⟩)))
      all_goals
        go_roundw
        case rel => exact ⟨k + 1, by omega, by go_num, HI3⟩
        case measure => simp [RowKit.intOf]; omega
    · obtain rfl : k = n := by omega
      have c4 := HI.out.cell.cell 0
      have f4 := HI.out.cell.frozen 0
      have hlt : ¬ (k : Int) < (k : Int) := by omega
      have hd := LInv.done (l := l) (pos := pos) (by rw [HL.out]; exact HI.out) HB.out (by rw [HL.out]; unfold maxLen; omega)
      rw [HL.out] at hd
      have HD := Lib.hid hd
      clear hd
      go_wp2_with (fail)
      go_ret
      refine ⟨_, rfl, rfl, ?_⟩
      rw [HL.out]
      exact HD.out
set_option maxRecDepth 100000 in
set_option maxHeartbeats 800000 in
theorem listUn_none (w0 w : World) (r : Nat) (s : Value) (D : List UInt8) (i0 i p : Nat) (t : TypeId) (j : Nat) (h0 : Buf w0 r s D i0) (hA : At_ w0 w r s D i) (hp : w0.heap.size ≤ p) (hc : Blk w p t #[.slice none 0 0])
    (hH : ∀ W, Buf W r s D i → Calls Tryz.prog 101 #[.pointer (some ⟨r, 0, none⟩)] W fun e W' => e = .returned (.tuple #[.int .i64 0, .nilIface]) ∧ At_ W W' r s D j) :
    Calls Tryz.prog 133 #[.pointer (some ⟨p, 0, none⟩), .pointer (some ⟨r, 0, none⟩)] w (Gives fun e w' => e = .nilIface ∧ ListPost w0 r s D j p t [] w') := by
  have HB := Lib.hid h0
  have HA := Lib.hid (And.intro hA (And.intro hc hp))
  have HH := Lib.hid hH
  have hpr : p ≠ r := fun e => by have := h0.lt; omega
  have HP := Lib.hid hpr
  clear h0 hA hp hc hH hpr
  go_enter Tryz.func133, Tryz.ntmps133
  go_wp2_with (first | (go_at_call 101; go_must (refine (HH.out _ HA.out.1.buf).mono ?_; rintro e w1 ⟨rfl, hA1⟩; have hle := hA1.buf.le; have hle' : (0 : Int) ≤ (D.length : Int) - (j : Int) := (by omega); have H1 := Lib.hid (HA.out.1.trans hA1); have hB1 := HA.out.2.1.kept hA1.kept HP.out; have H1B := Lib.hid hB1; clear hA1 hB1 hle)) | (go_at_call 45; go_must (refine (Len_any r s D j _ H1.out.buf).mono ?_; rintro e w2 ⟨rfl, k2, rfl⟩; have H2 := Lib.hid (H1.out.drewN k2); have H2B := Lib.hid (H1B.out.drewN k2); have c2 : w1.cell? ⟨p, 0, none⟩ = some (.slice none 0 0) := H1B.out.cell 0; have f2 : w1.frozen? ⟨p, 0, none⟩ = false := H1B.out.frozen 0)))
  go_loopw [36] (fun c w' => c = .int .i64 0 ∧ w' = w1.drewN k2) (fun _ _ => 0)
  case atStart => exact ⟨rfl, rfl⟩
  case round =>
    obtain ⟨rfl, rfl⟩ := hrel
    go_wp2_with (fail)
    go_ret
    exact ⟨_, rfl, rfl, H2.out.setNew HB.out HA.out.2.2 _, _, [], by simpa using H2B.out.set_ 0 (.slice none 0 0), ⟨by simp, none, 0, rfl, Nat.le_refl _, by unfold maxLen; omega, .inl rfl⟩, by simp⟩
set_option maxRecDepth 100000 in
set_option maxHeartbeats 800000 in
theorem listUn_bad (w0 w : World) (r : Nat) (s : Value) (D : List UInt8) (i p : Nat) (hA : At_ w0 w r s D i)
    (hH : ∀ W, Buf W r s D i → Calls Tryz.prog 101 #[.pointer (some ⟨r, 0, none⟩)] W (Fails W r)) :
    Calls Tryz.prog 133 #[.pointer (some ⟨p, 0, none⟩), .pointer (some ⟨r, 0, none⟩)] w (Gives fun e w' => IsErr e ∧ Kept (Only r) w w') := by
  have HA := Lib.hid hA
  have HH := Lib.hid hH
  clear hA hH
  go_enter Tryz.func133, Tryz.ntmps133
  go_wp2_with (first | (go_at_call 101; go_must (refine (HH.out _ HA.out.buf).mono ?_; rintro e w1 ⟨x, v, rfl, ⟨T, z, rfl⟩, hK⟩; have H1 := Lib.hid hK; clear hK)))
  go_ret
  exact ⟨_, rfl, ⟨_, _, rfl⟩, H1.out⟩
end Go.Proofs.YtbckofjoancdjaaGreatDoor
namespace Go.Proofs.YtbckofjoancdjaaGreatDoor
open Go Go.RowKit Go.Lib
theorem ListPost.toAny {w0 w : World} {r : Nat} {s : Value} {D : List UInt8} {j p : Nat} {t : TypeId} {l : List V} (h : ListPost w0 r s D j p t l w) :
    ∃ u, w.cell? ⟨p, 0, none⟩ = some u ∧ (∃ a n c, u = .slice a n c) ∧ ∀ v : V, v.kind = 21 → v.kids = l → AnyV (Above w0) w (.iface 407 u) v := by
  obtain ⟨_, u, xs, hb, hc, he⟩ := h
  refine ⟨u, by rw [hb.cell 0]; rfl, ?_, fun v hk hl => ?_⟩
  · obtain ⟨_, a, c, rfl, _⟩ := hc
    exact ⟨_, _, _, rfl⟩
  · subst hl
    exact .list hk hc he
set_option maxRecDepth 100000 in
set_option maxHeartbeats 800000 in
theorem readAnyList_ok (w : World) (r : Nat) (s : Value) (D : List UInt8) (i j : Nat) (l : List V) (h : Buf w r s D i)
    (hL : ∀ W p, At_ w W r s D i → w.heap.size ≤ p → Blk W p 407 #[.slice none 0 0] → Calls Tryz.prog 133 #[.pointer (some ⟨p, 0, none⟩), .pointer (some ⟨r, 0, none⟩)] W (Gives fun e w' => e = .nilIface ∧ ListPost w r s D j p 407 l w')) :
    Calls Tryz.prog 162 #[.pointer (some ⟨r, 0, none⟩)] w (Gives2 fun x e w' => e = .nilIface ∧ (∀ v : V, v.kind = 21 → v.kids = l → AnyV (Above w) w' x v) ∧ At_ w w' r s D j) := by
  have H0 := Lib.hid (hL (w.alloc (.cells #[.slice none 0 0] 407)) w.heap.size ((At_.refl h).nope ((Kept.refl _ _).alloc _)) (Nat.le_refl _) (Blk.new _ _ _))
  clear h hL
  go_enter Tryz.func162, Tryz.ntmps162
  go_wp2_with (go_at_call 133; go_must (refine (H0.out).mono ?_; rintro e w1 ⟨_, rfl, rfl, hP⟩; obtain ⟨u, c1, ⟨a, n, c, rfl⟩, hv⟩ := hP.toAny; have H1 := Lib.hid (And.intro hv hP.1); clear hP hv))
  go_ret2
  exact ⟨_, _, rfl, rfl, H1.out.1, H1.out.2⟩
set_option maxRecDepth 100000 in
set_option maxHeartbeats 800000 in
theorem readAnyList_bad (w : World) (r : Nat) (s : Value) (D : List UInt8) (i : Nat) (h : Buf w r s D i)
    (hL : ∀ W p, At_ w W r s D i → Calls Tryz.prog 133 #[.pointer (some ⟨p, 0, none⟩), .pointer (some ⟨r, 0, none⟩)] W (Gives fun e w' => IsErr e ∧ Kept (Only r) W w')) :
    Calls Tryz.prog 162 #[.pointer (some ⟨r, 0, none⟩)] w (Fails w r) := by
  have H0 := Lib.hid (hL (w.alloc (.cells #[.slice none 0 0] 407)) w.heap.size ((At_.refl h).nope ((Kept.refl _ _).alloc _)))
  have hne : ¬ Only r w.heap.size := fun e => by have := h.lt; have e' : w.heap.size = r := e; omega
  have HN := Lib.hid hne
  clear h hL hne
  go_enter Tryz.func162, Tryz.ntmps162
  go_wp2_with (go_at_call 133; go_must (refine (H0.out).mono ?_; rintro e w1 ⟨_, rfl, ⟨T, z, rfl⟩, hK⟩; have c1 : w1.cell? ⟨w.heap.size, 0, none⟩ = some (.slice none 0 0) := ((Blk.new w 407 #[.slice none 0 0]).kept hK HN.out).cell 0; have H1 := Lib.hid (((Kept.refl (Only r) w).alloc (.cells #[.slice none 0 0] 407)).trans' hK); clear hK))
  go_ret2
  exact ⟨_, _, rfl, ⟨_, _, rfl⟩, H1.out⟩
end Go.Proofs.YtbckofjoancdjaaGreatDoor
namespace Go.Proofs.YtbckofjoancdjaaGreatDoor
open Go Go.RowKit Go.Lib
theorem as_yes_bytes (v : Value) (W : World) : (Instr.typeAssert (.iface 26 v) 20 26 true).run Tryz.prog W = .ok (.tuple #[v, .bool true]) W := by kernel_rfl
theorem as_no_bytes {T : TypeId} (v : Value) (W : World) (h : T ≠ 26) : (Instr.typeAssert (.iface T v) 20 26 true).run Tryz.prog W = .ok (.tuple #[.slice none 0 0, .bool false]) W := by
  have e : (Instr.typeAssert (.iface T v) 20 26 true).run Tryz.prog W = (if T = 26 then (pure (Value.tuple #[v, .bool true]) : Sem Value) else (do pure (Value.tuple #[← zeroValue 26, .bool false]))).run Tryz.prog W := by kernel_rfl
  have hz : (do pure (Value.tuple #[← zeroValue 26, .bool false]) : Sem Value).run Tryz.prog W = .ok (.tuple #[.slice none 0 0, .bool false]) W := by kernel_rfl
  rw [e, if_neg h]
  exact hz
theorem as_yes_sAny (v : Value) (W : World) : (Instr.typeAssert (.iface 407 v) 20 407 true).run Tryz.prog W = .ok (.tuple #[v, .bool true]) W := by kernel_rfl
theorem as_no_sAny {T : TypeId} (v : Value) (W : World) (h : T ≠ 407) : (Instr.typeAssert (.iface T v) 20 407 true).run Tryz.prog W = .ok (.tuple #[.slice none 0 0, .bool false]) W := by
  have e : (Instr.typeAssert (.iface T v) 20 407 true).run Tryz.prog W = (if T = 407 then (pure (Value.tuple #[v, .bool true]) : Sem Value) else (do pure (Value.tuple #[← zeroValue 407, .bool false]))).run Tryz.prog W := by kernel_rfl
  have hz : (do pure (Value.tuple #[← zeroValue 407, .bool false]) : Sem Value).run Tryz.prog W = .ok (.tuple #[.slice none 0 0, .bool false]) W := by kernel_rfl
  rw [e, if_neg h]
  exact hz
theorem as_yes_sI8 (v : Value) (W : World) : (Instr.typeAssert (.iface 371 v) 20 371 true).run Tryz.prog W = .ok (.tuple #[v, .bool true]) W := by kernel_rfl
theorem as_no_sI8 {T : TypeId} (v : Value) (W : World) (h : T ≠ 371) : (Instr.typeAssert (.iface T v) 20 371 true).run Tryz.prog W = .ok (.tuple #[.slice none 0 0, .bool false]) W := by
  have e : (Instr.typeAssert (.iface T v) 20 371 true).run Tryz.prog W = (if T = 371 then (pure (Value.tuple #[v, .bool true]) : Sem Value) else (do pure (Value.tuple #[← zeroValue 371, .bool false]))).run Tryz.prog W := by kernel_rfl
  have hz : (do pure (Value.tuple #[← zeroValue 371, .bool false]) : Sem Value).run Tryz.prog W = .ok (.tuple #[.slice none 0 0, .bool false]) W := by kernel_rfl
  rw [e, if_neg h]
  exact hz
theorem as_yes_ArrayUByte (v : Value) (W : World) : (Instr.typeAssert (.iface 421 v) 20 421 true).run Tryz.prog W = .ok (.tuple #[v, .bool true]) W := by kernel_rfl
theorem as_no_ArrayUByte {T : TypeId} (v : Value) (W : World) (h : T ≠ 421) : (Instr.typeAssert (.iface T v) 20 421 true).run Tryz.prog W = .ok (.tuple #[.slice none 0 0, .bool false]) W := by
  have e : (Instr.typeAssert (.iface T v) 20 421 true).run Tryz.prog W = (if T = 421 then (pure (Value.tuple #[v, .bool true]) : Sem Value) else (do pure (Value.tuple #[← zeroValue 421, .bool false]))).run Tryz.prog W := by kernel_rfl
  have hz : (do pure (Value.tuple #[← zeroValue 421, .bool false]) : Sem Value).run Tryz.prog W = .ok (.tuple #[.slice none 0 0, .bool false]) W := by kernel_rfl
  rw [e, if_neg h]
  exact hz
theorem as_yes_sU16 (v : Value) (W : World) : (Instr.typeAssert (.iface 44 v) 20 44 true).run Tryz.prog W = .ok (.tuple #[v, .bool true]) W := by kernel_rfl
theorem as_no_sU16 {T : TypeId} (v : Value) (W : World) (h : T ≠ 44) : (Instr.typeAssert (.iface T v) 20 44 true).run Tryz.prog W = .ok (.tuple #[.slice none 0 0, .bool false]) W := by
  have e : (Instr.typeAssert (.iface T v) 20 44 true).run Tryz.prog W = (if T = 44 then (pure (Value.tuple #[v, .bool true]) : Sem Value) else (do pure (Value.tuple #[← zeroValue 44, .bool false]))).run Tryz.prog W := by kernel_rfl
  have hz : (do pure (Value.tuple #[← zeroValue 44, .bool false]) : Sem Value).run Tryz.prog W = .ok (.tuple #[.slice none 0 0, .bool false]) W := by kernel_rfl
  rw [e, if_neg h]
  exact hz
theorem as_yes_sI16 (v : Value) (W : World) : (Instr.typeAssert (.iface 375 v) 20 375 true).run Tryz.prog W = .ok (.tuple #[v, .bool true]) W := by kernel_rfl
theorem as_no_sI16 {T : TypeId} (v : Value) (W : World) (h : T ≠ 375) : (Instr.typeAssert (.iface T v) 20 375 true).run Tryz.prog W = .ok (.tuple #[.slice none 0 0, .bool false]) W := by
  have e : (Instr.typeAssert (.iface T v) 20 375 true).run Tryz.prog W = (if T = 375 then (pure (Value.tuple #[v, .bool true]) : Sem Value) else (do pure (Value.tuple #[← zeroValue 375, .bool false]))).run Tryz.prog W := by kernel_rfl
  have hz : (do pure (Value.tuple #[← zeroValue 375, .bool false]) : Sem Value).run Tryz.prog W = .ok (.tuple #[.slice none 0 0, .bool false]) W := by kernel_rfl
  rw [e, if_neg h]
  exact hz
theorem as_yes_sU32 (v : Value) (W : World) : (Instr.typeAssert (.iface 54 v) 20 54 true).run Tryz.prog W = .ok (.tuple #[v, .bool true]) W := by kernel_rfl
theorem as_no_sU32 {T : TypeId} (v : Value) (W : World) (h : T ≠ 54) : (Instr.typeAssert (.iface T v) 20 54 true).run Tryz.prog W = .ok (.tuple #[.slice none 0 0, .bool false]) W := by
  have e : (Instr.typeAssert (.iface T v) 20 54 true).run Tryz.prog W = (if T = 54 then (pure (Value.tuple #[v, .bool true]) : Sem Value) else (do pure (Value.tuple #[← zeroValue 54, .bool false]))).run Tryz.prog W := by kernel_rfl
  have hz : (do pure (Value.tuple #[← zeroValue 54, .bool false]) : Sem Value).run Tryz.prog W = .ok (.tuple #[.slice none 0 0, .bool false]) W := by kernel_rfl
  rw [e, if_neg h]
  exact hz
theorem as_yes_sI32 (v : Value) (W : World) : (Instr.typeAssert (.iface 378 v) 20 378 true).run Tryz.prog W = .ok (.tuple #[v, .bool true]) W := by kernel_rfl
theorem as_no_sI32 {T : TypeId} (v : Value) (W : World) (h : T ≠ 378) : (Instr.typeAssert (.iface T v) 20 378 true).run Tryz.prog W = .ok (.tuple #[.slice none 0 0, .bool false]) W := by
  have e : (Instr.typeAssert (.iface T v) 20 378 true).run Tryz.prog W = (if T = 378 then (pure (Value.tuple #[v, .bool true]) : Sem Value) else (do pure (Value.tuple #[← zeroValue 378, .bool false]))).run Tryz.prog W := by kernel_rfl
  have hz : (do pure (Value.tuple #[← zeroValue 378, .bool false]) : Sem Value).run Tryz.prog W = .ok (.tuple #[.slice none 0 0, .bool false]) W := by kernel_rfl
  rw [e, if_neg h]
  exact hz
theorem as_yes_sU64 (v : Value) (W : World) : (Instr.typeAssert (.iface 380 v) 20 380 true).run Tryz.prog W = .ok (.tuple #[v, .bool true]) W := by kernel_rfl
theorem as_no_sU64 {T : TypeId} (v : Value) (W : World) (h : T ≠ 380) : (Instr.typeAssert (.iface T v) 20 380 true).run Tryz.prog W = .ok (.tuple #[.slice none 0 0, .bool false]) W := by
  have e : (Instr.typeAssert (.iface T v) 20 380 true).run Tryz.prog W = (if T = 380 then (pure (Value.tuple #[v, .bool true]) : Sem Value) else (do pure (Value.tuple #[← zeroValue 380, .bool false]))).run Tryz.prog W := by kernel_rfl
  have hz : (do pure (Value.tuple #[← zeroValue 380, .bool false]) : Sem Value).run Tryz.prog W = .ok (.tuple #[.slice none 0 0, .bool false]) W := by kernel_rfl
  rw [e, if_neg h]
  exact hz
theorem as_yes_sI64 (v : Value) (W : World) : (Instr.typeAssert (.iface 383 v) 20 383 true).run Tryz.prog W = .ok (.tuple #[v, .bool true]) W := by kernel_rfl
theorem as_no_sI64 {T : TypeId} (v : Value) (W : World) (h : T ≠ 383) : (Instr.typeAssert (.iface T v) 20 383 true).run Tryz.prog W = .ok (.tuple #[.slice none 0 0, .bool false]) W := by
  have e : (Instr.typeAssert (.iface T v) 20 383 true).run Tryz.prog W = (if T = 383 then (pure (Value.tuple #[v, .bool true]) : Sem Value) else (do pure (Value.tuple #[← zeroValue 383, .bool false]))).run Tryz.prog W := by kernel_rfl
  have hz : (do pure (Value.tuple #[← zeroValue 383, .bool false]) : Sem Value).run Tryz.prog W = .ok (.tuple #[.slice none 0 0, .bool false]) W := by kernel_rfl
  rw [e, if_neg h]
  exact hz
theorem as_yes_sF32 (v : Value) (W : World) : (Instr.typeAssert (.iface 385 v) 20 385 true).run Tryz.prog W = .ok (.tuple #[v, .bool true]) W := by kernel_rfl
theorem as_no_sF32 {T : TypeId} (v : Value) (W : World) (h : T ≠ 385) : (Instr.typeAssert (.iface T v) 20 385 true).run Tryz.prog W = .ok (.tuple #[.slice none 0 0, .bool false]) W := by
  have e : (Instr.typeAssert (.iface T v) 20 385 true).run Tryz.prog W = (if T = 385 then (pure (Value.tuple #[v, .bool true]) : Sem Value) else (do pure (Value.tuple #[← zeroValue 385, .bool false]))).run Tryz.prog W := by kernel_rfl
  have hz : (do pure (Value.tuple #[← zeroValue 385, .bool false]) : Sem Value).run Tryz.prog W = .ok (.tuple #[.slice none 0 0, .bool false]) W := by kernel_rfl
  rw [e, if_neg h]
  exact hz
theorem as_yes_sF64 (v : Value) (W : World) : (Instr.typeAssert (.iface 387 v) 20 387 true).run Tryz.prog W = .ok (.tuple #[v, .bool true]) W := by kernel_rfl
theorem as_no_sF64 {T : TypeId} (v : Value) (W : World) (h : T ≠ 387) : (Instr.typeAssert (.iface T v) 20 387 true).run Tryz.prog W = .ok (.tuple #[.slice none 0 0, .bool false]) W := by
  have e : (Instr.typeAssert (.iface T v) 20 387 true).run Tryz.prog W = (if T = 387 then (pure (Value.tuple #[v, .bool true]) : Sem Value) else (do pure (Value.tuple #[← zeroValue 387, .bool false]))).run Tryz.prog W := by kernel_rfl
  have hz : (do pure (Value.tuple #[← zeroValue 387, .bool false]) : Sem Value).run Tryz.prog W = .ok (.tuple #[.slice none 0 0, .bool false]) W := by kernel_rfl
  rw [e, if_neg h]
  exact hz
theorem as_yes_sBool (v : Value) (W : World) : (Instr.typeAssert (.iface 389 v) 20 389 true).run Tryz.prog W = .ok (.tuple #[v, .bool true]) W := by kernel_rfl
theorem as_no_sBool {T : TypeId} (v : Value) (W : World) (h : T ≠ 389) : (Instr.typeAssert (.iface T v) 20 389 true).run Tryz.prog W = .ok (.tuple #[.slice none 0 0, .bool false]) W := by
  have e : (Instr.typeAssert (.iface T v) 20 389 true).run Tryz.prog W = (if T = 389 then (pure (Value.tuple #[v, .bool true]) : Sem Value) else (do pure (Value.tuple #[← zeroValue 389, .bool false]))).run Tryz.prog W := by kernel_rfl
  have hz : (do pure (Value.tuple #[← zeroValue 389, .bool false]) : Sem Value).run Tryz.prog W = .ok (.tuple #[.slice none 0 0, .bool false]) W := by kernel_rfl
  rw [e, if_neg h]
  exact hz
theorem as_yes_sStr (v : Value) (W : World) : (Instr.typeAssert (.iface 39 v) 20 39 true).run Tryz.prog W = .ok (.tuple #[v, .bool true]) W := by kernel_rfl
theorem as_no_sStr {T : TypeId} (v : Value) (W : World) (h : T ≠ 39) : (Instr.typeAssert (.iface T v) 20 39 true).run Tryz.prog W = .ok (.tuple #[.slice none 0 0, .bool false]) W := by
  have e : (Instr.typeAssert (.iface T v) 20 39 true).run Tryz.prog W = (if T = 39 then (pure (Value.tuple #[v, .bool true]) : Sem Value) else (do pure (Value.tuple #[← zeroValue 39, .bool false]))).run Tryz.prog W := by kernel_rfl
  have hz : (do pure (Value.tuple #[← zeroValue 39, .bool false]) : Sem Value).run Tryz.prog W = .ok (.tuple #[.slice none 0 0, .bool false]) W := by kernel_rfl
  rw [e, if_neg h]
  exact hz
theorem as_yes_sSym (v : Value) (W : World) : (Instr.typeAssert (.iface 125 v) 20 125 true).run Tryz.prog W = .ok (.tuple #[v, .bool true]) W := by kernel_rfl
theorem as_no_sSym {T : TypeId} (v : Value) (W : World) (h : T ≠ 125) : (Instr.typeAssert (.iface T v) 20 125 true).run Tryz.prog W = .ok (.tuple #[.slice none 0 0, .bool false]) W := by
  have e : (Instr.typeAssert (.iface T v) 20 125 true).run Tryz.prog W = (if T = 125 then (pure (Value.tuple #[v, .bool true]) : Sem Value) else (do pure (Value.tuple #[← zeroValue 125, .bool false]))).run Tryz.prog W := by kernel_rfl
  have hz : (do pure (Value.tuple #[← zeroValue 125, .bool false]) : Sem Value).run Tryz.prog W = .ok (.tuple #[.slice none 0 0, .bool false]) W := by kernel_rfl
  rw [e, if_neg h]
  exact hz
theorem as_yes_sBytes (v : Value) (W : World) : (Instr.typeAssert (.iface 393 v) 20 393 true).run Tryz.prog W = .ok (.tuple #[v, .bool true]) W := by kernel_rfl
theorem as_no_sBytes {T : TypeId} (v : Value) (W : World) (h : T ≠ 393) : (Instr.typeAssert (.iface T v) 20 393 true).run Tryz.prog W = .ok (.tuple #[.slice none 0 0, .bool false]) W := by
  have e : (Instr.typeAssert (.iface T v) 20 393 true).run Tryz.prog W = (if T = 393 then (pure (Value.tuple #[v, .bool true]) : Sem Value) else (do pure (Value.tuple #[← zeroValue 393, .bool false]))).run Tryz.prog W := by kernel_rfl
  have hz : (do pure (Value.tuple #[← zeroValue 393, .bool false]) : Sem Value).run Tryz.prog W = .ok (.tuple #[.slice none 0 0, .bool false]) W := by kernel_rfl
  rw [e, if_neg h]
  exact hz
theorem as_yes_sTime (v : Value) (W : World) : (Instr.typeAssert (.iface 395 v) 20 395 true).run Tryz.prog W = .ok (.tuple #[v, .bool true]) W := by kernel_rfl
theorem as_no_sTime {T : TypeId} (v : Value) (W : World) (h : T ≠ 395) : (Instr.typeAssert (.iface T v) 20 395 true).run Tryz.prog W = .ok (.tuple #[.slice none 0 0, .bool false]) W := by
  have e : (Instr.typeAssert (.iface T v) 20 395 true).run Tryz.prog W = (if T = 395 then (pure (Value.tuple #[v, .bool true]) : Sem Value) else (do pure (Value.tuple #[← zeroValue 395, .bool false]))).run Tryz.prog W := by kernel_rfl
  have hz : (do pure (Value.tuple #[← zeroValue 395, .bool false]) : Sem Value).run Tryz.prog W = .ok (.tuple #[.slice none 0 0, .bool false]) W := by kernel_rfl
  rw [e, if_neg h]
  exact hz
theorem as_yes_sUUID (v : Value) (W : World) : (Instr.typeAssert (.iface 403 v) 20 403 true).run Tryz.prog W = .ok (.tuple #[v, .bool true]) W := by kernel_rfl
theorem as_no_sUUID {T : TypeId} (v : Value) (W : World) (h : T ≠ 403) : (Instr.typeAssert (.iface T v) 20 403 true).run Tryz.prog W = .ok (.tuple #[.slice none 0 0, .bool false]) W := by
  have e : (Instr.typeAssert (.iface T v) 20 403 true).run Tryz.prog W = (if T = 403 then (pure (Value.tuple #[v, .bool true]) : Sem Value) else (do pure (Value.tuple #[← zeroValue 403, .bool false]))).run Tryz.prog W := by kernel_rfl
  have hz : (do pure (Value.tuple #[← zeroValue 403, .bool false]) : Sem Value).run Tryz.prog W = .ok (.tuple #[.slice none 0 0, .bool false]) W := by kernel_rfl
  rw [e, if_neg h]
  exact hz
theorem as_yes_sMap (v : Value) (W : World) : (Instr.typeAssert (.iface 399 v) 20 399 true).run Tryz.prog W = .ok (.tuple #[v, .bool true]) W := by kernel_rfl
theorem as_no_sMap {T : TypeId} (v : Value) (W : World) (h : T ≠ 399) : (Instr.typeAssert (.iface T v) 20 399 true).run Tryz.prog W = .ok (.tuple #[.slice none 0 0, .bool false]) W := by
  have e : (Instr.typeAssert (.iface T v) 20 399 true).run Tryz.prog W = (if T = 399 then (pure (Value.tuple #[v, .bool true]) : Sem Value) else (do pure (Value.tuple #[← zeroValue 399, .bool false]))).run Tryz.prog W := by kernel_rfl
  have hz : (do pure (Value.tuple #[← zeroValue 399, .bool false]) : Sem Value).run Tryz.prog W = .ok (.tuple #[.slice none 0 0, .bool false]) W := by kernel_rfl
  rw [e, if_neg h]
  exact hz
theorem as_yes_mAny (v : Value) (W : World) : (Instr.typeAssert (.iface 343 v) 20 343 true).run Tryz.prog W = .ok (.tuple #[v, .bool true]) W := by kernel_rfl
theorem as_no_mAny {T : TypeId} (v : Value) (W : World) (h : T ≠ 343) : (Instr.typeAssert (.iface T v) 20 343 true).run Tryz.prog W = .ok (.tuple #[.map none, .bool false]) W := by
  have e : (Instr.typeAssert (.iface T v) 20 343 true).run Tryz.prog W = (if T = 343 then (pure (Value.tuple #[v, .bool true]) : Sem Value) else (do pure (Value.tuple #[← zeroValue 343, .bool false]))).run Tryz.prog W := by kernel_rfl
  have hz : (do pure (Value.tuple #[← zeroValue 343, .bool false]) : Sem Value).run Tryz.prog W = .ok (.tuple #[.map none, .bool false]) W := by kernel_rfl
  rw [e, if_neg h]
  exact hz
theorem as_yes_mStr (v : Value) (W : World) : (Instr.typeAssert (.iface 221 v) 20 221 true).run Tryz.prog W = .ok (.tuple #[v, .bool true]) W := by kernel_rfl
theorem as_no_mStr {T : TypeId} (v : Value) (W : World) (h : T ≠ 221) : (Instr.typeAssert (.iface T v) 20 221 true).run Tryz.prog W = .ok (.tuple #[.map none, .bool false]) W := by
  have e : (Instr.typeAssert (.iface T v) 20 221 true).run Tryz.prog W = (if T = 221 then (pure (Value.tuple #[v, .bool true]) : Sem Value) else (do pure (Value.tuple #[← zeroValue 221, .bool false]))).run Tryz.prog W := by kernel_rfl
  have hz : (do pure (Value.tuple #[← zeroValue 221, .bool false]) : Sem Value).run Tryz.prog W = .ok (.tuple #[.map none, .bool false]) W := by kernel_rfl
  rw [e, if_neg h]
  exact hz
theorem as_yes_bool (v : Value) (W : World) : (Instr.typeAssert (.iface 4 v) 20 4 true).run Tryz.prog W = .ok (.tuple #[v, .bool true]) W := by kernel_rfl
theorem as_no_bool {T : TypeId} (v : Value) (W : World) (h : T ≠ 4) : (Instr.typeAssert (.iface T v) 20 4 true).run Tryz.prog W = .ok (.tuple #[.bool false, .bool false]) W := by
  have e : (Instr.typeAssert (.iface T v) 20 4 true).run Tryz.prog W = (if T = 4 then (pure (Value.tuple #[v, .bool true]) : Sem Value) else (do pure (Value.tuple #[← zeroValue 4, .bool false]))).run Tryz.prog W := by kernel_rfl
  have hz : (do pure (Value.tuple #[← zeroValue 4, .bool false]) : Sem Value).run Tryz.prog W = .ok (.tuple #[.bool false, .bool false]) W := by kernel_rfl
  rw [e, if_neg h]
  exact hz
theorem as_yes_u8 (v : Value) (W : World) : (Instr.typeAssert (.iface 5 v) 20 5 true).run Tryz.prog W = .ok (.tuple #[v, .bool true]) W := by kernel_rfl
theorem as_no_u8 {T : TypeId} (v : Value) (W : World) (h : T ≠ 5) : (Instr.typeAssert (.iface T v) 20 5 true).run Tryz.prog W = .ok (.tuple #[.int .u8 0, .bool false]) W := by
  have e : (Instr.typeAssert (.iface T v) 20 5 true).run Tryz.prog W = (if T = 5 then (pure (Value.tuple #[v, .bool true]) : Sem Value) else (do pure (Value.tuple #[← zeroValue 5, .bool false]))).run Tryz.prog W := by kernel_rfl
  have hz : (do pure (Value.tuple #[← zeroValue 5, .bool false]) : Sem Value).run Tryz.prog W = .ok (.tuple #[.int .u8 0, .bool false]) W := by kernel_rfl
  rw [e, if_neg h]
  exact hz
theorem as_yes_u16 (v : Value) (W : World) : (Instr.typeAssert (.iface 38 v) 20 38 true).run Tryz.prog W = .ok (.tuple #[v, .bool true]) W := by kernel_rfl
theorem as_no_u16 {T : TypeId} (v : Value) (W : World) (h : T ≠ 38) : (Instr.typeAssert (.iface T v) 20 38 true).run Tryz.prog W = .ok (.tuple #[.int .u16 0, .bool false]) W := by
  have e : (Instr.typeAssert (.iface T v) 20 38 true).run Tryz.prog W = (if T = 38 then (pure (Value.tuple #[v, .bool true]) : Sem Value) else (do pure (Value.tuple #[← zeroValue 38, .bool false]))).run Tryz.prog W := by kernel_rfl
  have hz : (do pure (Value.tuple #[← zeroValue 38, .bool false]) : Sem Value).run Tryz.prog W = .ok (.tuple #[.int .u16 0, .bool false]) W := by kernel_rfl
  rw [e, if_neg h]
  exact hz
theorem as_yes_u32 (v : Value) (W : World) : (Instr.typeAssert (.iface 37 v) 20 37 true).run Tryz.prog W = .ok (.tuple #[v, .bool true]) W := by kernel_rfl
theorem as_no_u32 {T : TypeId} (v : Value) (W : World) (h : T ≠ 37) : (Instr.typeAssert (.iface T v) 20 37 true).run Tryz.prog W = .ok (.tuple #[.int .u32 0, .bool false]) W := by
  have e : (Instr.typeAssert (.iface T v) 20 37 true).run Tryz.prog W = (if T = 37 then (pure (Value.tuple #[v, .bool true]) : Sem Value) else (do pure (Value.tuple #[← zeroValue 37, .bool false]))).run Tryz.prog W := by kernel_rfl
  have hz : (do pure (Value.tuple #[← zeroValue 37, .bool false]) : Sem Value).run Tryz.prog W = .ok (.tuple #[.int .u32 0, .bool false]) W := by kernel_rfl
  rw [e, if_neg h]
  exact hz
theorem as_yes_u64 (v : Value) (W : World) : (Instr.typeAssert (.iface 27 v) 20 27 true).run Tryz.prog W = .ok (.tuple #[v, .bool true]) W := by kernel_rfl
theorem as_no_u64 {T : TypeId} (v : Value) (W : World) (h : T ≠ 27) : (Instr.typeAssert (.iface T v) 20 27 true).run Tryz.prog W = .ok (.tuple #[.int .u64 0, .bool false]) W := by
  have e : (Instr.typeAssert (.iface T v) 20 27 true).run Tryz.prog W = (if T = 27 then (pure (Value.tuple #[v, .bool true]) : Sem Value) else (do pure (Value.tuple #[← zeroValue 27, .bool false]))).run Tryz.prog W := by kernel_rfl
  have hz : (do pure (Value.tuple #[← zeroValue 27, .bool false]) : Sem Value).run Tryz.prog W = .ok (.tuple #[.int .u64 0, .bool false]) W := by kernel_rfl
  rw [e, if_neg h]
  exact hz
theorem as_yes_i8 (v : Value) (W : World) : (Instr.typeAssert (.iface 260 v) 20 260 true).run Tryz.prog W = .ok (.tuple #[v, .bool true]) W := by kernel_rfl
theorem as_no_i8 {T : TypeId} (v : Value) (W : World) (h : T ≠ 260) : (Instr.typeAssert (.iface T v) 20 260 true).run Tryz.prog W = .ok (.tuple #[.int .i8 0, .bool false]) W := by
  have e : (Instr.typeAssert (.iface T v) 20 260 true).run Tryz.prog W = (if T = 260 then (pure (Value.tuple #[v, .bool true]) : Sem Value) else (do pure (Value.tuple #[← zeroValue 260, .bool false]))).run Tryz.prog W := by kernel_rfl
  have hz : (do pure (Value.tuple #[← zeroValue 260, .bool false]) : Sem Value).run Tryz.prog W = .ok (.tuple #[.int .i8 0, .bool false]) W := by kernel_rfl
  rw [e, if_neg h]
  exact hz
theorem as_yes_i16 (v : Value) (W : World) : (Instr.typeAssert (.iface 264 v) 20 264 true).run Tryz.prog W = .ok (.tuple #[v, .bool true]) W := by kernel_rfl
theorem as_no_i16 {T : TypeId} (v : Value) (W : World) (h : T ≠ 264) : (Instr.typeAssert (.iface T v) 20 264 true).run Tryz.prog W = .ok (.tuple #[.int .i16 0, .bool false]) W := by
  have e : (Instr.typeAssert (.iface T v) 20 264 true).run Tryz.prog W = (if T = 264 then (pure (Value.tuple #[v, .bool true]) : Sem Value) else (do pure (Value.tuple #[← zeroValue 264, .bool false]))).run Tryz.prog W := by kernel_rfl
  have hz : (do pure (Value.tuple #[← zeroValue 264, .bool false]) : Sem Value).run Tryz.prog W = .ok (.tuple #[.int .i16 0, .bool false]) W := by kernel_rfl
  rw [e, if_neg h]
  exact hz
theorem as_yes_i32 (v : Value) (W : World) : (Instr.typeAssert (.iface 21 v) 20 21 true).run Tryz.prog W = .ok (.tuple #[v, .bool true]) W := by kernel_rfl
theorem as_no_i32 {T : TypeId} (v : Value) (W : World) (h : T ≠ 21) : (Instr.typeAssert (.iface T v) 20 21 true).run Tryz.prog W = .ok (.tuple #[.int .i32 0, .bool false]) W := by
  have e : (Instr.typeAssert (.iface T v) 20 21 true).run Tryz.prog W = (if T = 21 then (pure (Value.tuple #[v, .bool true]) : Sem Value) else (do pure (Value.tuple #[← zeroValue 21, .bool false]))).run Tryz.prog W := by kernel_rfl
  have hz : (do pure (Value.tuple #[← zeroValue 21, .bool false]) : Sem Value).run Tryz.prog W = .ok (.tuple #[.int .i32 0, .bool false]) W := by kernel_rfl
  rw [e, if_neg h]
  exact hz
theorem as_yes_i64 (v : Value) (W : World) : (Instr.typeAssert (.iface 2 v) 20 2 true).run Tryz.prog W = .ok (.tuple #[v, .bool true]) W := by kernel_rfl
theorem as_no_i64 {T : TypeId} (v : Value) (W : World) (h : T ≠ 2) : (Instr.typeAssert (.iface T v) 20 2 true).run Tryz.prog W = .ok (.tuple #[.int .i64 0, .bool false]) W := by
  have e : (Instr.typeAssert (.iface T v) 20 2 true).run Tryz.prog W = (if T = 2 then (pure (Value.tuple #[v, .bool true]) : Sem Value) else (do pure (Value.tuple #[← zeroValue 2, .bool false]))).run Tryz.prog W := by kernel_rfl
  have hz : (do pure (Value.tuple #[← zeroValue 2, .bool false]) : Sem Value).run Tryz.prog W = .ok (.tuple #[.int .i64 0, .bool false]) W := by kernel_rfl
  rw [e, if_neg h]
  exact hz
theorem as_yes_f32 (v : Value) (W : World) : (Instr.typeAssert (.iface 279 v) 20 279 true).run Tryz.prog W = .ok (.tuple #[v, .bool true]) W := by kernel_rfl
theorem as_no_f32 {T : TypeId} (v : Value) (W : World) (h : T ≠ 279) : (Instr.typeAssert (.iface T v) 20 279 true).run Tryz.prog W = .ok (.tuple #[.float .f32 0, .bool false]) W := by
  have e : (Instr.typeAssert (.iface T v) 20 279 true).run Tryz.prog W = (if T = 279 then (pure (Value.tuple #[v, .bool true]) : Sem Value) else (do pure (Value.tuple #[← zeroValue 279, .bool false]))).run Tryz.prog W := by kernel_rfl
  have hz : (do pure (Value.tuple #[← zeroValue 279, .bool false]) : Sem Value).run Tryz.prog W = .ok (.tuple #[.float .f32 0, .bool false]) W := by kernel_rfl
  rw [e, if_neg h]
  exact hz
theorem as_yes_f64 (v : Value) (W : World) : (Instr.typeAssert (.iface 283 v) 20 283 true).run Tryz.prog W = .ok (.tuple #[v, .bool true]) W := by kernel_rfl
theorem as_no_f64 {T : TypeId} (v : Value) (W : World) (h : T ≠ 283) : (Instr.typeAssert (.iface T v) 20 283 true).run Tryz.prog W = .ok (.tuple #[.float .f64 0, .bool false]) W := by
  have e : (Instr.typeAssert (.iface T v) 20 283 true).run Tryz.prog W = (if T = 283 then (pure (Value.tuple #[v, .bool true]) : Sem Value) else (do pure (Value.tuple #[← zeroValue 283, .bool false]))).run Tryz.prog W := by kernel_rfl
  have hz : (do pure (Value.tuple #[← zeroValue 283, .bool false]) : Sem Value).run Tryz.prog W = .ok (.tuple #[.float .f64 0, .bool false]) W := by kernel_rfl
  rw [e, if_neg h]
  exact hz
theorem as_yes_Time (v : Value) (W : World) : (Instr.typeAssert (.iface 295 v) 20 295 true).run Tryz.prog W = .ok (.tuple #[v, .bool true]) W := by kernel_rfl
theorem as_no_Time {T : TypeId} (v : Value) (W : World) (h : T ≠ 295) : (Instr.typeAssert (.iface T v) 20 295 true).run Tryz.prog W = .ok (.tuple #[.agg #[.int .i64 0, .int .i64 0], .bool false]) W := by
  have e : (Instr.typeAssert (.iface T v) 20 295 true).run Tryz.prog W = (if T = 295 then (pure (Value.tuple #[v, .bool true]) : Sem Value) else (do pure (Value.tuple #[← zeroValue 295, .bool false]))).run Tryz.prog W := by kernel_rfl
  have hz : (do pure (Value.tuple #[← zeroValue 295, .bool false]) : Sem Value).run Tryz.prog W = .ok (.tuple #[.agg #[.int .i64 0, .int .i64 0], .bool false]) W := by kernel_rfl
  rw [e, if_neg h]
  exact hz
theorem as_yes_UUID (v : Value) (W : World) : (Instr.typeAssert (.iface 406 v) 20 406 true).run Tryz.prog W = .ok (.tuple #[v, .bool true]) W := by kernel_rfl
theorem as_no_UUID {T : TypeId} (v : Value) (W : World) (h : T ≠ 406) : (Instr.typeAssert (.iface T v) 20 406 true).run Tryz.prog W = .ok (.tuple #[.agg z16, .bool false]) W := by
  have e : (Instr.typeAssert (.iface T v) 20 406 true).run Tryz.prog W = (if T = 406 then (pure (Value.tuple #[v, .bool true]) : Sem Value) else (do pure (Value.tuple #[← zeroValue 406, .bool false]))).run Tryz.prog W := by kernel_rfl
  have hz : (do pure (Value.tuple #[← zeroValue 406, .bool false]) : Sem Value).run Tryz.prog W = .ok (.tuple #[.agg z16, .bool false]) W := by kernel_rfl
  rw [e, if_neg h]
  exact hz
theorem as_yes_string (v : Value) (W : World) : (Instr.typeAssert (.iface 9 v) 20 9 true).run Tryz.prog W = .ok (.tuple #[v, .bool true]) W := by kernel_rfl
theorem as_no_string {T : TypeId} (v : Value) (W : World) (h : T ≠ 9) : (Instr.typeAssert (.iface T v) 20 9 true).run Tryz.prog W = .ok (.tuple #[.string ⟨#[]⟩, .bool false]) W := by
  have e : (Instr.typeAssert (.iface T v) 20 9 true).run Tryz.prog W = (if T = 9 then (pure (Value.tuple #[v, .bool true]) : Sem Value) else (do pure (Value.tuple #[← zeroValue 9, .bool false]))).run Tryz.prog W := by kernel_rfl
  have hz : (do pure (Value.tuple #[← zeroValue 9, .bool false]) : Sem Value).run Tryz.prog W = .ok (.tuple #[.string ⟨#[]⟩, .bool false]) W := by kernel_rfl
  rw [e, if_neg h]
  exact hz
theorem as_yes_Symbol (v : Value) (W : World) : (Instr.typeAssert (.iface 203 v) 20 203 true).run Tryz.prog W = .ok (.tuple #[v, .bool true]) W := by kernel_rfl
theorem as_no_Symbol {T : TypeId} (v : Value) (W : World) (h : T ≠ 203) : (Instr.typeAssert (.iface T v) 20 203 true).run Tryz.prog W = .ok (.tuple #[.string ⟨#[]⟩, .bool false]) W := by
  have e : (Instr.typeAssert (.iface T v) 20 203 true).run Tryz.prog W = (if T = 203 then (pure (Value.tuple #[v, .bool true]) : Sem Value) else (do pure (Value.tuple #[← zeroValue 203, .bool false]))).run Tryz.prog W := by kernel_rfl
  have hz : (do pure (Value.tuple #[← zeroValue 203, .bool false]) : Sem Value).run Tryz.prog W = .ok (.tuple #[.string ⟨#[]⟩, .bool false]) W := by kernel_rfl
  rw [e, if_neg h]
  exact hz
theorem as_yes_Desc (v : Value) (W : World) : (Instr.typeAssert (.iface 419 v) 20 419 true).run Tryz.prog W = .ok (.tuple #[v, .bool true]) W := by kernel_rfl
theorem as_no_Desc {T : TypeId} (v : Value) (W : World) (h : T ≠ 419) : (Instr.typeAssert (.iface T v) 20 419 true).run Tryz.prog W = .ok (.tuple #[.agg #[.nilIface, .nilIface], .bool false]) W := by
  have e : (Instr.typeAssert (.iface T v) 20 419 true).run Tryz.prog W = (if T = 419 then (pure (Value.tuple #[v, .bool true]) : Sem Value) else (do pure (Value.tuple #[← zeroValue 419, .bool false]))).run Tryz.prog W := by kernel_rfl
  have hz : (do pure (Value.tuple #[← zeroValue 419, .bool false]) : Sem Value).run Tryz.prog W = .ok (.tuple #[.agg #[.nilIface, .nilIface], .bool false]) W := by kernel_rfl
  rw [e, if_neg h]
  exact hz
def keyTypes : List TypeId := [4, 5, 38, 37, 27, 260, 264, 21, 2, 295, 406, 9]
theorem keyTypes_ne {T a : TypeId} (h : T ∈ keyTypes) (ha : a ∉ keyTypes) : T ≠ a := fun e => ha (e ▸ h)
set_option maxRecDepth 100000 in
set_option maxHeartbeats 4000000 in
theorem keyed_yes (T : TypeId) (x : Value) (w : World) (hT : T ∈ keyTypes) : Calls Tryz.prog 171 #[.iface T x] w fun e w' => e = .returned (.bool true) ∧ w' = w := by
  have f_bytes := fun W => as_no_bytes (T := T) x W (keyTypes_ne hT (by decide))
  have f_sAny := fun W => as_no_sAny (T := T) x W (keyTypes_ne hT (by decide))
  have f_sI8 := fun W => as_no_sI8 (T := T) x W (keyTypes_ne hT (by decide))
  have f_ArrayUByte := fun W => as_no_ArrayUByte (T := T) x W (keyTypes_ne hT (by decide))
  have f_sU16 := fun W => as_no_sU16 (T := T) x W (keyTypes_ne hT (by decide))
  have f_sI16 := fun W => as_no_sI16 (T := T) x W (keyTypes_ne hT (by decide))
  have f_sU32 := fun W => as_no_sU32 (T := T) x W (keyTypes_ne hT (by decide))
  have f_sI32 := fun W => as_no_sI32 (T := T) x W (keyTypes_ne hT (by decide))
  have f_sU64 := fun W => as_no_sU64 (T := T) x W (keyTypes_ne hT (by decide))
  have f_sI64 := fun W => as_no_sI64 (T := T) x W (keyTypes_ne hT (by decide))
  have f_sF32 := fun W => as_no_sF32 (T := T) x W (keyTypes_ne hT (by decide))
  have f_sF64 := fun W => as_no_sF64 (T := T) x W (keyTypes_ne hT (by decide))
  have f_sBool := fun W => as_no_sBool (T := T) x W (keyTypes_ne hT (by decide))
  have f_sStr := fun W => as_no_sStr (T := T) x W (keyTypes_ne hT (by decide))
  have f_sSym := fun W => as_no_sSym (T := T) x W (keyTypes_ne hT (by decide))
  have f_sBytes := fun W => as_no_sBytes (T := T) x W (keyTypes_ne hT (by decide))
  have f_sTime := fun W => as_no_sTime (T := T) x W (keyTypes_ne hT (by decide))
  have f_sUUID := fun W => as_no_sUUID (T := T) x W (keyTypes_ne hT (by decide))
  have f_sMap := fun W => as_no_sMap (T := T) x W (keyTypes_ne hT (by decide))
  have f_mAny := fun W => as_no_mAny (T := T) x W (keyTypes_ne hT (by decide))
  have f_mStr := fun W => as_no_mStr (T := T) x W (keyTypes_ne hT (by decide))
  clear hT
  go_enter Tryz.func171, Tryz.ntmps171
  go_wp2
  go_ret
  exact ⟨rfl, rfl⟩
end Go.Proofs.YtbckofjoancdjaaGreatDoor
