/- TakePack: whole values. -/
import Derived.Test.YtapfahngeaojkaaGreatDoorK33
import Derived.Test.YtapfahngeaojkaaGreatDoorK34
namespace Go.Proofs.YtapfahngeaojkaaGreatDoor
open Go Go.RowKit Go.Lib
theorem tp_bytes (r : V) (h0 : Nrm0 r) (L : Int) (hL : 1 ≤ L ∧ L ≤ 1000) (p : List UInt8) (he : PEnc r p) (h6 : r.kind = 6 ∨ r.kind = 7) (S : Nat → Prop) (w : World) (s : Value) (D : List UInt8) (hs : BSl S w s (p ++ D)) (hlen : (p ++ D).length ≤ 1099511627776) :
    Calls Tryz.prog 10 #[s, .int .i64 L] w (TakeK S r D w) := by
  have hz := h0.zero (by omega)
  have hb := (bytes_text r.text).1
  have hc1 := (text_cut r.text D).1
  have hc2 := (text_cut r.text D).2
  have hsz := h0.size
  cases he with
  | text0 hk h32 =>
    have hl2 : (bytesOf r.text ++ D).length ≤ 1099511627776 := by simp only [List.cons_append, List.length_cons] at hlen; omega
    have h := tp_text S w s _ (bytesOf r.text ++ D) (160 + r.text.size) L hs (by simp; omega) (by omega) hL (by rw [List.length_append]; omega) hl2
    rw [show 160 + r.text.size - 160 = r.text.size by omega, hc1, hc2] at h
    exact h.mono fun e w' h => leafK h0 hk hz rfl (by omega) h
  | text hk hc hlt =>
    rw [List.cons_append, List.append_assoc] at hs hlen
    have hl2 : (bytesOf r.text ++ D).length ≤ 1099511627776 := by simp only [List.length_cons, List.length_append] at hlen ⊢; omega
    have hu : r.text.size ≤ (bytesOf r.text ++ D).length := by rw [List.length_append]; omega
    rcases hc with ⟨rfl, rfl⟩ | ⟨rfl, rfl⟩ | ⟨rfl, rfl⟩
    · refine tp_coded S w s _ _ 217 L hs rfl (by decide) hL r D fun S W y hy => ?_
      have h := tc_text S W y _ (bytesOf r.text ++ D) ((217 : Nat) : Int) L 1 r.text.size hy (by decide) rfl (head_cut _ _ _).2.2 (by decide) (head_cut _ _ _).1 ((head_num _ _ _).trans (by omega)) hu hl2
      rw [hc1, hc2] at h
      exact h.mono fun e w' h => leafK h0 hk hz rfl (by omega) h
    · refine tp_coded S w s _ _ 218 L hs rfl (by decide) hL r D fun S W y hy => ?_
      have h := tc_text S W y _ (bytesOf r.text ++ D) ((218 : Nat) : Int) L 2 r.text.size hy (by decide) rfl (head_cut _ _ _).2.2 (by decide) (head_cut _ _ _).1 ((head_num _ _ _).trans (by omega)) hu hl2
      rw [hc1, hc2] at h
      exact h.mono fun e w' h => leafK h0 hk hz rfl (by omega) h
    · refine tp_coded S w s _ _ 219 L hs rfl (by decide) hL r D fun S W y hy => ?_
      have h := tc_text S W y _ (bytesOf r.text ++ D) ((219 : Nat) : Int) L 4 r.text.size hy (by decide) rfl (head_cut _ _ _).2.2 (by decide) (head_cut _ _ _).1 ((head_num _ _ _).trans (by omega)) hu hl2
      rw [hc1, hc2] at h
      exact h.mono fun e w' h => leafK h0 hk hz rfl (by omega) h
  | bin hk hc hlt =>
    rw [List.cons_append, List.append_assoc] at hs hlen
    have hl2 : (bytesOf r.text ++ D).length ≤ 1099511627776 := by simp only [List.length_cons, List.length_append] at hlen ⊢; omega
    have hu : r.text.size ≤ (bytesOf r.text ++ D).length := by rw [List.length_append]; omega
    rcases hc with ⟨rfl, rfl⟩ | ⟨rfl, rfl⟩ | ⟨rfl, rfl⟩
    · refine tp_coded S w s _ _ 196 L hs rfl (by decide) hL r D fun S W y hy => ?_
      have h := tc_bin S W y _ (bytesOf r.text ++ D) ((196 : Nat) : Int) L 1 r.text.size hy (by decide) rfl (head_cut _ _ _).2.2 (by decide) (head_cut _ _ _).1 ((head_num _ _ _).trans (by omega)) hu hl2
      rw [hc1, hc2] at h
      exact h.mono fun e w' h => leafK h0 hk hz rfl (by omega) h
    · refine tp_coded S w s _ _ 197 L hs rfl (by decide) hL r D fun S W y hy => ?_
      have h := tc_bin S W y _ (bytesOf r.text ++ D) ((197 : Nat) : Int) L 2 r.text.size hy (by decide) rfl (head_cut _ _ _).2.2 (by decide) (head_cut _ _ _).1 ((head_num _ _ _).trans (by omega)) hu hl2
      rw [hc1, hc2] at h
      exact h.mono fun e w' h => leafK h0 hk hz rfl (by omega) h
    · refine tp_coded S w s _ _ 198 L hs rfl (by decide) hL r D fun S W y hy => ?_
      have h := tc_bin S W y _ (bytesOf r.text ++ D) ((198 : Nat) : Int) L 4 r.text.size hy (by decide) rfl (head_cut _ _ _).2.2 (by decide) (head_cut _ _ _).1 ((head_num _ _ _).trans (by omega)) hu hl2
      rw [hc1, hc2] at h
      exact h.mono fun e w' h => leafK h0 hk hz rfl (by omega) h
  | nil hk => omega
  | bool hk _ _ => omega
  | fix hk _ _ => omega
  | neg hk _ _ => omega
  | unum hk _ _ _ => omega
  | inum _ hf => unfold fitsI at hf; omega
  | f32 hk _ _ => omega
  | f64 hk _ _ => omega
  | arr0 hk _ _ => omega
  | arr hk _ _ _ => omega
  | map0 hk _ _ _ => omega
  | map hk _ _ _ _ => omega
theorem tp_comp (r : V) (h0 : Nrm0 r) (L : Int) (hL : 1 ≤ L ∧ L ≤ 1000) (p : List UInt8) (he : PEnc r p) (h8 : 8 ≤ r.kind) (S : Nat → Prop) (w : World) (s : Value) (D : List UInt8) (hs : BSl S w s (p ++ D)) (hlen : (p ++ D).length ≤ 1099511627776)
    (ih : ∀ u, u ∈ r.kids → ∀ (S : Nat → Prop) (W : World) (y : Value) (p D' : List UInt8), PEnc u p → BSl S W y (p ++ D') → (p ++ D').length ≤ 1099511627776 → Calls Tryz.prog 10 #[y, .int .i64 (L - 1)] W (TakeK S u D' W)) :
    Calls Tryz.prog 10 #[s, .int .i64 L] w (TakeK S r D w) := by
  have hc := h0.comp h8
  have hk (kd : Int) (hkd : r.kind = kd) (d : List UInt8) (hd : PEncL r.kids d) (hl : (d ++ D).length ≤ 1099511627776) (S : Nat → Prop) (W : World) (y : Value) (hy : BSl S W y (d ++ D)) : Calls Tryz.prog 17 #[.int .i64 kd, .int .i64 r.kids.length, y, .int .i64 L] W (TakeK S r D W) := by
    have hr : V.mk kd 0 ⟨#[]⟩ r.kids 0 [] = r := by rw [← hkd]; exact hc.symm
    have h := takeKids_ok S W y kd L r.kids d D hy hd hl (by have := hd.len; rw [List.length_append] at hl; omega) (by rw [hr]; exact h0.knum) (by omega) ih
    rw [hr] at h
    exact h
  cases he with
  | arr0 hkd h16 hd =>
    rename_i d
    have hl2 : (d ++ D).length ≤ 1099511627776 := by simp only [List.cons_append, List.length_cons] at hlen; omega
    refine tp_arr S w s _ (d ++ D) (144 + r.kids.length) L hs (by simp; omega) (by omega) hL r D fun S W y hy => ?_
    rw [show (((144 + r.kids.length : Nat) : Int) - 144) = (r.kids.length : Int) by omega]
    exact hk 8 hkd d hd hl2 S W y hy
  | arr hkd hcd hlt hd =>
    rename_i d
    rw [List.cons_append, List.append_assoc] at hs hlen
    have hl2 : (d ++ D).length ≤ 1099511627776 := by simp only [List.length_cons, List.length_append] at hlen ⊢; omega
    have hu : r.kids.length ≤ (d ++ D).length := by have := hd.len; rw [List.length_append]; omega
    rcases hcd with ⟨rfl, rfl⟩ | ⟨rfl, rfl⟩ <;>
    · exact tp_coded S w s _ _ _ L hs rfl (by decide) hL r D fun S W y hy => tc_arr S W y _ (d ++ D) _ L _ r.kids.length hy (by decide) rfl (head_cut _ _ _).2.2 (by decide) (head_cut _ _ _).1 ((head_num _ _ _).trans (by omega)) hu hl2 r D (hk 8 hkd d hd hl2)
  | map0 hkd h2 h16 hd =>
    rename_i n d
    have hl2 : (d ++ D).length ≤ 1099511627776 := by simp only [List.cons_append, List.length_cons] at hlen; omega
    refine tp_map S w s _ (d ++ D) (128 + n) L hs (by simp; omega) (by omega) hL r D fun S W y hy => ?_
    rw [show (2 * (((128 + n : Nat) : Int) - 128)) = (r.kids.length : Int) by omega]
    exact hk 9 hkd d hd hl2 S W y hy
  | map hkd h2 hcd hlt hd =>
    rename_i n c sz d
    rw [List.cons_append, List.append_assoc] at hs hlen
    have hl2 : (d ++ D).length ≤ 1099511627776 := by simp only [List.length_cons, List.length_append] at hlen ⊢; omega
    have hu : 2 * n ≤ (d ++ D).length := by have := hd.len; rw [List.length_append]; omega
    have hkk := hk 9 hkd d hd hl2
    rw [show (r.kids.length : Int) = 2 * (n : Int) by omega] at hkk
    rcases hcd with ⟨rfl, rfl⟩ | ⟨rfl, rfl⟩ <;>
    · exact tp_coded S w s _ _ _ L hs rfl (by decide) hL r D fun S W y hy => tc_map S W y _ (d ++ D) _ L _ n hy (by decide) rfl (head_cut _ _ _).2.2 (by decide) (head_cut _ _ _).1 ((head_num _ _ _).trans (by omega)) hu hl2 r D hkk
  | nil hk => omega
  | bool hk _ _ => omega
  | fix hk _ _ => omega
  | neg hk _ _ => omega
  | unum hk _ _ _ => omega
  | inum _ hf => unfold fitsI at hf; omega
  | f32 hk _ _ => omega
  | f64 hk _ _ => omega
  | text0 hk _ => omega
  | text hk _ _ => omega
  | bin hk _ _ => omega
theorem takePack_any : ∀ (n : Nat) (r : V), Nrm n r → ∀ (L : Int), (n : Int) ≤ L → L ≤ 1000 → ∀ (S : Nat → Prop) (w : World) (s : Value) (p D : List UInt8), PEnc r p → BSl S w s (p ++ D) → (p ++ D).length ≤ 1099511627776 →
    Calls Tryz.prog 10 #[s, .int .i64 L] w (TakeK S r D w)
  | 0, r, hn, _, _, _, _, _, _, _, _, _, _, _ => by cases hn
  | n + 1, r, hn, L, hL, hL2, S, w, s, p, D, he, hs, hlen => by
    cases hn with
    | mk h0 hk =>
      have hk0 := h0.kind
      by_cases h6 : r.kind < 6
      · exact tp_leaf r h0 L (by omega) p he h6 S w s D hs
      · by_cases h8 : 8 ≤ r.kind
        · exact tp_comp r h0 L (by omega) p he h8 S w s D hs hlen fun u hu S W y p D' hp hy hl => takePack_any n u (hk u hu) (L - 1) (by omega) (by omega) S W y p D' hp hy hl
        · exact tp_bytes r h0 L (by omega) p he (by omega) S w s D hs hlen
end Go.Proofs.YtapfahngeaojkaaGreatDoor
