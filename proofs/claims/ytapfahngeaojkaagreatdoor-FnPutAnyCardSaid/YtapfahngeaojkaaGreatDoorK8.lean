/- Package spec: packFits: it says yes only of values that fit. -/
import Derived.LoopTactic
import Derived.IntWalk
import Derived.Outline
import Derived.RegionTactic
import Derived.Deep.DrawnRows
import Derived.Deep.DeepCutAuto
import Derived.Test.YtapfahngeaojkaaGreatDoorK7
import Derived.Test.YtapfahngeaojkaaGreatDoorK3
namespace Go.Proofs.YtapfahngeaojkaaGreatDoor
open Go Go.RowKit Go.Lib
theorem size_nil {t : ByteArray} (h : t.toList = []) : t.size = 0 := by
  rw [ByteArray.toList_eq] at h
  have := congrArg List.length h
  simpa using this
def FitP (d : Int) (v : V) (w : World) : Ending → World → Prop := fun e w' => ∃ b, e = .returned (.bool b) ∧ (b = true → PFits d.toNat v) ∧ Kept Nope w w'
def FitIH (l : List V) (d : Int) : Prop := ∀ k ∈ l, ∀ (W : World) (y : Value), KAgg Any_ W y k → Calls Tryz.prog 16 #[y, .int .i64 d] W (FitP d k W)
set_option maxRecDepth 100000 in
set_option maxHeartbeats 6400000 in
theorem packFits_step (v : V) (d : Int) (w : World) (xa : Value) (ha : KAgg Any_ w xa v) (hd : d ≤ 1000000) (ih1 : 0 < d → FitIH v.kids (d - 1)) : Calls Tryz.prog 16 #[xa, .int .i64 d] w (FitP d v w) := by
  obtain ⟨ks, rfl, hn, hks⟩ := ha
  have HNN := Lib.hid hn
  have HKS := Lib.hid hks
  obtain ⟨pk, ck, rfl, mk⟩ := hks.form
  have HI := Lib.hid ih1
  obtain ⟨n, hnn⟩ : ∃ n, v.kids.length = n := ⟨_, rfl⟩
  obtain ⟨kd, hkd⟩ : ∃ n, v.kind = n := ⟨_, rfl⟩
  obtain ⟨nm, hnm⟩ : ∃ n, v.num = n := ⟨_, rfl⟩
  obtain ⟨tx, htx⟩ : ∃ n, v.text = n := ⟨_, rfl⟩
  obtain ⟨xt, hxt⟩ : ∃ n, v.of_ = n := ⟨_, rfl⟩
  have hnum := hn.1.num
  have HL := Lib.hid (And.intro hnn (And.intro hkd (And.intro hnm (And.intro htx hxt))))
  have hln : n ≤ maxLen := by omega
  unfold maxLen at hln
  unfold kagg at ⊢
  rw [hnm] at hnum
  rw [hnn] at HKS
  rw [hnn, hkd, hnm, htx, hxt]
  clear hn hks ih1 mk hnn hkd hnm htx hxt
  go_enter Tryz.func16, Tryz.ntmps16
  go_upto_region 1 with fail
  have hA := Blk.new w 26 #[.int .i64 kd, .int .u64 nm, .string tx, .int .i64 xt, .slice pk n ck]
  have HK1 := Lib.hid ((Kept.refl Nope w).alloc (.cells #[.int .i64 kd, .int .u64 nm, .string tx, .int .i64 xt, .slice pk n ck] 26))
  generalize w.alloc (.cells #[.int .i64 kd, .int .u64 nm, .string tx, .int .i64 xt, .slice pk n ck] 26) = W1 at hA HK1 ⊢
  generalize w.heap.size = A at hA ⊢
  have HB := Lib.hid hA
  have a0 := hA.cell 0
  have a1 := hA.cell 1
  have a2 := hA.cell 2
  have a3 := hA.cell 3
  have a4 := hA.cell 4
  simp only [List.getElem?_toArray, List.getElem?_cons_zero, List.getElem?_cons_succ] at a0 a1 a2 a3 a4
  clear hA
  go_cut [5] (fun s wx => ∃ b, s = .bool b ∧ W1 = wx ∧ (b = decide (kd = 8 ∨ kd = 9)))
  case first =>
    rcases Bool.eq_false_or_eq_true (kd == 8) with h1 | h1 <;> rcases Bool.eq_false_or_eq_true (kd == 9) with h2 | h2
    all_goals
      go_wp2_with fail
      go_meet
      refine ⟨_, rfl, rfl, ?_⟩
      have e1 := h1
      have e2 := h2
      simp only [beq_iff_eq, beq_eq_false_iff_ne] at e1 e2
      first
        | exact (decide_eq_true (by omega)).symm
        | exact (decide_eq_false (by omega)).symm
  case rest =>
    obtain ⟨c5, rfl, rfl, h5⟩ := hcut
    have H5 := Lib.hid h5
    clear h5
    go_upto_region 2 with fail
    go_cut [6] (fun s wx => ∃ b, s = .bool b ∧ W1 = wx ∧ (b = decide (kd = 6 ∨ kd = 7 ∨ kd = 10)))
    case first =>
      rcases Bool.eq_false_or_eq_true (kd == 6) with h1 | h1 <;> rcases Bool.eq_false_or_eq_true (kd == 7) with h2 | h2 <;> rcases Bool.eq_false_or_eq_true (kd == 10) with h3 | h3
      all_goals
        go_wp2_with fail
        go_meet
        refine ⟨_, rfl, rfl, ?_⟩
        have e1 := h1
        have e2 := h2
        have e3 := h3
        simp only [beq_iff_eq, beq_eq_false_iff_ne] at e1 e2 e3
        first
          | exact (decide_eq_true (by omega)).symm
          | exact (decide_eq_false (by omega)).symm
    case rest =>
      obtain ⟨c6, rfl, rfl, h6⟩ := hcut
      have H6 := Lib.hid h6
      clear h6
      go_upto_region 3 with fail
      go_cut [7] (fun s wx => ∃ b, s = .bool b ∧ W1 = wx ∧ (b = decide (1 ≤ kd ∧ kd ≤ 5)))
      case first =>
        rcases (show (1 ≤ kd ∧ kd ≤ 5) ∨ (1 ≤ kd ∧ ¬ kd ≤ 5) ∨ (¬ 1 ≤ kd ∧ kd ≤ 5) by omega) with ⟨h1, h2⟩ | ⟨h1, h2⟩ | ⟨h1, h2⟩
        all_goals
          go_wp2_with fail
          go_meet
          refine ⟨_, rfl, rfl, ?_⟩
          first
            | exact (decide_eq_true (by omega)).symm
            | exact (decide_eq_false (by omega)).symm
      case rest =>
        obtain ⟨c7, rfl, rfl, h7⟩ := hcut
        have H7 := Lib.hid h7
        clear h7
        go_upto_region 4 with fail
        go_cut [5, 6, 7, 98] (fun _ _ _ s wx => ∃ b, s = .bool b ∧ W1 = wx ∧ (b = false → 0 < d ∧ 0 ≤ kd ∧ kd < 11 ∧ (kd = 8 ∨ kd = 9 ∨ n = 0) ∧ (kd = 6 ∨ kd = 7 ∨ kd = 10 ∨ tx.size = 0) ∧ ((1 ≤ kd ∧ kd ≤ 5) ∨ nm = 0) ∧ (kd = 10 ∨ xt = 0)))
        case first =>
          by_cases h1 : d ≤ 0
          · as_aux_lemma =>
              go_wp2_with fail
              go_meet
              exact ⟨_, rfl, rfl, fun h => by cases h⟩
          by_cases h2 : kd < 0
          · as_aux_lemma =>
              go_wp2_with fail
              go_meet
              exact ⟨_, rfl, rfl, fun h => by cases h⟩
          by_cases h3 : 11 ≤ kd
          · as_aux_lemma =>
              go_wp2_with fail
              go_meet
              exact ⟨_, rfl, rfl, fun h => by cases h⟩
          rcases (show (kd = 8 ∨ kd = 9) ∨ (kd = 6 ∨ kd = 7) ∨ kd = 10 ∨ (1 ≤ kd ∧ kd ≤ 5) ∨ kd = 0 by omega) with hc | hc | hc | hc | hc
          · obtain rfl : c5 = true := by rw [H5.out]; exact decide_eq_true (by omega)
            obtain rfl : c6 = false := by rw [H6.out]; exact decide_eq_false (by omega)
            obtain rfl : c7 = false := by rw [H7.out]; exact decide_eq_false (by omega)
            have HC := Lib.hid hc
            clear hc
            by_cases T0 : ¬ tx.toList = []
            · have t0 : (tx.toList == []) = false := by simpa using T0
              as_aux_lemma =>
                go_wp2_with fail
                go_meet
                exact ⟨_, rfl, rfl, fun h => by cases h⟩
            replace T0 := Classical.not_not.1 T0
            have HT0 : Hid (tx.size = 0) := Lib.hid (size_nil T0)
            by_cases m1 : ¬ nm = 0
            · have m2 : (nm != 0) = true := by rw [bne_iff_ne]; exact m1
              clear m1
              as_aux_lemma =>
                go_wp2_with fail
                go_meet
                exact ⟨_, rfl, rfl, fun h => by cases h⟩
            replace m1 := Classical.not_not.1 m1
            have m2 : (nm != 0) = false := by rw [bne_eq_false_iff_eq]; exact m1
            have M0 := Lib.hid m1
            clear m1
            have f3 : (kd != 10) = true := by rw [bne_iff_ne]; have := HC.out; omega
            by_cases f2 : ¬ xt = 0
            · have f4 : (xt != 0) = true := by rw [bne_iff_ne]; exact f2
              clear f2
              as_aux_lemma =>
                go_wp2_with fail
                go_meet
                exact ⟨_, rfl, rfl, fun h => by cases h⟩
            replace f2 := Classical.not_not.1 f2
            have F2 := Lib.hid f2
            have f4 : (xt != 0) = false := by rw [bne_eq_false_iff_eq]; exact f2
            have g1 : ¬ xt < -128 := by omega
            have g2 : ¬ 127 < xt := by omega
            clear f2
            as_aux_lemma =>
              go_wp2_with fail
              go_meet
              exact ⟨_, rfl, rfl, fun _ => by have hc := HC.out; have h9 := HT0.out; have h10 := M0.out; have h11 := F2.out; exact ⟨by omega, by omega, by omega, by omega, by omega, by omega, by omega⟩⟩
          · obtain rfl : c5 = false := by rw [H5.out]; exact decide_eq_false (by omega)
            obtain rfl : c6 = true := by rw [H6.out]; exact decide_eq_true (by omega)
            obtain rfl : c7 = false := by rw [H7.out]; exact decide_eq_false (by omega)
            have HC := Lib.hid hc
            clear hc
            by_cases h4 : 0 < n
            · have h5 : (0 : Int) < (n : Int) := by omega
              as_aux_lemma =>
                go_wp2_with fail
                go_meet
                exact ⟨_, rfl, rfl, fun h => by cases h⟩
            have N0 : Hid (n = 0) := Lib.hid (by omega)
            have h5 : ¬ (0 : Int) < (n : Int) := by omega
            by_cases m1 : ¬ nm = 0
            · have m2 : (nm != 0) = true := by rw [bne_iff_ne]; exact m1
              clear m1
              as_aux_lemma =>
                go_wp2_with fail
                go_meet
                exact ⟨_, rfl, rfl, fun h => by cases h⟩
            replace m1 := Classical.not_not.1 m1
            have m2 : (nm != 0) = false := by rw [bne_eq_false_iff_eq]; exact m1
            have M0 := Lib.hid m1
            clear m1
            have f3 : (kd != 10) = true := by rw [bne_iff_ne]; have := HC.out; omega
            by_cases f2 : ¬ xt = 0
            · have f4 : (xt != 0) = true := by rw [bne_iff_ne]; exact f2
              clear f2
              as_aux_lemma =>
                go_wp2_with fail
                go_meet
                exact ⟨_, rfl, rfl, fun h => by cases h⟩
            replace f2 := Classical.not_not.1 f2
            have F2 := Lib.hid f2
            have f4 : (xt != 0) = false := by rw [bne_eq_false_iff_eq]; exact f2
            have g1 : ¬ xt < -128 := by omega
            have g2 : ¬ 127 < xt := by omega
            clear f2
            as_aux_lemma =>
              go_wp2_with fail
              go_meet
              exact ⟨_, rfl, rfl, fun _ => by have hc := HC.out; have h8 := N0.out; have h10 := M0.out; have h11 := F2.out; exact ⟨by omega, by omega, by omega, by omega, by omega, by omega, by omega⟩⟩
          · obtain rfl : c5 = false := by rw [H5.out]; exact decide_eq_false (by omega)
            obtain rfl : c6 = true := by rw [H6.out]; exact decide_eq_true (by omega)
            obtain rfl : c7 = false := by rw [H7.out]; exact decide_eq_false (by omega)
            have HC := Lib.hid hc
            clear hc
            by_cases h4 : 0 < n
            · have h5 : (0 : Int) < (n : Int) := by omega
              as_aux_lemma =>
                go_wp2_with fail
                go_meet
                exact ⟨_, rfl, rfl, fun h => by cases h⟩
            have N0 : Hid (n = 0) := Lib.hid (by omega)
            have h5 : ¬ (0 : Int) < (n : Int) := by omega
            by_cases m1 : ¬ nm = 0
            · have m2 : (nm != 0) = true := by rw [bne_iff_ne]; exact m1
              clear m1
              as_aux_lemma =>
                go_wp2_with fail
                go_meet
                exact ⟨_, rfl, rfl, fun h => by cases h⟩
            replace m1 := Classical.not_not.1 m1
            have m2 : (nm != 0) = false := by rw [bne_eq_false_iff_eq]; exact m1
            have M0 := Lib.hid m1
            clear m1
            have f3 : (kd != 10) = false := by rw [bne_eq_false_iff_eq]; have := HC.out; omega
            by_cases g1 : xt < -128
            · as_aux_lemma =>
                go_wp2_with fail
                go_meet
                exact ⟨_, rfl, rfl, fun h => by cases h⟩
            by_cases g2 : 127 < xt
            · as_aux_lemma =>
                go_wp2_with fail
                go_meet
                exact ⟨_, rfl, rfl, fun h => by cases h⟩
            as_aux_lemma =>
              go_wp2_with fail
              go_meet
              exact ⟨_, rfl, rfl, fun _ => by have hc := HC.out; have h8 := N0.out; have h10 := M0.out; exact ⟨by omega, by omega, by omega, by omega, by omega, by omega, by omega⟩⟩
          · obtain rfl : c5 = false := by rw [H5.out]; exact decide_eq_false (by omega)
            obtain rfl : c6 = false := by rw [H6.out]; exact decide_eq_false (by omega)
            obtain rfl : c7 = true := by rw [H7.out]; exact decide_eq_true (by omega)
            have HC := Lib.hid hc
            clear hc
            by_cases h4 : 0 < n
            · have h5 : (0 : Int) < (n : Int) := by omega
              as_aux_lemma =>
                go_wp2_with fail
                go_meet
                exact ⟨_, rfl, rfl, fun h => by cases h⟩
            have N0 : Hid (n = 0) := Lib.hid (by omega)
            have h5 : ¬ (0 : Int) < (n : Int) := by omega
            by_cases T0 : ¬ tx.toList = []
            · have t0 : (tx.toList == []) = false := by simpa using T0
              as_aux_lemma =>
                go_wp2_with fail
                go_meet
                exact ⟨_, rfl, rfl, fun h => by cases h⟩
            replace T0 := Classical.not_not.1 T0
            have HT0 : Hid (tx.size = 0) := Lib.hid (size_nil T0)
            have f3 : (kd != 10) = true := by rw [bne_iff_ne]; have := HC.out; omega
            by_cases f2 : ¬ xt = 0
            · have f4 : (xt != 0) = true := by rw [bne_iff_ne]; exact f2
              clear f2
              as_aux_lemma =>
                go_wp2_with fail
                go_meet
                exact ⟨_, rfl, rfl, fun h => by cases h⟩
            replace f2 := Classical.not_not.1 f2
            have F2 := Lib.hid f2
            have f4 : (xt != 0) = false := by rw [bne_eq_false_iff_eq]; exact f2
            have g1 : ¬ xt < -128 := by omega
            have g2 : ¬ 127 < xt := by omega
            clear f2
            as_aux_lemma =>
              go_wp2_with fail
              go_meet
              exact ⟨_, rfl, rfl, fun _ => by have hc := HC.out; have h8 := N0.out; have h9 := HT0.out; have h11 := F2.out; exact ⟨by omega, by omega, by omega, by omega, by omega, by omega, by omega⟩⟩
          · obtain rfl : c5 = false := by rw [H5.out]; exact decide_eq_false (by omega)
            obtain rfl : c6 = false := by rw [H6.out]; exact decide_eq_false (by omega)
            obtain rfl : c7 = false := by rw [H7.out]; exact decide_eq_false (by omega)
            have HC := Lib.hid hc
            clear hc
            by_cases h4 : 0 < n
            · have h5 : (0 : Int) < (n : Int) := by omega
              as_aux_lemma =>
                go_wp2_with fail
                go_meet
                exact ⟨_, rfl, rfl, fun h => by cases h⟩
            have N0 : Hid (n = 0) := Lib.hid (by omega)
            have h5 : ¬ (0 : Int) < (n : Int) := by omega
            by_cases T0 : ¬ tx.toList = []
            · have t0 : (tx.toList == []) = false := by simpa using T0
              as_aux_lemma =>
                go_wp2_with fail
                go_meet
                exact ⟨_, rfl, rfl, fun h => by cases h⟩
            replace T0 := Classical.not_not.1 T0
            have HT0 : Hid (tx.size = 0) := Lib.hid (size_nil T0)
            by_cases m1 : ¬ nm = 0
            · have m2 : (nm != 0) = true := by rw [bne_iff_ne]; exact m1
              clear m1
              as_aux_lemma =>
                go_wp2_with fail
                go_meet
                exact ⟨_, rfl, rfl, fun h => by cases h⟩
            replace m1 := Classical.not_not.1 m1
            have m2 : (nm != 0) = false := by rw [bne_eq_false_iff_eq]; exact m1
            have M0 := Lib.hid m1
            clear m1
            have f3 : (kd != 10) = true := by rw [bne_iff_ne]; have := HC.out; omega
            by_cases f2 : ¬ xt = 0
            · have f4 : (xt != 0) = true := by rw [bne_iff_ne]; exact f2
              clear f2
              as_aux_lemma =>
                go_wp2_with fail
                go_meet
                exact ⟨_, rfl, rfl, fun h => by cases h⟩
            replace f2 := Classical.not_not.1 f2
            have F2 := Lib.hid f2
            have f4 : (xt != 0) = false := by rw [bne_eq_false_iff_eq]; exact f2
            have g1 : ¬ xt < -128 := by omega
            have g2 : ¬ 127 < xt := by omega
            clear f2
            as_aux_lemma =>
              go_wp2_with fail
              go_meet
              exact ⟨_, rfl, rfl, fun _ => by have hc := HC.out; have h8 := N0.out; have h9 := HT0.out; have h10 := M0.out; have h11 := F2.out; exact ⟨by omega, by omega, by omega, by omega, by omega, by omega, by omega⟩⟩
        case rest =>
          obtain ⟨bq, rfl, rfl, hq⟩ := hcut
          cases bq
          case true =>
            clear hq
            go_wp2
            go_ret
            exact ⟨false, rfl, (fun h => by cases h), HK1.out⟩
          case false =>
            have HQ := Lib.hid (hq rfl)
            have hd0 : 0 < d := (hq rfl).1
            clear hq H5 H6 H7
            have e1d : IntKind.i64.wrap (d - 1) = d - 1 := IntWalk.i64_in _ (by omega)
            go_upto_region 6 with fail
            go_cut [141] (fun s wx => ∃ b, s = .bool b ∧ W1 = wx ∧ (b = false → (kd = 1 → nm ≤ 1) ∧ (kd = 4 → nm < 4294967296) ∧ (kd = 9 → n % 2 = 0) ∧ n ≤ 2000 ∧ tx.size ≤ 131072))
            case first =>
              rcases (show kd = 1 ∨ kd = 4 ∨ kd = 9 ∨ (kd ≠ 1 ∧ kd ≠ 4 ∧ kd ≠ 9) by omega) with h1 | h1 | h1 | ⟨h1, h2, h3⟩
              · subst h1
                by_cases k1 : 1 < nm
                · as_aux_lemma =>
                    go_wp2_with fail
                    go_meet
                    exact ⟨_, rfl, rfl, fun h => by cases h⟩
                by_cases k3 : 2000 < n
                · have k4 : (2000 : Int) < (n : Int) := by omega
                  as_aux_lemma =>
                    go_wp2_with fail
                    go_meet
                    exact ⟨_, rfl, rfl, fun h => by cases h⟩
                have k4 : ¬ (2000 : Int) < (n : Int) := by omega
                by_cases k5 : 131072 < tx.size
                · have k6 : (131072 : Int) < (tx.size : Int) := by omega
                  as_aux_lemma =>
                    go_wp2_with fail
                    go_meet
                    exact ⟨_, rfl, rfl, fun h => by cases h⟩
                have k6 : ¬ (131072 : Int) < (tx.size : Int) := by omega
                as_aux_lemma =>
                  go_wp2_with fail
                  go_meet
                  exact ⟨_, rfl, rfl, fun _ => ⟨by omega, by omega, by omega, by omega, by omega⟩⟩
              · subst h1
                by_cases k1 : 4294967296 ≤ nm
                · have s1 : 0 < nm >>> 32 := by rw [Int.shiftRight_eq_div_pow]; omega
                  have s2 : 0 < nm / 4294967296 := by omega
                  as_aux_lemma =>
                    go_wp2_with fail
                    go_meet
                    exact ⟨_, rfl, rfl, fun h => by cases h⟩
                have s1 : ¬ 0 < nm >>> 32 := by rw [Int.shiftRight_eq_div_pow]; omega
                have s2 : ¬ 0 < nm / 4294967296 := by omega
                by_cases k3 : 2000 < n
                · have k4 : (2000 : Int) < (n : Int) := by omega
                  as_aux_lemma =>
                    go_wp2_with fail
                    go_meet
                    exact ⟨_, rfl, rfl, fun h => by cases h⟩
                have k4 : ¬ (2000 : Int) < (n : Int) := by omega
                by_cases k5 : 131072 < tx.size
                · have k6 : (131072 : Int) < (tx.size : Int) := by omega
                  as_aux_lemma =>
                    go_wp2_with fail
                    go_meet
                    exact ⟨_, rfl, rfl, fun h => by cases h⟩
                have k6 : ¬ (131072 : Int) < (tx.size : Int) := by omega
                as_aux_lemma =>
                  go_wp2_with fail
                  go_meet
                  exact ⟨_, rfl, rfl, fun _ => ⟨by omega, by omega, by omega, by omega, by omega⟩⟩
              · subst h1
                by_cases k1 : n % 2 = 1
                · have s1 : (n : Int).tmod 2 = 1 := by rw [Int.tmod_eq_emod_of_nonneg (by omega)]; omega
                  as_aux_lemma =>
                    go_wp2_with fail
                    go_meet
                    exact ⟨_, rfl, rfl, fun h => by cases h⟩
                have s1 : (n : Int).tmod 2 = 0 := by rw [Int.tmod_eq_emod_of_nonneg (by omega)]; omega
                by_cases k3 : 2000 < n
                · have k4 : (2000 : Int) < (n : Int) := by omega
                  as_aux_lemma =>
                    go_wp2_with fail
                    go_meet
                    exact ⟨_, rfl, rfl, fun h => by cases h⟩
                have k4 : ¬ (2000 : Int) < (n : Int) := by omega
                by_cases k5 : 131072 < tx.size
                · have k6 : (131072 : Int) < (tx.size : Int) := by omega
                  as_aux_lemma =>
                    go_wp2_with fail
                    go_meet
                    exact ⟨_, rfl, rfl, fun h => by cases h⟩
                have k6 : ¬ (131072 : Int) < (tx.size : Int) := by omega
                as_aux_lemma =>
                  go_wp2_with fail
                  go_meet
                  exact ⟨_, rfl, rfl, fun _ => ⟨by omega, by omega, by omega, by omega, by omega⟩⟩
              · have t1 : (kd == 1) = false := by simpa using h1
                have t4 : (kd == 4) = false := by simpa using h2
                have t9 : (kd == 9) = false := by simpa using h3
                by_cases k3 : 2000 < n
                · have k4 : (2000 : Int) < (n : Int) := by omega
                  as_aux_lemma =>
                    go_wp2_with fail
                    go_meet
                    exact ⟨_, rfl, rfl, fun h => by cases h⟩
                have k4 : ¬ (2000 : Int) < (n : Int) := by omega
                by_cases k5 : 131072 < tx.size
                · have k6 : (131072 : Int) < (tx.size : Int) := by omega
                  as_aux_lemma =>
                    go_wp2_with fail
                    go_meet
                    exact ⟨_, rfl, rfl, fun h => by cases h⟩
                have k6 : ¬ (131072 : Int) < (tx.size : Int) := by omega
                as_aux_lemma =>
                  go_wp2_with fail
                  go_meet
                  exact ⟨_, rfl, rfl, fun _ => ⟨by omega, by omega, by omega, by omega, by omega⟩⟩
            case rest =>
              obtain ⟨bd, rfl, rfl, HD⟩ := hcut
              cases bd
              case true =>
                go_wp2
                go_ret
                exact ⟨false, rfl, (fun h => by cases h), HK1.out⟩
              case false =>
                have HD6 := Lib.hid (HD rfl)
                have hkn9 : n ≤ 2000 := (HD rfl).2.2.2.1
                clear HD
                go_wp2_with fail
                clear a0 a1 a2 a3 a4
                go_loopw [145] (fun q w' => ∃ k : Nat, k ≤ n ∧ q = .int .i64 k ∧ Hid (Kept Nope W1 w' ∧ ∀ (i : Nat) (x : V), i < k → v.kids[i]? = some x → PFits (d - 1).toNat x)) (fun q _ => n - (RowKit.intOf q).toNat)
                case atStart => exact ⟨0, by omega, rfl, Lib.hid ⟨Kept.refl _ _, fun i x hi => by omega⟩⟩
                case round =>
                  obtain ⟨k, hk, rfl, HR⟩ := hrel
                  have HKW := Lib.hid (HK1.out.trans' HR.out.1)
                  by_cases hkn : k < n
                  · have hkn' : (k : Int) < (n : Int) := by omega
                    have hk0 : (0 : Int) ≤ (k : Int) := by omega
                    have e1 : IntKind.i64.wrap ((k : Int) + 1) = (k : Int) + 1 := IntWalk.i64_in _ (by omega)
                    obtain ⟨x, hx⟩ : ∃ u, v.kids[k]? = some u := ⟨v.kids[k]'(by rw [HL.out.1]; exact hkn), List.getElem?_eq_getElem _⟩
                    obtain ⟨b2, off2, cap2, pk', ck', q2, -, -, y0, y1, y2, y3, y4, hvx⟩ := (HKS.out.keep HKW.out (fun _ _ _ h => h)).agg hx
                    injection q2 with q2 q2m q2'
                    clear q2m
                    subst q2 q2'
                    have HX := Lib.hid (And.intro hx hvx)
                    clear hx hvx
                    go_wp2_with (go_at_call 16; go_must (refine (HI.out hd0 x (List.mem_of_getElem? HX.out.1) _ _ (HX.out.2.keep ((Kept.refl Nope _).alloc _) (fun _ _ _ h => h))).mono ?_; rintro e w1 ⟨b, rfl, hf, hk1⟩; have HF := Lib.hid hf; have H1 := Lib.hid (((Kept.refl Nope _).alloc _).trans' hk1); clear hk1 hf; rcases b))
                    · go_ret
                      exact ⟨false, rfl, (fun h => by cases h), HKW.out.trans' H1.out⟩
                    · go_roundw
                      case rel =>
                        refine ⟨k + 1, by omega, by go_num, Lib.hid ⟨HR.out.1.trans' H1.out, fun i x' hi hx' => ?_⟩⟩
                        rcases Nat.lt_or_ge i k with hlt | hge
                        · exact HR.out.2 i x' hlt hx'
                        · obtain rfl : i = k := by omega
                          have h1 := HX.out.1
                          rw [hx'] at h1
                          cases h1
                          exact HF.out trivial
                      case measure => simp [RowKit.intOf]; omega
                  · obtain rfl : k = n := by omega
                    have hlt : ¬ (k : Int) < (k : Int) := by omega
                    go_wp2
                    go_ret
                    refine ⟨true, rfl, fun _ => ?_, HKW.out⟩
                    have hQ := HQ.out
                    have hL := HL.out
                    have h6 := HD6.out
                    have hdn : d.toNat = (d - 1).toNat + 1 := by omega
                    rw [hdn]
                    refine .mk ⟨by omega, ?_, by rw [hL.2.2.2.1]; omega, by omega, by omega, by omega, by omega, by omega, by omega, by rw [hL.2.2.2.1]; omega⟩ fun x hx => ?_
                    · rcases hQ.2.2.2.1 with h | h | h
                      · exact .inl (by omega)
                      · exact .inr (.inl (by omega))
                      · exact .inr (.inr (List.eq_nil_of_length_eq_zero (by omega)))
                    · obtain ⟨i, hi⟩ := List.mem_iff_getElem?.1 hx
                      exact HR.out.2 i x (by have := (List.getElem?_eq_some_iff.1 hi).1; omega) hi
        theorem packFits_any : ∀ (n : Nat) (v : V), SizeOf.sizeOf v ≤ n → ∀ (d : Int) (W : World) (y : Value), d ≤ 1000000 → KAgg Any_ W y v → Calls Tryz.prog 16 #[y, .int .i64 d] W (FitP d v W) := by
          intro n
          induction n using Nat.strongRecOn with
          | _ n ih =>
            intro v hn d W y hd hy
            exact packFits_step v d W y hy hd (fun h0 k hk W' y' hy' => ih (SizeOf.sizeOf k) (by have := V.sizeOf_kid hk; omega) k (Nat.le_refl _) (d - 1) W' y' (by omega) hy')
end Go.Proofs.YtapfahngeaojkaaGreatDoor
