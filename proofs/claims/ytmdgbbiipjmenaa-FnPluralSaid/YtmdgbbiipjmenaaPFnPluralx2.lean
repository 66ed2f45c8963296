-- written by a program of this work
import Derived.Test.YtmdgbbiipjmenaaPFnPluralx0
namespace Go.Proofs.Ytmdgbbiipjmenaa.PFnPlural
open Go.RowKit Go.Proofs.YtmdgbbiipjmenaaW.PrintWords Go.Proofs.YtmdgbbiipjmenaaW.PrintLast Go.Proofs.YtmdgbbiipjmenaaW.PrintMore
attribute [local go_sem] max2_int min2_int max_two min_two max_three min_three max_four min_four   -- for this text's walks alone
set_option linter.unusedVariables false
set_option linter.unusedSimpArgs false

/-! ### impl_isText: function 14 -/
mutual
def impl_isText.l0 : Nat → Bool → List ByteArray → List ByteArray → Int → Int → Option (Bool)
  | 0, _, _, _, _, _ => none
  | k + 1, x0, x1, x8, x9, x10 => if x10 < x9 then (if 0 ≤ x10 then (if x10 < (x8.length : Int) then (impl_isText.l1 k x0 x1 (rdOf ByteArray.empty x8 x10) 0 x8 x9 x10) else (none)) else (none)) else (some (decide ((x1.length : Int) ≤ 20)))
def impl_isText.l1 : Nat → Bool → List ByteArray → ByteArray → Int → List ByteArray → Int → Int → Option (Bool)
  | 0, _, _, _, _, _, _, _ => none
  | k + 1, x0, x1, x6, x7, x8, x9, x10 => if x7 < (x6.size : Int) then (if x0 = true then (if 0 ≤ x7 then (if (bt x6 x7) > 127 then (some false) else (impl_isText.l1 k x0 x1 x6 (wrap64 (x7 + 1)) x8 x9 x10)) else (none)) else (impl_isText.l1 k x0 x1 x6 (wrap64 (x7 + 1)) x8 x9 x10)) else (if (x6.size : Int) > 200 then (some false) else (impl_isText.l0 k x0 x1 x8 x9 (wrap64 (x10 + 1))))
end
def impl_isText.f (k : Nat) (a0 : Bool) (l1 : List ByteArray) : Option (Bool) := impl_isText.l0 k a0 l1 l1 (l1.length : Int) 0
theorem impl_isText.mono_l : ∀ k, (∀ y0 y1 y2 y3 y4, LeO (impl_isText.l0 k y0 y1 y2 y3 y4) (impl_isText.l0 (k + 1) y0 y1 y2 y3 y4)) ∧ (∀ y0 y1 y2 y3 y4 y5 y6, LeO (impl_isText.l1 k y0 y1 y2 y3 y4 y5 y6) (impl_isText.l1 (k + 1) y0 y1 y2 y3 y4 y5 y6))
  | 0 => ⟨fun _ _ _ _ _ r h => by simp [impl_isText.l0] at h, fun _ _ _ _ _ _ _ r h => by simp [impl_isText.l1] at h⟩
  | k + 1 => by
    obtain ⟨ih0, ih1⟩ := impl_isText.mono_l k
    refine ⟨?_, ?_⟩
    · intro y0 y1 y2 y3 y4
      unfold impl_isText.l0
      repeat' first
      | (with_reducible exact ih0 _ _ _ _ _)
      | (with_reducible exact ih1 _ _ _ _ _ _ _)
      | (with_reducible exact LeO.refl _)
      | (with_reducible exact LeO.none _)
      | (with_reducible refine LeO.ite ?_ ?_)
      | (with_reducible refine LeO.bind ?_ (fun _ => ?_))
      | exact ih0 _ _ _ _ _
      | exact ih1 _ _ _ _ _ _ _
      | exact LeO.none _
      | refine LeO.ite ?_ ?_
      | refine LeO.bind ?_ (fun _ => ?_)
    · intro y0 y1 y2 y3 y4 y5 y6
      unfold impl_isText.l1
      repeat' first
      | (with_reducible exact ih0 _ _ _ _ _)
      | (with_reducible exact ih1 _ _ _ _ _ _ _)
      | (with_reducible exact LeO.refl _)
      | (with_reducible exact LeO.none _)
      | (with_reducible refine LeO.ite ?_ ?_)
      | (with_reducible refine LeO.bind ?_ (fun _ => ?_))
      | exact ih0 _ _ _ _ _
      | exact ih1 _ _ _ _ _ _ _
      | exact LeO.none _
      | refine LeO.ite ?_ ?_
      | refine LeO.bind ?_ (fun _ => ?_)
theorem impl_isText.mono : ∀ a0 a1 k, LeO (impl_isText.f k a0 a1) (impl_isText.f (k + 1) a0 a1) := by
  intro a0 a1 k
  obtain ⟨ih0, ih1⟩ := impl_isText.mono_l k
  unfold impl_isText.f
  repeat' first
      | (with_reducible exact ih0 _ _ _ _ _)
      | (with_reducible exact ih1 _ _ _ _ _ _ _)
      | (with_reducible exact LeO.refl _)
      | (with_reducible exact LeO.none _)
      | (with_reducible refine LeO.ite ?_ ?_)
      | (with_reducible refine LeO.bind ?_ (fun _ => ?_))
      | exact ih0 _ _ _ _ _
      | exact ih1 _ _ _ _ _ _ _
      | exact LeO.none _
      | refine LeO.ite ?_ ?_
      | refine LeO.bind ?_ (fun _ => ?_)
set_option maxHeartbeats 8000000 in
set_option maxRecDepth 100000 in
theorem impl_isText.calls (k : Nat) (a0 : Bool) (A1 : Option Addr) (c1 : Nat) (l1 : List ByteArray) (r : Bool) (w : World) (hr1 : Kd.C Kd.string w A1 l1.length l1) (hc1 : l1.length ≤ c1) (h : impl_isText.f k a0 l1 = some r) :
    Calls Try.prog 14 #[.bool a0, .slice A1 l1.length c1] w fun e w' => e = .returned (.bool r) ∧ Drawn0 w w' := by
  have HR1 := Aside0.mk hr1
  have HC1 := Aside0.mk hc1
  clear hr1 hc1
  have H : (impl_isText.l0 k a0 l1 l1 (l1.length : Int) 0) = some r := h
  clear h
  have H' := Aside0.mk H
  clear H
  go_enter Try.func14, Try.ntmps14
  go_wp2
  go_loopg [10] k (fun kq v10 w' => ∃ (x10_1 : Int), v10 = .int .i64 x10_1 ∧ Aside0 (impl_isText.l0 kq a0 l1 l1 (l1.length : Int) x10_1 = some r) ∧ Aside0 (kq ≤ k) ∧ Drawn0 w w')
  case atStart => exact ⟨(0), (by first | rfl | (simp; done) | (simp [*]; done)), H', ⟨Nat.le_refl _⟩, by repeat (first | exact Drawn0.refl _ | apply Drawn0.step)⟩
  case round =>
    clear H'
    try clear c1
    try clear p2
    obtain ⟨x10_1, rfl, HA, HK1, ⟨m1, rfl⟩⟩ := hrel
    cases gk with
    | zero => exact absurd HA.out (by simp [impl_isText.l0])
    | succ k1 =>
      have H := HA.out
      clear HA
      simp only [impl_isText.l0] at H
      by_cases c3 : x10_1 < (l1.length : Int)
      · rw [if_pos c3] at H
        have c3b0 : decide (x10_1 < (l1.length : Int)) = true := decide_eq_true c3
        clear c3
        by_cases c4 : 0 ≤ x10_1
        · rw [if_pos c4] at H
          have c4b0 : decide (0 ≤ x10_1) = true := decide_eq_true c4
          clear c4
          by_cases c5 : x10_1 < (l1.length : Int)
          · rw [if_pos c5] at H
            have c5b0 : decide (x10_1 < (l1.length : Int)) = true := decide_eq_true c5
            clear c5
            have H' := Aside0.mk H
            clear H
            have p109 : 0 ≤ (x10_1 : Int) := of_decide_eq_true (by first | (with_reducible assumption) | assumption)
            have q109 : x10_1 < (l1.length : Int) := of_decide_eq_true (by first | (with_reducible assumption) | assumption)
            obtain ⟨ad109, e109, hx109_0⟩ := Kd.at_string HR1.out x10_1 p109 q109
            cases e109
            replace p109 := eq_true p109
            replace q109 := eq_true q109
            go_wp2
            go_loopg [7] k1 (fun kq v7 w' => ∃ (x7_2 : Int), v7 = .int .i64 x7_2 ∧ Aside0 (impl_isText.l1 kq a0 l1 (rdOf ByteArray.empty l1 x10_1) x7_2 l1 (l1.length : Int) x10_1 = some r) ∧ Aside0 (kq ≤ k1) ∧ Drawn0 w w')
            case atStart => exact ⟨(0), (by first | rfl | (simp; done) | (simp [*]; done)), H', ⟨Nat.le_refl _⟩, by repeat (first | exact Drawn0.refl _ | apply Drawn0.step)⟩
            case round =>
              clear H'
              try clear c1
              try clear p1
              try clear q1
              try clear hx1
              try clear p2
              try clear c3
              try clear c3b0
              try clear c4
              try clear c4b0
              try clear c5
              try clear c5b0
              try clear hx109_0
              try clear p109
              try clear p2
              try clear q109
              obtain ⟨x7_2, rfl, HA, HK2, ⟨m2, rfl⟩⟩ := hrel
              cases gk with
              | zero => exact absurd HA.out (by simp [impl_isText.l1])
              | succ k2 =>
                have H := HA.out
                clear HA
                simp only [impl_isText.l1] at H
                by_cases c6 : x7_2 < ((rdOf ByteArray.empty l1 x10_1).size : Int)
                · rw [if_pos c6] at H
                  have c6b0 : decide (x7_2 < ((rdOf ByteArray.empty l1 x10_1).size : Int)) = true := decide_eq_true c6
                  clear c6
                  by_cases c7 : a0 = true
                  · subst c7
                    have H1 : (if 0 ≤ x7_2 then (if (bt (rdOf ByteArray.empty l1 x10_1) x7_2) > 127 then (some false) else (impl_isText.l1 k2 true l1 (rdOf ByteArray.empty l1 x10_1) (wrap64 (x7_2 + 1)) l1 (l1.length : Int) x10_1)) else (none)) = some r := by rw [if_pos rfl] at H; exact H
                    clear H
                    have H := H1
                    clear H1
                    by_cases c8 : 0 ≤ x7_2
                    · rw [if_pos c8] at H
                      have c8b0 : decide (0 ≤ x7_2) = true := decide_eq_true c8
                      clear c8
                      by_cases c10 : (bt (rdOf ByteArray.empty l1 x10_1) x7_2) > 127
                      · rw [if_pos c10] at H
                        have c10b0 : decide (127 < (bt (rdOf ByteArray.empty l1 x10_1) x7_2)) = true := decide_eq_true c10
                        clear c10
                        obtain rfl := Option.some.inj H
                        have p9 : 0 ≤ (x7_2 : Int) := of_decide_eq_true (by first | (with_reducible assumption) | assumption)
                        have q9 : x7_2 < ((rdOf ByteArray.empty l1 x10_1).size : Int) := of_decide_eq_true (by first | (with_reducible assumption) | assumption)
                        have hx9 := bt_at (rdOf ByteArray.empty l1 x10_1) x7_2
                        replace p9 := eq_true p9
                        replace q9 := eq_true q9
                        go_wp2
                        go_ret
                        exact ⟨by first | rfl | (simp; done) | (simp [*]; done), by repeat (first | exact Drawn0.refl _ | apply Drawn0.step)⟩
                      · rw [if_neg c10] at H
                        have c10b0 : decide (127 < (bt (rdOf ByteArray.empty l1 x10_1) x7_2)) = false := decide_eq_false c10
                        clear c10
                        have H' := Aside0.mk H
                        clear H
                        have p9 : 0 ≤ (x7_2 : Int) := of_decide_eq_true (by first | (with_reducible assumption) | assumption)
                        have q9 : x7_2 < ((rdOf ByteArray.empty l1 x10_1).size : Int) := of_decide_eq_true (by first | (with_reducible assumption) | assumption)
                        have hx9 := bt_at (rdOf ByteArray.empty l1 x10_1) x7_2
                        replace p9 := eq_true p9
                        replace q9 := eq_true q9
                        go_wp2
                        go_roundg k2
                        case measure => have := HK1.out; have := HK2.out; omega
                        case rel => exact ⟨(wrap64 (x7_2 + 1)), (by first | rfl | (simp; done) | (simp [*]; done)), H', ⟨by have := HK1.out; have := HK2.out; omega⟩, by repeat (first | exact Drawn0.refl _ | apply Drawn0.step)⟩
                    · rw [if_neg c8] at H
                      exact absurd H (by simp)
                  · replace c7 := Bool.eq_false_iff.mpr c7
                    subst c7
                    have H1 : (impl_isText.l1 k2 false l1 (rdOf ByteArray.empty l1 x10_1) (wrap64 (x7_2 + 1)) l1 (l1.length : Int) x10_1) = some r := by rw [if_neg (show ¬ (false = true) by decide)] at H; exact H
                    clear H
                    have H := H1
                    clear H1
                    have H' := Aside0.mk H
                    clear H
                    go_wp2
                    go_roundg k2
                    case measure => have := HK1.out; have := HK2.out; omega
                    case rel => exact ⟨(wrap64 (x7_2 + 1)), (by first | rfl | (simp; done) | (simp [*]; done)), H', ⟨by have := HK1.out; have := HK2.out; omega⟩, by repeat (first | exact Drawn0.refl _ | apply Drawn0.step)⟩
                · rw [if_neg c6] at H
                  have c6b0 : decide (x7_2 < ((rdOf ByteArray.empty l1 x10_1).size : Int)) = false := decide_eq_false c6
                  clear c6
                  by_cases c11 : ((rdOf ByteArray.empty l1 x10_1).size : Int) > 200
                  · rw [if_pos c11] at H
                    have c11b0 : decide (200 < ((rdOf ByteArray.empty l1 x10_1).size : Int)) = true := decide_eq_true c11
                    have c11b1 : decide (200 < (rdOf ByteArray.empty l1 x10_1).size) = true := decide_eq_true (by omega)
                    clear c11
                    obtain rfl := Option.some.inj H
                    go_wp2
                    go_ret
                    exact ⟨by first | rfl | (simp; done) | (simp [*]; done), by repeat (first | exact Drawn0.refl _ | apply Drawn0.step)⟩
                  · rw [if_neg c11] at H
                    have c11b0 : decide (200 < ((rdOf ByteArray.empty l1 x10_1).size : Int)) = false := decide_eq_false c11
                    have c11b1 : decide (200 < (rdOf ByteArray.empty l1 x10_1).size) = false := decide_eq_false (by omega)
                    clear c11
                    have H' := Aside0.mk H
                    clear H
                    go_wp2
                    go_roundg k2
                    case measure => have := HK1.out; have := HK2.out; omega
                    case rel => exact ⟨(wrap64 (x10_1 + 1)), (by first | rfl | (simp; done) | (simp [*]; done)), H', ⟨by have := HK1.out; have := HK2.out; omega⟩, by repeat (first | exact Drawn0.refl _ | apply Drawn0.step)⟩
          · rw [if_neg c5] at H
            exact absurd H (by simp)
        · rw [if_neg c4] at H
          exact absurd H (by simp)
      · rw [if_neg c3] at H
        have c3b0 : decide (x10_1 < (l1.length : Int)) = false := decide_eq_false c3
        clear c3
        obtain rfl := Option.some.inj H
        go_wp2
        go_ret
        exact ⟨by first | rfl | (simp; done) | (simp [*]; done), by repeat (first | exact Drawn0.refl _ | apply Drawn0.step)⟩

/-! ### english_specialPlurals: function 24 -/
def english_specialPlurals.f (a0 : ByteArray) : Option (ByteArray) := if a0.toList = ([105, 110, 100, 101, 120] : List UInt8) then (some (⟨#[105, 110, 100, 105, 99, 101, 115]⟩ : ByteArray)) else (if a0.toList = ([109, 97, 116, 114, 105, 120] : List UInt8) then (some (⟨#[109, 97, 116, 114, 105, 99, 101, 115]⟩ : ByteArray)) else (if a0.toList = ([118, 101, 114, 116, 101, 120] : List UInt8) then (some (⟨#[118, 101, 114, 116, 105, 99, 101, 115]⟩ : ByteArray)) else (some (⟨#[]⟩ : ByteArray))))
set_option maxHeartbeats 8000000 in
set_option maxRecDepth 100000 in
theorem english_specialPlurals.calls (a0 : ByteArray) (r : ByteArray) (w : World) (h : english_specialPlurals.f a0 = some r) :
    Calls Try.prog 24 #[.string a0] w fun e w' => e = .returned (.string r) ∧ Drawn0 w w' := by
  have H : (if a0.toList = ([105, 110, 100, 101, 120] : List UInt8) then (some (⟨#[105, 110, 100, 105, 99, 101, 115]⟩ : ByteArray)) else (if a0.toList = ([109, 97, 116, 114, 105, 120] : List UInt8) then (some (⟨#[109, 97, 116, 114, 105, 99, 101, 115]⟩ : ByteArray)) else (if a0.toList = ([118, 101, 114, 116, 101, 120] : List UInt8) then (some (⟨#[118, 101, 114, 116, 105, 99, 101, 115]⟩ : ByteArray)) else (some (⟨#[]⟩ : ByteArray))))) = some r := h
  clear h
  by_cases c2 : a0.toList = ([105, 110, 100, 101, 120] : List UInt8)
  · rw [if_pos c2] at H
    have c2b0 : (a0.toList == ([105, 110, 100, 101, 120] : List UInt8)) = true := beq_iff_eq.mpr c2
    have c2b1 : (a0.toList != ([105, 110, 100, 101, 120] : List UInt8)) = false := bne_eq_false_iff_eq.mpr c2
    clear c2
    obtain rfl := Option.some.inj H
    go_enter Try.func24, Try.ntmps24
    go_wp2
    go_ret
    exact ⟨by first | rfl | (simp; done) | (simp [*]; done), by repeat (first | exact Drawn0.refl _ | apply Drawn0.step)⟩
  · rw [if_neg c2] at H
    have c2b0 : (a0.toList == ([105, 110, 100, 101, 120] : List UInt8)) = false := beq_eq_false_iff_ne.mpr c2
    have c2b1 : (a0.toList != ([105, 110, 100, 101, 120] : List UInt8)) = true := bne_iff_ne.mpr c2
    by_cases c3 : a0.toList = ([109, 97, 116, 114, 105, 120] : List UInt8)
    · rw [if_pos c3] at H
      have c3b0 : (a0.toList == ([109, 97, 116, 114, 105, 120] : List UInt8)) = true := beq_iff_eq.mpr c3
      have c3b1 : (a0.toList != ([109, 97, 116, 114, 105, 120] : List UInt8)) = false := bne_eq_false_iff_eq.mpr c3
      clear c3
      obtain rfl := Option.some.inj H
      go_enter Try.func24, Try.ntmps24
      go_wp2
      go_ret
      exact ⟨by first | rfl | (simp; done) | (simp [*]; done), by repeat (first | exact Drawn0.refl _ | apply Drawn0.step)⟩
    · rw [if_neg c3] at H
      have c3b0 : (a0.toList == ([109, 97, 116, 114, 105, 120] : List UInt8)) = false := beq_eq_false_iff_ne.mpr c3
      have c3b1 : (a0.toList != ([109, 97, 116, 114, 105, 120] : List UInt8)) = true := bne_iff_ne.mpr c3
      by_cases c4 : a0.toList = ([118, 101, 114, 116, 101, 120] : List UInt8)
      · rw [if_pos c4] at H
        have c4b0 : (a0.toList == ([118, 101, 114, 116, 101, 120] : List UInt8)) = true := beq_iff_eq.mpr c4
        have c4b1 : (a0.toList != ([118, 101, 114, 116, 101, 120] : List UInt8)) = false := bne_eq_false_iff_eq.mpr c4
        clear c4
        obtain rfl := Option.some.inj H
        go_enter Try.func24, Try.ntmps24
        go_wp2
        go_ret
        exact ⟨by first | rfl | (simp; done) | (simp [*]; done), by repeat (first | exact Drawn0.refl _ | apply Drawn0.step)⟩
      · rw [if_neg c4] at H
        have c4b0 : (a0.toList == ([118, 101, 114, 116, 101, 120] : List UInt8)) = false := beq_eq_false_iff_ne.mpr c4
        have c4b1 : (a0.toList != ([118, 101, 114, 116, 101, 120] : List UInt8)) = true := bne_iff_ne.mpr c4
        obtain rfl := Option.some.inj H
        go_enter Try.func24, Try.ntmps24
        go_wp2
        go_ret
        exact ⟨by first | rfl | (simp; done) | (simp [*]; done), by repeat (first | exact Drawn0.refl _ | apply Drawn0.step)⟩

/-! ### english_sibilantEndings: function 25 -/
def english_sibilantEndings.f  : Option (List ByteArray) := some (([(⟨#[115]⟩ : ByteArray), (⟨#[115, 104]⟩ : ByteArray), (⟨#[116, 99, 104]⟩ : ByteArray), (⟨#[120]⟩ : ByteArray)] : List ByteArray))
set_option maxHeartbeats 8000000 in
set_option maxRecDepth 100000 in
theorem english_sibilantEndings.calls  (r : List ByteArray) (w : World) (h : english_sibilantEndings.f  = some r) :
    Calls Try.prog 25 #[] w fun e w' => ∃ v0_ : Value, e = .returned (v0_) ∧ Kd.R Kd.string 9 w' w.heap.size (fun _ => True) v0_ r ∧ Below w.heap.size w w' := by
  have HB := Aside0.mk (Below.refl w.heap.size w)
  have H : (some (([(⟨#[115]⟩ : ByteArray), (⟨#[115, 104]⟩ : ByteArray), (⟨#[116, 99, 104]⟩ : ByteArray), (⟨#[120]⟩ : ByteArray)] : List ByteArray))) = some r := h
  clear h
  obtain ⟨y110, hy110⟩ : ∃ y_ : List ByteArray, y_ = (([(⟨#[115]⟩ : ByteArray), (⟨#[115, 104]⟩ : ByteArray), (⟨#[116, 99, 104]⟩ : ByteArray), (⟨#[120]⟩ : ByteArray)] : List ByteArray)) := ⟨_, rfl⟩
  replace H : (some y110) = some r := by first | (rw [hy110]; with_reducible exact H) | (have H2_ := (Option.bind_some _ _).symm.trans H; rw [hy110]; with_reducible exact H2_) | (have H2_ := (Option.bind_some _ _).symm.trans H; with_reducible exact H2_) | with_reducible exact H | (rw [hy110]; exact H) | exact H
  have Ny110 := Aside0.mk hy110
  clear hy110
  obtain rfl := Option.some.inj H
  go_enter Try.func25, Try.ntmps25
  go_wp2_with (first | ((with_reducible refine gate_dst (N := 1) rfl ?_); refine Kd.R_lit Kd.string _ 9 ?hg (N := 1) ?hd (xs := ([(⟨#[115]⟩ : ByteArray), (⟨#[115, 104]⟩ : ByteArray), (⟨#[116, 99, 104]⟩ : ByteArray), (⟨#[120]⟩ : ByteArray)] : List ByteArray)) (inner := [.string (⟨#[115]⟩ : ByteArray), .string (⟨#[115, 104]⟩ : ByteArray), .string (⟨#[116, 99, 104]⟩ : ByteArray), .string (⟨#[120]⟩ : ByteArray)]) (ok := fun _ => True) (okp := fun _ => True) ?hr ?hp (fun _ hk => hk) trivial (Below.refl _ _) (Nat.le_refl _) (by simp) ?_; (case hd => rfl); (case hg => rfl); (case hr => first | (go_simp; done) | (go_simp; rfl)); (case hp => exact (Reps.one (show Kd.M Kd.string _ _ _ (⟨#[115]⟩ : ByteArray) [.string (⟨#[115]⟩ : ByteArray)] from rfl) (Reps.one (show Kd.M Kd.string _ _ _ (⟨#[115, 104]⟩ : ByteArray) [.string (⟨#[115, 104]⟩ : ByteArray)] from rfl) (Reps.one (show Kd.M Kd.string _ _ _ (⟨#[116, 99, 104]⟩ : ByteArray) [.string (⟨#[116, 99, 104]⟩ : ByteArray)] from rfl) (Reps.one (show Kd.M Kd.string _ _ _ (⟨#[120]⟩ : ByteArray) [.string (⟨#[120]⟩ : ByteArray)] from rfl) (Reps.none _ _)))))); intro v111 w1 ho2 hb hg_ hnew_; clear hg_ hnew_; (first | rw [← Ny110.out] at ho2 | (simp only [Int.reduceToNat] at ho2; rw [← Ny110.out] at ho2)); have n0_ := Aside0.mk (Kd.R_lower ho2 (below_size (by repeat (first | (with_reducible first | exact HB.out | apply below_alloc | apply pw_below_drewN | apply below_drew1) | exact HB.out)))); have n1_ := Aside0.mk (below_step (by repeat (first | (with_reducible first | exact HB.out | apply below_alloc | apply pw_below_drewN | apply below_drew1) | exact HB.out)) hb); clear HB; have HO112 := n0_; have HB := n1_; clear n0_ n1_; clear hb ho2))
  go_ret
  exact ⟨_, by first | rfl | (simp [errW_none, errW_some] <;> rfl) | (simp [*, errW_none, errW_some] <;> rfl), by (with_reducible repeat (first | apply Kd.R_alloc | apply Kd.R_drewN | apply Kd.R_drew)); exact HO112.out, by repeat (first | (with_reducible first | exact HB.out | apply below_alloc | apply pw_below_drewN | apply below_drew1) | exact HB.out)⟩

/-! ### english_zzEnds: function 26 -/
def english_zzEnds.f (a0 : ByteArray) (a1 : ByteArray) : Option (Bool) := if (a0.size : Int) ≥ (a1.size : Int) then (if 0 ≤ (wrap64 ((a0.size : Int) - (a1.size : Int))) then (if (wrap64 ((a0.size : Int) - (a1.size : Int))) ≤ (a0.size : Int) then (some ((a0.extract ((wrap64 ((a0.size : Int) - (a1.size : Int))) : Int).toNat a0.size).toList == a1.toList)) else (none)) else (none)) else (some false)
set_option maxHeartbeats 8000000 in
set_option maxRecDepth 100000 in
theorem english_zzEnds.calls (a0 : ByteArray) (a1 : ByteArray) (r : Bool) (w : World) (h : english_zzEnds.f a0 a1 = some r) :
    Calls Try.prog 26 #[.string a0, .string a1] w fun e w' => e = .returned (.bool r) ∧ Drawn0 w w' := by
  have H : (if (a0.size : Int) ≥ (a1.size : Int) then (if 0 ≤ (wrap64 ((a0.size : Int) - (a1.size : Int))) then (if (wrap64 ((a0.size : Int) - (a1.size : Int))) ≤ (a0.size : Int) then (some ((a0.extract ((wrap64 ((a0.size : Int) - (a1.size : Int))) : Int).toNat a0.size).toList == a1.toList)) else (none)) else (none)) else (some false)) = some r := h
  clear h
  by_cases c3 : (a0.size : Int) ≥ (a1.size : Int)
  · rw [if_pos c3] at H
    have c3b0 : decide ((a1.size : Int) ≤ (a0.size : Int)) = true := decide_eq_true c3
    have c3b1 : decide (a1.size ≤ a0.size) = true := decide_eq_true (Int.ofNat_le.mp c3)
    clear c3
    obtain ⟨ji4, hji4⟩ : ∃ j_ : Int, (wrap64 ((a0.size : Int) - (a1.size : Int))) = j_ := ⟨_, rfl⟩
    replace H : (if 0 ≤ (ji4) then (if (ji4) ≤ (a0.size : Int) then (some ((a0.extract ((ji4) : Int).toNat a0.size).toList == a1.toList)) else (none)) else (none)) = some r := by first | (rw [hji4] at H; exact H) | (simp only [hji4] at H ⊢; exact H)
    have hji4w : (IntKind.i64.wrap ((a0.size : Int) - (a1.size : Int))) = ji4 := (i64_w _).trans hji4
    by_cases c5 : 0 ≤ (ji4)
    · rw [if_pos c5] at H
      have c5b0 := eq_true c5
      have c5b1 : decide (0 ≤ (ji4)) = true := decide_eq_true c5
      clear c5
      by_cases c6 : (ji4) ≤ (a0.size : Int)
      · rw [if_pos c6] at H
        have c6b0 := eq_true c6
        have c6b1 : decide ((ji4) ≤ (a0.size : Int)) = true := decide_eq_true c6
        clear c6
        obtain rfl := Option.some.inj H
        go_enter Try.func26, Try.ntmps26
        go_wp2
        go_ret
        exact ⟨by first | rfl | (simp; done) | (simp only [← hji4] <;> (first | rfl | simp)) | (simp [*]; done), by repeat (first | exact Drawn0.refl _ | apply Drawn0.step)⟩
      · rw [if_neg c6] at H
        exact absurd H (by simp)
    · rw [if_neg c5] at H
      exact absurd H (by simp)
  · rw [if_neg c3] at H
    have c3b0 : decide ((a1.size : Int) ≤ (a0.size : Int)) = false := decide_eq_false c3
    have c3b1 : decide (a1.size ≤ a0.size) = false := decide_eq_false (fun h => c3 (Int.ofNat_le.mpr h))
    clear c3
    obtain rfl := Option.some.inj H
    go_enter Try.func26, Try.ntmps26
    go_wp2
    go_ret
    exact ⟨by first | rfl | (simp; done) | (simp [*]; done), by repeat (first | exact Drawn0.refl _ | apply Drawn0.step)⟩

/-! ### english_isVowel: function 27 -/
def english_isVowel.f (a0 : Int) : Option (Bool) := if a0 = 65 then (some true) else (if a0 = 69 then (some true) else (if a0 = 73 then (some true) else (if a0 = 79 then (some true) else (if a0 = 85 then (some true) else (if a0 = 97 then (some true) else (if a0 = 101 then (some true) else (if a0 = 105 then (some true) else (if a0 = 111 then (some true) else (if a0 = 117 then (some true) else (some false))))))))))
set_option maxHeartbeats 8000000 in
set_option maxRecDepth 100000 in
theorem english_isVowel.calls (a0 : Int) (r : Bool) (w : World) (h : english_isVowel.f a0 = some r) :
    Calls Try.prog 27 #[.int .u8 a0] w fun e w' => e = .returned (.bool r) ∧ Drawn0 w w' := by
  have H : (if a0 = 65 then (some true) else (if a0 = 69 then (some true) else (if a0 = 73 then (some true) else (if a0 = 79 then (some true) else (if a0 = 85 then (some true) else (if a0 = 97 then (some true) else (if a0 = 101 then (some true) else (if a0 = 105 then (some true) else (if a0 = 111 then (some true) else (if a0 = 117 then (some true) else (some false))))))))))) = some r := h
  clear h
  by_cases c2 : a0 = 65
  · rw [if_pos c2] at H
    have c2b0 : (a0 == 65) = true := beq_iff_eq.mpr c2
    have c2b1 : (a0 != 65) = false := bne_eq_false_iff_eq.mpr c2
    clear c2
    obtain rfl := Option.some.inj H
    go_enter Try.func27, Try.ntmps27
    go_wp2
    go_ret
    exact ⟨by first | rfl | (simp; done) | (simp [*]; done), by repeat (first | exact Drawn0.refl _ | apply Drawn0.step)⟩
  · rw [if_neg c2] at H
    have c2b0 : (a0 == 65) = false := beq_eq_false_iff_ne.mpr c2
    have c2b1 : (a0 != 65) = true := bne_iff_ne.mpr c2
    by_cases c3 : a0 = 69
    · rw [if_pos c3] at H
      have c3b0 : (a0 == 69) = true := beq_iff_eq.mpr c3
      have c3b1 : (a0 != 69) = false := bne_eq_false_iff_eq.mpr c3
      clear c3
      obtain rfl := Option.some.inj H
      go_enter Try.func27, Try.ntmps27
      go_wp2
      go_ret
      exact ⟨by first | rfl | (simp; done) | (simp [*]; done), by repeat (first | exact Drawn0.refl _ | apply Drawn0.step)⟩
    · rw [if_neg c3] at H
      have c3b0 : (a0 == 69) = false := beq_eq_false_iff_ne.mpr c3
      have c3b1 : (a0 != 69) = true := bne_iff_ne.mpr c3
      by_cases c4 : a0 = 73
      · rw [if_pos c4] at H
        have c4b0 : (a0 == 73) = true := beq_iff_eq.mpr c4
        have c4b1 : (a0 != 73) = false := bne_eq_false_iff_eq.mpr c4
        clear c4
        obtain rfl := Option.some.inj H
        go_enter Try.func27, Try.ntmps27
        go_wp2
        go_ret
        exact ⟨by first | rfl | (simp; done) | (simp [*]; done), by repeat (first | exact Drawn0.refl _ | apply Drawn0.step)⟩
      · rw [if_neg c4] at H
        have c4b0 : (a0 == 73) = false := beq_eq_false_iff_ne.mpr c4
        have c4b1 : (a0 != 73) = true := bne_iff_ne.mpr c4
        by_cases c5 : a0 = 79
        · rw [if_pos c5] at H
          have c5b0 : (a0 == 79) = true := beq_iff_eq.mpr c5
          have c5b1 : (a0 != 79) = false := bne_eq_false_iff_eq.mpr c5
          clear c5
          obtain rfl := Option.some.inj H
          go_enter Try.func27, Try.ntmps27
          go_wp2
          go_ret
          exact ⟨by first | rfl | (simp; done) | (simp [*]; done), by repeat (first | exact Drawn0.refl _ | apply Drawn0.step)⟩
        · rw [if_neg c5] at H
          have c5b0 : (a0 == 79) = false := beq_eq_false_iff_ne.mpr c5
          have c5b1 : (a0 != 79) = true := bne_iff_ne.mpr c5
          by_cases c6 : a0 = 85
          · rw [if_pos c6] at H
            have c6b0 : (a0 == 85) = true := beq_iff_eq.mpr c6
            have c6b1 : (a0 != 85) = false := bne_eq_false_iff_eq.mpr c6
            clear c6
            obtain rfl := Option.some.inj H
            go_enter Try.func27, Try.ntmps27
            go_wp2
            go_ret
            exact ⟨by first | rfl | (simp; done) | (simp [*]; done), by repeat (first | exact Drawn0.refl _ | apply Drawn0.step)⟩
          · rw [if_neg c6] at H
            have c6b0 : (a0 == 85) = false := beq_eq_false_iff_ne.mpr c6
            have c6b1 : (a0 != 85) = true := bne_iff_ne.mpr c6
            by_cases c7 : a0 = 97
            · rw [if_pos c7] at H
              have c7b0 : (a0 == 97) = true := beq_iff_eq.mpr c7
              have c7b1 : (a0 != 97) = false := bne_eq_false_iff_eq.mpr c7
              clear c7
              obtain rfl := Option.some.inj H
              go_enter Try.func27, Try.ntmps27
              go_wp2
              go_ret
              exact ⟨by first | rfl | (simp; done) | (simp [*]; done), by repeat (first | exact Drawn0.refl _ | apply Drawn0.step)⟩
            · rw [if_neg c7] at H
              have c7b0 : (a0 == 97) = false := beq_eq_false_iff_ne.mpr c7
              have c7b1 : (a0 != 97) = true := bne_iff_ne.mpr c7
              by_cases c8 : a0 = 101
              · rw [if_pos c8] at H
                have c8b0 : (a0 == 101) = true := beq_iff_eq.mpr c8
                have c8b1 : (a0 != 101) = false := bne_eq_false_iff_eq.mpr c8
                clear c8
                obtain rfl := Option.some.inj H
                go_enter Try.func27, Try.ntmps27
                go_wp2
                go_ret
                exact ⟨by first | rfl | (simp; done) | (simp [*]; done), by repeat (first | exact Drawn0.refl _ | apply Drawn0.step)⟩
              · rw [if_neg c8] at H
                have c8b0 : (a0 == 101) = false := beq_eq_false_iff_ne.mpr c8
                have c8b1 : (a0 != 101) = true := bne_iff_ne.mpr c8
                by_cases c9 : a0 = 105
                · rw [if_pos c9] at H
                  have c9b0 : (a0 == 105) = true := beq_iff_eq.mpr c9
                  have c9b1 : (a0 != 105) = false := bne_eq_false_iff_eq.mpr c9
                  clear c9
                  obtain rfl := Option.some.inj H
                  go_enter Try.func27, Try.ntmps27
                  go_wp2
                  go_ret
                  exact ⟨by first | rfl | (simp; done) | (simp [*]; done), by repeat (first | exact Drawn0.refl _ | apply Drawn0.step)⟩
                · rw [if_neg c9] at H
                  have c9b0 : (a0 == 105) = false := beq_eq_false_iff_ne.mpr c9
                  have c9b1 : (a0 != 105) = true := bne_iff_ne.mpr c9
                  by_cases c10 : a0 = 111
                  · rw [if_pos c10] at H
                    have c10b0 : (a0 == 111) = true := beq_iff_eq.mpr c10
                    have c10b1 : (a0 != 111) = false := bne_eq_false_iff_eq.mpr c10
                    clear c10
                    obtain rfl := Option.some.inj H
                    go_enter Try.func27, Try.ntmps27
                    go_wp2
                    go_ret
                    exact ⟨by first | rfl | (simp; done) | (simp [*]; done), by repeat (first | exact Drawn0.refl _ | apply Drawn0.step)⟩
                  · rw [if_neg c10] at H
                    have c10b0 : (a0 == 111) = false := beq_eq_false_iff_ne.mpr c10
                    have c10b1 : (a0 != 111) = true := bne_iff_ne.mpr c10
                    by_cases c11 : a0 = 117
                    · rw [if_pos c11] at H
                      have c11b0 : (a0 == 117) = true := beq_iff_eq.mpr c11
                      have c11b1 : (a0 != 117) = false := bne_eq_false_iff_eq.mpr c11
                      clear c11
                      obtain rfl := Option.some.inj H
                      go_enter Try.func27, Try.ntmps27
                      go_wp2
                      go_ret
                      exact ⟨by first | rfl | (simp; done) | (simp [*]; done), by repeat (first | exact Drawn0.refl _ | apply Drawn0.step)⟩
                    · rw [if_neg c11] at H
                      have c11b0 : (a0 == 117) = false := beq_eq_false_iff_ne.mpr c11
                      have c11b1 : (a0 != 117) = true := bne_iff_ne.mpr c11
                      obtain rfl := Option.some.inj H
                      go_enter Try.func27, Try.ntmps27
                      go_wp2
                      go_ret
                      exact ⟨by first | rfl | (simp; done) | (simp [*]; done), by repeat (first | exact Drawn0.refl _ | apply Drawn0.step)⟩

end Go.Proofs.Ytmdgbbiipjmenaa.PFnPlural
