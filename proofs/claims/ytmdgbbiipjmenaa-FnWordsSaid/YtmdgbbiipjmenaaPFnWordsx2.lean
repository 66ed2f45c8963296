-- written by a program of this work
import Derived.Test.YtmdgbbiipjmenaaPFnWordsx0
import Derived.Test.YtmdgbbiipjmenaaPFnWordsx1
namespace Go.Proofs.Ytmdgbbiipjmenaa.PFnWords
open Go.RowKit Go.Proofs.YtmdgbbiipjmenaaW.PrintWords Go.Proofs.YtmdgbbiipjmenaaW.PrintLast Go.Proofs.YtmdgbbiipjmenaaW.PrintMore
attribute [local go_sem] max2_int min2_int max_two min_two max_three min_three max_four min_four   -- for this text's walks alone
set_option linter.unusedVariables false
set_option linter.unusedSimpArgs false

/-! ### spec_Series: function 8 -/
def spec_Series.l0 : Nat → List ByteArray → ByteArray → Bool → ByteArray → List ByteArray → Int → Int → Option (ByteArray)
  | 0, _, _, _, _, _, _, _ => none
  | k + 1, x0, x1, x2, x7, x36, x37, x38 => if x38 < x37 then (if 0 ≤ x38 then (if x38 < (x36.length : Int) then (if x38 > 0 then (if x7.size + 2 ≤ 9223372036854775807 then (if (x7 ++ (⟨#[44, 32]⟩ : ByteArray)).size + (rdOf ByteArray.empty x36 x38).size ≤ 9223372036854775807 then (spec_Series.l0 k x0 x1 x2 ((x7 ++ (⟨#[44, 32]⟩ : ByteArray)) ++ (rdOf ByteArray.empty x36 x38)) x36 x37 (wrap64 (x38 + 1))) else (none)) else (none)) else (if x7.size + (rdOf ByteArray.empty x36 x38).size ≤ 9223372036854775807 then (spec_Series.l0 k x0 x1 x2 (x7 ++ (rdOf ByteArray.empty x36 x38)) x36 x37 (wrap64 (x38 + 1))) else (none))) else (none)) else (none)) else (if x2 = true then (if x7.size + 1 ≤ 9223372036854775807 then (if (x7 ++ (⟨#[44]⟩ : ByteArray)).size + 1 ≤ 9223372036854775807 then (if ((x7 ++ (⟨#[44]⟩ : ByteArray)) ++ (⟨#[32]⟩ : ByteArray)).size + x1.size ≤ 9223372036854775807 then (if (((x7 ++ (⟨#[44]⟩ : ByteArray)) ++ (⟨#[32]⟩ : ByteArray)) ++ x1).size + 1 ≤ 9223372036854775807 then (if 0 ≤ (wrap64 ((x0.length : Int) - 1)) then (if (wrap64 ((x0.length : Int) - 1)) < (x0.length : Int) then (if ((((x7 ++ (⟨#[44]⟩ : ByteArray)) ++ (⟨#[32]⟩ : ByteArray)) ++ x1) ++ (⟨#[32]⟩ : ByteArray)).size + (rdOf ByteArray.empty x0 (wrap64 ((x0.length : Int) - 1))).size ≤ 9223372036854775807 then (some (((((x7 ++ (⟨#[44]⟩ : ByteArray)) ++ (⟨#[32]⟩ : ByteArray)) ++ x1) ++ (⟨#[32]⟩ : ByteArray)) ++ (rdOf ByteArray.empty x0 (wrap64 ((x0.length : Int) - 1))))) else (none)) else (none)) else (none)) else (none)) else (none)) else (none)) else (none)) else (if x7.size + 1 ≤ 9223372036854775807 then (if (x7 ++ (⟨#[32]⟩ : ByteArray)).size + x1.size ≤ 9223372036854775807 then (if ((x7 ++ (⟨#[32]⟩ : ByteArray)) ++ x1).size + 1 ≤ 9223372036854775807 then (if 0 ≤ (wrap64 ((x0.length : Int) - 1)) then (if (wrap64 ((x0.length : Int) - 1)) < (x0.length : Int) then (if (((x7 ++ (⟨#[32]⟩ : ByteArray)) ++ x1) ++ (⟨#[32]⟩ : ByteArray)).size + (rdOf ByteArray.empty x0 (wrap64 ((x0.length : Int) - 1))).size ≤ 9223372036854775807 then (some ((((x7 ++ (⟨#[32]⟩ : ByteArray)) ++ x1) ++ (⟨#[32]⟩ : ByteArray)) ++ (rdOf ByteArray.empty x0 (wrap64 ((x0.length : Int) - 1))))) else (none)) else (none)) else (none)) else (none)) else (none)) else (none)))
def spec_Series.f (k : Nat) (l0 : List ByteArray) (a1 : ByteArray) (a2 : Bool) : Option (ByteArray) := if (l0.length : Int) = 0 then (some (⟨#[]⟩ : ByteArray)) else (if (l0.length : Int) = 1 then (if 0 < (l0.length : Int) then (some (rdOf ByteArray.empty l0 0)) else (none)) else (if (l0.length : Int) = 2 then (if 0 < (l0.length : Int) then (if (rdOf ByteArray.empty l0 0).size + 1 ≤ 9223372036854775807 then (if ((rdOf ByteArray.empty l0 0) ++ (⟨#[32]⟩ : ByteArray)).size + a1.size ≤ 9223372036854775807 then (if (((rdOf ByteArray.empty l0 0) ++ (⟨#[32]⟩ : ByteArray)) ++ a1).size + 1 ≤ 9223372036854775807 then (if 1 < (l0.length : Int) then (if ((((rdOf ByteArray.empty l0 0) ++ (⟨#[32]⟩ : ByteArray)) ++ a1) ++ (⟨#[32]⟩ : ByteArray)).size + (rdOf ByteArray.empty l0 1).size ≤ 9223372036854775807 then (some (((((rdOf ByteArray.empty l0 0) ++ (⟨#[32]⟩ : ByteArray)) ++ a1) ++ (⟨#[32]⟩ : ByteArray)) ++ (rdOf ByteArray.empty l0 1))) else (none)) else (none)) else (none)) else (none)) else (none)) else (none)) else (if 0 ≤ (wrap64 ((l0.length : Int) - 1)) then (if (wrap64 ((l0.length : Int) - 1)) ≤ (l0.length : Int) then (spec_Series.l0 k l0 a1 a2 (⟨#[]⟩ : ByteArray) (l0.take ((wrap64 ((l0.length : Int) - 1)) : Int).toNat) ((l0.take ((wrap64 ((l0.length : Int) - 1)) : Int).toNat).length : Int) 0) else (none)) else (none))))
theorem spec_Series.mono_l : ∀ k, (∀ y0 y1 y2 y3 y4 y5 y6, LeO (spec_Series.l0 k y0 y1 y2 y3 y4 y5 y6) (spec_Series.l0 (k + 1) y0 y1 y2 y3 y4 y5 y6))
  | 0 => fun _ _ _ _ _ _ _ r h => by simp [spec_Series.l0] at h
  | k + 1 => by
    have ih0 := spec_Series.mono_l k
    · intro y0 y1 y2 y3 y4 y5 y6
      unfold spec_Series.l0
      repeat' first
      | (with_reducible exact ih0 _ _ _ _ _ _ _)
      | (with_reducible exact LeO.refl _)
      | (with_reducible exact LeO.none _)
      | (with_reducible refine LeO.ite ?_ ?_)
      | (with_reducible refine LeO.bind ?_ (fun _ => ?_))
      | exact ih0 _ _ _ _ _ _ _
      | exact LeO.none _
      | refine LeO.ite ?_ ?_
      | refine LeO.bind ?_ (fun _ => ?_)
theorem spec_Series.mono : ∀ a0 a1 a2 k, LeO (spec_Series.f k a0 a1 a2) (spec_Series.f (k + 1) a0 a1 a2) := by
  intro a0 a1 a2 k
  have ih0 := spec_Series.mono_l k
  unfold spec_Series.f
  repeat' first
      | (with_reducible exact ih0 _ _ _ _ _ _ _)
      | (with_reducible exact LeO.refl _)
      | (with_reducible exact LeO.none _)
      | (with_reducible refine LeO.ite ?_ ?_)
      | (with_reducible refine LeO.bind ?_ (fun _ => ?_))
      | exact ih0 _ _ _ _ _ _ _
      | exact LeO.none _
      | refine LeO.ite ?_ ?_
      | refine LeO.bind ?_ (fun _ => ?_)
set_option maxHeartbeats 8000000 in
set_option maxRecDepth 100000 in
theorem spec_Series.calls (k : Nat) (A0 : Option Addr) (c0 : Nat) (l0 : List ByteArray) (a1 : ByteArray) (a2 : Bool) (r : ByteArray) (w : World) (hr0 : Kd.C Kd.string w A0 l0.length l0) (hc0 : l0.length ≤ c0) (h : spec_Series.f k l0 a1 a2 = some r) :
    Calls Try.prog 8 #[.slice A0 l0.length c0, .string a1, .bool a2] w fun e w' => e = .returned (.string r) ∧ Drawn0 w w' := by
  have HR0 := Aside0.mk hr0
  have HC0 := Aside0.mk hc0
  clear hr0 hc0
  have H : (if (l0.length : Int) = 0 then (some (⟨#[]⟩ : ByteArray)) else (if (l0.length : Int) = 1 then (if 0 < (l0.length : Int) then (some (rdOf ByteArray.empty l0 0)) else (none)) else (if (l0.length : Int) = 2 then (if 0 < (l0.length : Int) then (if (rdOf ByteArray.empty l0 0).size + 1 ≤ 9223372036854775807 then (if ((rdOf ByteArray.empty l0 0) ++ (⟨#[32]⟩ : ByteArray)).size + a1.size ≤ 9223372036854775807 then (if (((rdOf ByteArray.empty l0 0) ++ (⟨#[32]⟩ : ByteArray)) ++ a1).size + 1 ≤ 9223372036854775807 then (if 1 < (l0.length : Int) then (if ((((rdOf ByteArray.empty l0 0) ++ (⟨#[32]⟩ : ByteArray)) ++ a1) ++ (⟨#[32]⟩ : ByteArray)).size + (rdOf ByteArray.empty l0 1).size ≤ 9223372036854775807 then (some (((((rdOf ByteArray.empty l0 0) ++ (⟨#[32]⟩ : ByteArray)) ++ a1) ++ (⟨#[32]⟩ : ByteArray)) ++ (rdOf ByteArray.empty l0 1))) else (none)) else (none)) else (none)) else (none)) else (none)) else (none)) else (if 0 ≤ (wrap64 ((l0.length : Int) - 1)) then (if (wrap64 ((l0.length : Int) - 1)) ≤ (l0.length : Int) then (spec_Series.l0 k l0 a1 a2 (⟨#[]⟩ : ByteArray) (l0.take ((wrap64 ((l0.length : Int) - 1)) : Int).toNat) ((l0.take ((wrap64 ((l0.length : Int) - 1)) : Int).toNat).length : Int) 0) else (none)) else (none))))) = some r := h
  clear h
  by_cases c4 : (l0.length : Int) = 0
  · rw [if_pos c4] at H
    have c4b0 : ((l0.length : Int) == 0) = true := beq_iff_eq.mpr c4
    have c4b1 : ((l0.length : Int) != 0) = false := bne_eq_false_iff_eq.mpr c4
    clear c4
    obtain rfl := Option.some.inj H
    go_enter Try.func8, Try.ntmps8
    go_wp2
    repeat (go_quiet (fail); try go_wp2)
    go_ret
    exact ⟨by first | rfl | (simp; done) | (simp [*]; done), by repeat (first | exact Drawn0.refl _ | apply Drawn0.step)⟩
  · rw [if_neg c4] at H
    have c4b0 : ((l0.length : Int) == 0) = false := beq_eq_false_iff_ne.mpr c4
    have c4b1 : ((l0.length : Int) != 0) = true := bne_iff_ne.mpr c4
    have c4b2 : ¬ (l0 = []) := fun h_ => c4 (by rw [h_]; rfl)
    by_cases c5 : (l0.length : Int) = 1
    · rw [if_pos c5] at H
      have c5b0 : ((l0.length : Int) == 1) = true := beq_iff_eq.mpr c5
      have c5b1 : ((l0.length : Int) != 1) = false := bne_eq_false_iff_eq.mpr c5
      clear c5
      by_cases c6 : 0 < (l0.length : Int)
      · rw [if_pos c6] at H
        have c6b0 : decide (0 < (l0.length : Int)) = true := decide_eq_true c6
        have c6b1 : decide (0 < l0.length) = true := decide_eq_true (by omega)
        clear c6
        obtain rfl := Option.some.inj H
        have p117 : 0 ≤ (0 : Int) := (by omega)
        have q117 : 0 < (l0.length : Int) := of_decide_eq_true (by first | (with_reducible assumption) | assumption)
        obtain ⟨ad117, e117, hx117_0⟩ := Kd.at_string HR0.out 0 p117 q117
        cases e117
        have qi117 : (0 < l0.length) = True := eq_true (by omega)
        (try rw [show ((0 : Int)).toNat = 0 from rfl] at hx117_0)
        (try rw [Addr.add_zero'] at hx117_0)
        replace p117 := eq_true p117
        replace q117 := eq_true q117
        go_enter Try.func8, Try.ntmps8
        go_wp2
        repeat (go_quiet (fail); try go_wp2)
        go_ret
        exact ⟨by first | rfl | (simp; done) | (simp [*]; done), by repeat (first | exact Drawn0.refl _ | apply Drawn0.step)⟩
      · rw [if_neg c6] at H
        exact absurd H (by simp)
    · rw [if_neg c5] at H
      have c5b0 : ((l0.length : Int) == 1) = false := beq_eq_false_iff_ne.mpr c5
      have c5b1 : ((l0.length : Int) != 1) = true := bne_iff_ne.mpr c5
      by_cases c7 : (l0.length : Int) = 2
      · rw [if_pos c7] at H
        have c7b0 : ((l0.length : Int) == 2) = true := beq_iff_eq.mpr c7
        have c7b1 : ((l0.length : Int) != 2) = false := bne_eq_false_iff_eq.mpr c7
        clear c7
        by_cases c8 : 0 < (l0.length : Int)
        · rw [if_pos c8] at H
          have c8b0 : decide (0 < (l0.length : Int)) = true := decide_eq_true c8
          have c8b1 : decide (0 < l0.length) = true := decide_eq_true (by omega)
          clear c8
          by_cases c9 : (rdOf ByteArray.empty l0 0).size + 1 ≤ 9223372036854775807
          · rw [if_pos c9] at H
            have c9b0 := eq_true c9
            have c9b1 : decide ((rdOf ByteArray.empty l0 0).size + 1 ≤ 9223372036854775807) = true := decide_eq_true c9
            try have c9b2 : (9223372036854775807 < (rdOf ByteArray.empty l0 0).size + 1) = False := eq_false (Nat.not_lt.2 c9)
            by_cases c10 : ((rdOf ByteArray.empty l0 0) ++ (⟨#[32]⟩ : ByteArray)).size + a1.size ≤ 9223372036854775807
            · rw [if_pos c10] at H
              have c10b0 := eq_true c10
              have c10b1 : decide (((rdOf ByteArray.empty l0 0) ++ (⟨#[32]⟩ : ByteArray)).size + a1.size ≤ 9223372036854775807) = true := decide_eq_true c10
              try have c10b2 : (9223372036854775807 < ((rdOf ByteArray.empty l0 0) ++ (⟨#[32]⟩ : ByteArray)).size + a1.size) = False := eq_false (Nat.not_lt.2 c10)
              try have c10n0 : (9223372036854775807 < (rdOf ByteArray.empty l0 0).size + 1 + a1.size) = False := eq_false (by have h_ := c10; have _e0 : (⟨#[32]⟩ : ByteArray).size = 1 := rfl; (try simp only [ByteArray.size_append] at h_); omega)
              by_cases c11 : (((rdOf ByteArray.empty l0 0) ++ (⟨#[32]⟩ : ByteArray)) ++ a1).size + 1 ≤ 9223372036854775807
              · rw [if_pos c11] at H
                have c11b0 := eq_true c11
                have c11b1 : decide ((((rdOf ByteArray.empty l0 0) ++ (⟨#[32]⟩ : ByteArray)) ++ a1).size + 1 ≤ 9223372036854775807) = true := decide_eq_true c11
                try have c11b2 : (9223372036854775807 < (((rdOf ByteArray.empty l0 0) ++ (⟨#[32]⟩ : ByteArray)) ++ a1).size + 1) = False := eq_false (Nat.not_lt.2 c11)
                try have c11n0 : (9223372036854775807 < (rdOf ByteArray.empty l0 0).size + 1 + a1.size + 1) = False := eq_false (by have h_ := c11; have _e0 : (⟨#[32]⟩ : ByteArray).size = 1 := rfl; (try simp only [ByteArray.size_append] at h_); omega)
                by_cases c12 : 1 < (l0.length : Int)
                · rw [if_pos c12] at H
                  have c12b0 : decide (1 < (l0.length : Int)) = true := decide_eq_true c12
                  have c12b1 : decide (1 < l0.length) = true := decide_eq_true (by omega)
                  clear c12
                  by_cases c13 : ((((rdOf ByteArray.empty l0 0) ++ (⟨#[32]⟩ : ByteArray)) ++ a1) ++ (⟨#[32]⟩ : ByteArray)).size + (rdOf ByteArray.empty l0 1).size ≤ 9223372036854775807
                  · rw [if_pos c13] at H
                    have c13b0 := eq_true c13
                    have c13b1 : decide (((((rdOf ByteArray.empty l0 0) ++ (⟨#[32]⟩ : ByteArray)) ++ a1) ++ (⟨#[32]⟩ : ByteArray)).size + (rdOf ByteArray.empty l0 1).size ≤ 9223372036854775807) = true := decide_eq_true c13
                    try have c13b2 : (9223372036854775807 < ((((rdOf ByteArray.empty l0 0) ++ (⟨#[32]⟩ : ByteArray)) ++ a1) ++ (⟨#[32]⟩ : ByteArray)).size + (rdOf ByteArray.empty l0 1).size) = False := eq_false (Nat.not_lt.2 c13)
                    try have c13n0 : (9223372036854775807 < (rdOf ByteArray.empty l0 0).size + 1 + a1.size + 1 + (rdOf ByteArray.empty l0 1).size) = False := eq_false (by have h_ := c13; have _e0 : (⟨#[32]⟩ : ByteArray).size = 1 := rfl; (try simp only [ByteArray.size_append] at h_); omega)
                    obtain rfl := Option.some.inj H
                    have p118 : 0 ≤ (0 : Int) := (by omega)
                    have q118 : 0 < (l0.length : Int) := of_decide_eq_true (by first | (with_reducible assumption) | assumption)
                    obtain ⟨ad118, e118, hx118_0⟩ := Kd.at_string HR0.out 0 p118 q118
                    cases e118
                    have qi118 : (0 < l0.length) = True := eq_true (by omega)
                    (try rw [show ((0 : Int)).toNat = 0 from rfl] at hx118_0)
                    (try rw [Addr.add_zero'] at hx118_0)
                    replace p118 := eq_true p118
                    replace q118 := eq_true q118
                    have p119 : 0 ≤ (1 : Int) := (by omega)
                    have q119 : 1 < (l0.length : Int) := of_decide_eq_true (by first | (with_reducible assumption) | assumption)
                    obtain ⟨ad119, e119, hx119_0⟩ := Kd.at_string HR0.out 1 p119 q119
                    obtain rfl : ad118 = ad119 := (by injection e119)
                    (try simp only [show (1 : Int).toNat = 1 from rfl, Nat.reduceMul, Nat.reduceEqDiff, Go.Addr.add, ↓reduceIte] at hx119_0)
                    have qi119 : (1 < l0.length) = True := eq_true (by omega)
                    (try rw [show ((1 : Int)).toNat = 1 from rfl] at hx119_0)
                    replace p119 := eq_true p119
                    replace q119 := eq_true q119
                    go_enter Try.func8, Try.ntmps8
                    go_wp2
                    repeat (go_quiet (fail); try go_wp2)
                    go_ret
                    exact ⟨by first | rfl | (simp; done) | (simp [*]; done), by repeat (first | exact Drawn0.refl _ | apply Drawn0.step)⟩
                  · rw [if_neg c13] at H
                    exact absurd H (by simp)
                · rw [if_neg c12] at H
                  exact absurd H (by simp)
              · rw [if_neg c11] at H
                exact absurd H (by simp)
            · rw [if_neg c10] at H
              exact absurd H (by simp)
          · rw [if_neg c9] at H
            exact absurd H (by simp)
        · rw [if_neg c8] at H
          exact absurd H (by simp)
      · rw [if_neg c7] at H
        have c7b0 : ((l0.length : Int) == 2) = false := beq_eq_false_iff_ne.mpr c7
        have c7b1 : ((l0.length : Int) != 2) = true := bne_iff_ne.mpr c7
        obtain ⟨ji14, hji14⟩ : ∃ j_ : Int, (wrap64 ((l0.length : Int) - 1)) = j_ := ⟨_, rfl⟩
        replace H : (if 0 ≤ (ji14) then (if (ji14) ≤ (l0.length : Int) then (spec_Series.l0 k l0 a1 a2 (⟨#[]⟩ : ByteArray) (l0.take ((ji14) : Int).toNat) ((l0.take ((ji14) : Int).toNat).length : Int) 0) else (none)) else (none)) = some r := by first | (rw [hji14] at H; exact H) | (simp only [hji14] at H ⊢; exact H)
        have hji14w : (IntKind.i64.wrap ((l0.length : Int) - 1)) = ji14 := (i64_w _).trans hji14
        by_cases c15 : 0 ≤ (ji14)
        · rw [if_pos c15] at H
          have c15b0 := eq_true c15
          have c15b1 : decide (0 ≤ (ji14)) = true := decide_eq_true c15
          clear c15
          by_cases c16 : (ji14) ≤ (l0.length : Int)
          · rw [if_pos c16] at H
            have c16b0 := eq_true c16
            have c16b1 : decide ((ji14) ≤ (l0.length : Int)) = true := decide_eq_true c16
            clear c16
            have H' := Aside0.mk H
            clear H
            obtain ⟨i017, hi017, _, hsz17, _⟩ := info_parts info9
            obtain ⟨hcut17, hA17, hC17⟩ := print_take_of (P := Try.prog) Value.string (⟨#[]⟩ : ByteArray) 24 9 .i64 Try.underlying24 hi017 hsz17 A0 c0 l0 (ji14) (of_decide_eq_true (by first | (with_reducible assumption) | assumption)) (of_decide_eq_true (by first | (with_reducible assumption) | assumption)) HC0.out
            have HR120 := Aside0.mk (Kd.C_of_reads (h1 := fun _ => rfl) (hA17 _ (Kd.reads_of_C HR0.out)))
            have HC120 := Aside0.mk hC17
            clear hA17 hC17 hi017 hsz17
            generalize htk17 : l0.take ((ji14) : Int).toNat = tk17 at *
            have Htk17 := Lib.hid htk17; clear htk17
            go_enter Try.func8, Try.ntmps8
            go_wp2
            repeat (go_quiet (fail); try go_wp2)
            go_loopg [7, 38] k (fun kq v7 v38 w' => ∃ (x7_1 : ByteArray) (x38_1 : Int), v7 = .string x7_1 ∧ v38 = .int .i64 x38_1 ∧ Aside0 (spec_Series.l0 kq l0 a1 a2 x7_1 tk17 (tk17.length : Int) x38_1 = some r) ∧ Aside0 (kq ≤ k) ∧ Drawn0 w w')
            case atStart => exact ⟨((⟨#[]⟩ : ByteArray)), (0), (by first | rfl | (simp; done) | (simp [*]; done)), (by first | rfl | (simp; done) | (simp [*]; done)), H', ⟨Nat.le_refl _⟩, by repeat (first | exact Drawn0.refl _ | apply Drawn0.step)⟩
            case round =>
              clear H'
              try clear c1
              try clear p1
              try clear q1
              try clear hx1
              try clear qi1
              try clear p2
              try clear c4
              try clear c4b0
              try clear c4b1
              try clear c4b2
              try clear c5
              try clear c5b0
              try clear c5b1
              try clear c6
              try clear c6b0
              try clear c6b1
              try clear p6
              try clear c7
              try clear c7b0
              try clear c7b1
              try clear c8
              try clear c8b0
              try clear c8b1
              try clear c9
              try clear c9b0
              try clear c9b1
              try clear c9b2
              try clear c10
              try clear c10b0
              try clear c10b1
              try clear c10b2
              try clear c11
              try clear c11b0
              try clear c11b1
              try clear c11b2
              try clear p11
              try clear q11
              try clear hx11
              try clear qi11
              try clear c12
              try clear c12b0
              try clear c12b1
              try clear c13
              try clear c13b0
              try clear c13b1
              try clear c13b2
              try clear c15
              try clear c15b0
              try clear c15b1
              try clear c16
              try clear c16b0
              try clear c16b1
              try clear hx117_0
              try clear hx118_0
              try clear hx119_0
              try clear p117
              try clear p118
              try clear p119
              try clear q117
              try clear q118
              try clear q119
              obtain ⟨x7_1, x38_1, rfl, rfl, HA, HK1, ⟨m1, rfl⟩⟩ := hrel
              cases gk with
              | zero => exact absurd HA.out (by simp [spec_Series.l0])
              | succ k1 =>
                have H := HA.out
                clear HA
                simp only [spec_Series.l0] at H
                by_cases c18 : x38_1 < (tk17.length : Int)
                · rw [if_pos c18] at H
                  have c18b0 : decide (x38_1 < (tk17.length : Int)) = true := decide_eq_true c18
                  clear c18
                  by_cases c19 : 0 ≤ x38_1
                  · rw [if_pos c19] at H
                    have c19b0 : decide (0 ≤ x38_1) = true := decide_eq_true c19
                    clear c19
                    by_cases c20 : x38_1 < (tk17.length : Int)
                    · rw [if_pos c20] at H
                      have c20b0 : decide (x38_1 < (tk17.length : Int)) = true := decide_eq_true c20
                      clear c20
                      by_cases c21 : x38_1 > 0
                      · rw [if_pos c21] at H
                        have c21b0 : decide (0 < x38_1) = true := decide_eq_true c21
                        clear c21
                        by_cases c22 : x7_1.size + 2 ≤ 9223372036854775807
                        · rw [if_pos c22] at H
                          have c22b0 := eq_true c22
                          have c22b1 : decide (x7_1.size + 2 ≤ 9223372036854775807) = true := decide_eq_true c22
                          try have c22b2 : (9223372036854775807 < x7_1.size + 2) = False := eq_false (Nat.not_lt.2 c22)
                          by_cases c23 : (x7_1 ++ (⟨#[44, 32]⟩ : ByteArray)).size + (rdOf ByteArray.empty tk17 x38_1).size ≤ 9223372036854775807
                          · rw [if_pos c23] at H
                            have c23b0 := eq_true c23
                            have c23b1 : decide ((x7_1 ++ (⟨#[44, 32]⟩ : ByteArray)).size + (rdOf ByteArray.empty tk17 x38_1).size ≤ 9223372036854775807) = true := decide_eq_true c23
                            try have c23b2 : (9223372036854775807 < (x7_1 ++ (⟨#[44, 32]⟩ : ByteArray)).size + (rdOf ByteArray.empty tk17 x38_1).size) = False := eq_false (Nat.not_lt.2 c23)
                            try have c23n0 : (9223372036854775807 < x7_1.size + 2 + (rdOf ByteArray.empty tk17 x38_1).size) = False := eq_false (by have h_ := c23; have _e0 : (⟨#[44, 32]⟩ : ByteArray).size = 2 := rfl; (try simp only [ByteArray.size_append] at h_); omega)
                            have H' := Aside0.mk H
                            clear H
                            have p121 : 0 ≤ (x38_1 : Int) := of_decide_eq_true (by first | (with_reducible assumption) | assumption)
                            have q121 : x38_1 < (tk17.length : Int) := of_decide_eq_true (by first | (with_reducible assumption) | assumption)
                            obtain ⟨ad121, e121, hx121_0⟩ := Kd.at_string HR120.out x38_1 p121 q121
                            cases e121
                            replace p121 := eq_true p121
                            replace q121 := eq_true q121
                            go_wp2
                            repeat (go_quiet (fail); try go_wp2)
                            go_roundg k1
                            case measure => have := HK1.out; omega
                            case rel => exact ⟨((x7_1 ++ (⟨#[44, 32]⟩ : ByteArray)) ++ (rdOf ByteArray.empty tk17 x38_1)), (wrap64 (x38_1 + 1)), (by first | rfl | (simp; done) | (simp only [← hji14] <;> (first | rfl | simp)) | (simp [*]; done)), (by first | rfl | (simp; done) | (simp [*]; done)), H', ⟨by have := HK1.out; omega⟩, by repeat (first | exact Drawn0.refl _ | apply Drawn0.step)⟩
                          · rw [if_neg c23] at H
                            exact absurd H (by simp)
                        · rw [if_neg c22] at H
                          exact absurd H (by simp)
                      · rw [if_neg c21] at H
                        have c21b0 : decide (0 < x38_1) = false := decide_eq_false c21
                        clear c21
                        by_cases c24 : x7_1.size + (rdOf ByteArray.empty tk17 x38_1).size ≤ 9223372036854775807
                        · rw [if_pos c24] at H
                          have c24b0 := eq_true c24
                          have c24b1 : decide (x7_1.size + (rdOf ByteArray.empty tk17 x38_1).size ≤ 9223372036854775807) = true := decide_eq_true c24
                          try have c24b2 : (9223372036854775807 < x7_1.size + (rdOf ByteArray.empty tk17 x38_1).size) = False := eq_false (Nat.not_lt.2 c24)
                          have H' := Aside0.mk H
                          clear H
                          have p121 : 0 ≤ (x38_1 : Int) := of_decide_eq_true (by first | (with_reducible assumption) | assumption)
                          have q121 : x38_1 < (tk17.length : Int) := of_decide_eq_true (by first | (with_reducible assumption) | assumption)
                          obtain ⟨ad121, e121, hx121_0⟩ := Kd.at_string HR120.out x38_1 p121 q121
                          cases e121
                          replace p121 := eq_true p121
                          replace q121 := eq_true q121
                          go_wp2
                          repeat (go_quiet (fail); try go_wp2)
                          go_roundg k1
                          case measure => have := HK1.out; omega
                          case rel => exact ⟨(x7_1 ++ (rdOf ByteArray.empty tk17 x38_1)), (wrap64 (x38_1 + 1)), (by first | rfl | (simp; done) | (simp only [← hji14] <;> (first | rfl | simp)) | (simp [*]; done)), (by first | rfl | (simp; done) | (simp [*]; done)), H', ⟨by have := HK1.out; omega⟩, by repeat (first | exact Drawn0.refl _ | apply Drawn0.step)⟩
                        · rw [if_neg c24] at H
                          exact absurd H (by simp)
                    · rw [if_neg c20] at H
                      exact absurd H (by simp)
                  · rw [if_neg c19] at H
                    exact absurd H (by simp)
                · rw [if_neg c18] at H
                  have c18b0 : decide (x38_1 < (tk17.length : Int)) = false := decide_eq_false c18
                  clear c18
                  by_cases c25 : a2 = true
                  · subst c25
                    have H1 : (if x7_1.size + 1 ≤ 9223372036854775807 then (if (x7_1 ++ (⟨#[44]⟩ : ByteArray)).size + 1 ≤ 9223372036854775807 then (if ((x7_1 ++ (⟨#[44]⟩ : ByteArray)) ++ (⟨#[32]⟩ : ByteArray)).size + a1.size ≤ 9223372036854775807 then (if (((x7_1 ++ (⟨#[44]⟩ : ByteArray)) ++ (⟨#[32]⟩ : ByteArray)) ++ a1).size + 1 ≤ 9223372036854775807 then (if 0 ≤ (wrap64 ((l0.length : Int) - 1)) then (if (wrap64 ((l0.length : Int) - 1)) < (l0.length : Int) then (if ((((x7_1 ++ (⟨#[44]⟩ : ByteArray)) ++ (⟨#[32]⟩ : ByteArray)) ++ a1) ++ (⟨#[32]⟩ : ByteArray)).size + (rdOf ByteArray.empty l0 (wrap64 ((l0.length : Int) - 1))).size ≤ 9223372036854775807 then (some (((((x7_1 ++ (⟨#[44]⟩ : ByteArray)) ++ (⟨#[32]⟩ : ByteArray)) ++ a1) ++ (⟨#[32]⟩ : ByteArray)) ++ (rdOf ByteArray.empty l0 (wrap64 ((l0.length : Int) - 1))))) else (none)) else (none)) else (none)) else (none)) else (none)) else (none)) else (none)) = some r := by rw [if_pos rfl] at H; exact H
                    clear H
                    have H := H1
                    clear H1
                    by_cases c26 : x7_1.size + 1 ≤ 9223372036854775807
                    · rw [if_pos c26] at H
                      have c26b0 := eq_true c26
                      have c26b1 : decide (x7_1.size + 1 ≤ 9223372036854775807) = true := decide_eq_true c26
                      try have c26b2 : (9223372036854775807 < x7_1.size + 1) = False := eq_false (Nat.not_lt.2 c26)
                      by_cases c27 : (x7_1 ++ (⟨#[44]⟩ : ByteArray)).size + 1 ≤ 9223372036854775807
                      · rw [if_pos c27] at H
                        have c27b0 := eq_true c27
                        have c27b1 : decide ((x7_1 ++ (⟨#[44]⟩ : ByteArray)).size + 1 ≤ 9223372036854775807) = true := decide_eq_true c27
                        try have c27b2 : (9223372036854775807 < (x7_1 ++ (⟨#[44]⟩ : ByteArray)).size + 1) = False := eq_false (Nat.not_lt.2 c27)
                        try have c27n0 : (9223372036854775807 < x7_1.size + 1 + 1) = False := eq_false (by have h_ := c27; have _e0 : (⟨#[44]⟩ : ByteArray).size = 1 := rfl; (try simp only [ByteArray.size_append] at h_); omega)
                        try have c27n1 : (9223372036854775807 < x7_1.size + 2) = False := eq_false (by have h_ := c27; have _e0 : (⟨#[44]⟩ : ByteArray).size = 1 := rfl; (try simp only [ByteArray.size_append] at h_); omega)
                        by_cases c28 : ((x7_1 ++ (⟨#[44]⟩ : ByteArray)) ++ (⟨#[32]⟩ : ByteArray)).size + a1.size ≤ 9223372036854775807
                        · rw [if_pos c28] at H
                          have c28b0 := eq_true c28
                          have c28b1 : decide (((x7_1 ++ (⟨#[44]⟩ : ByteArray)) ++ (⟨#[32]⟩ : ByteArray)).size + a1.size ≤ 9223372036854775807) = true := decide_eq_true c28
                          try have c28b2 : (9223372036854775807 < ((x7_1 ++ (⟨#[44]⟩ : ByteArray)) ++ (⟨#[32]⟩ : ByteArray)).size + a1.size) = False := eq_false (Nat.not_lt.2 c28)
                          try have c28n0 : (9223372036854775807 < x7_1.size + 1 + 1 + a1.size) = False := eq_false (by have h_ := c28; have _e0 : (⟨#[44]⟩ : ByteArray).size = 1 := rfl; have _e1 : (⟨#[32]⟩ : ByteArray).size = 1 := rfl; (try simp only [ByteArray.size_append] at h_); omega)
                          try have c28n1 : (9223372036854775807 < x7_1.size + 2 + a1.size) = False := eq_false (by have h_ := c28; have _e0 : (⟨#[44]⟩ : ByteArray).size = 1 := rfl; have _e1 : (⟨#[32]⟩ : ByteArray).size = 1 := rfl; (try simp only [ByteArray.size_append] at h_); omega)
                          by_cases c29 : (((x7_1 ++ (⟨#[44]⟩ : ByteArray)) ++ (⟨#[32]⟩ : ByteArray)) ++ a1).size + 1 ≤ 9223372036854775807
                          · rw [if_pos c29] at H
                            have c29b0 := eq_true c29
                            have c29b1 : decide ((((x7_1 ++ (⟨#[44]⟩ : ByteArray)) ++ (⟨#[32]⟩ : ByteArray)) ++ a1).size + 1 ≤ 9223372036854775807) = true := decide_eq_true c29
                            try have c29b2 : (9223372036854775807 < (((x7_1 ++ (⟨#[44]⟩ : ByteArray)) ++ (⟨#[32]⟩ : ByteArray)) ++ a1).size + 1) = False := eq_false (Nat.not_lt.2 c29)
                            try have c29n0 : (9223372036854775807 < x7_1.size + 1 + 1 + a1.size + 1) = False := eq_false (by have h_ := c29; have _e0 : (⟨#[44]⟩ : ByteArray).size = 1 := rfl; have _e1 : (⟨#[32]⟩ : ByteArray).size = 1 := rfl; (try simp only [ByteArray.size_append] at h_); omega)
                            try have c29n1 : (9223372036854775807 < x7_1.size + 2 + a1.size + 1) = False := eq_false (by have h_ := c29; have _e0 : (⟨#[44]⟩ : ByteArray).size = 1 := rfl; have _e1 : (⟨#[32]⟩ : ByteArray).size = 1 := rfl; (try simp only [ByteArray.size_append] at h_); omega)
                            replace H : (if 0 ≤ (ji14) then (if (ji14) < (l0.length : Int) then (if ((((x7_1 ++ (⟨#[44]⟩ : ByteArray)) ++ (⟨#[32]⟩ : ByteArray)) ++ a1) ++ (⟨#[32]⟩ : ByteArray)).size + (rdOf ByteArray.empty l0 (ji14)).size ≤ 9223372036854775807 then (some (((((x7_1 ++ (⟨#[44]⟩ : ByteArray)) ++ (⟨#[32]⟩ : ByteArray)) ++ a1) ++ (⟨#[32]⟩ : ByteArray)) ++ (rdOf ByteArray.empty l0 (ji14)))) else (none)) else (none)) else (none)) = some r := by first | (rw [hji14] at H; exact H) | (simp only [hji14] at H ⊢; exact H)
                            by_cases c31 : 0 ≤ (ji14)
                            · rw [if_pos c31] at H
                              have c31b0 : decide (0 ≤ (ji14)) = true := decide_eq_true c31
                              clear c31
                              by_cases c32 : (ji14) < (l0.length : Int)
                              · rw [if_pos c32] at H
                                have c32b0 : decide ((ji14) < (l0.length : Int)) = true := decide_eq_true c32
                                clear c32
                                by_cases c33 : ((((x7_1 ++ (⟨#[44]⟩ : ByteArray)) ++ (⟨#[32]⟩ : ByteArray)) ++ a1) ++ (⟨#[32]⟩ : ByteArray)).size + (rdOf ByteArray.empty l0 (ji14)).size ≤ 9223372036854775807
                                · rw [if_pos c33] at H
                                  have c33b0 := eq_true c33
                                  have c33b1 : decide (((((x7_1 ++ (⟨#[44]⟩ : ByteArray)) ++ (⟨#[32]⟩ : ByteArray)) ++ a1) ++ (⟨#[32]⟩ : ByteArray)).size + (rdOf ByteArray.empty l0 (ji14)).size ≤ 9223372036854775807) = true := decide_eq_true c33
                                  try have c33b2 : (9223372036854775807 < ((((x7_1 ++ (⟨#[44]⟩ : ByteArray)) ++ (⟨#[32]⟩ : ByteArray)) ++ a1) ++ (⟨#[32]⟩ : ByteArray)).size + (rdOf ByteArray.empty l0 (ji14)).size) = False := eq_false (Nat.not_lt.2 c33)
                                  try have c33n0 : (9223372036854775807 < x7_1.size + 1 + 1 + a1.size + 1 + (rdOf ByteArray.empty l0 (ji14)).size) = False := eq_false (by have h_ := c33; have _e0 : (⟨#[44]⟩ : ByteArray).size = 1 := rfl; have _e1 : (⟨#[32]⟩ : ByteArray).size = 1 := rfl; (try simp only [ByteArray.size_append] at h_); omega)
                                  try have c33n1 : (9223372036854775807 < x7_1.size + 2 + a1.size + 1 + (rdOf ByteArray.empty l0 (ji14)).size) = False := eq_false (by have h_ := c33; have _e0 : (⟨#[44]⟩ : ByteArray).size = 1 := rfl; have _e1 : (⟨#[32]⟩ : ByteArray).size = 1 := rfl; (try simp only [ByteArray.size_append] at h_); omega)
                                  obtain rfl := Option.some.inj H
                                  have p122 : 0 ≤ ((ji14) : Int) := of_decide_eq_true (by first | (with_reducible assumption) | assumption)
                                  have q122 : (ji14) < (l0.length : Int) := of_decide_eq_true (by first | (with_reducible assumption) | assumption)
                                  obtain ⟨ad122, e122, hx122_0⟩ := Kd.at_string HR0.out (ji14) p122 q122
                                  cases e122
                                  replace p122 := eq_true p122
                                  replace q122 := eq_true q122
                                  go_wp2
                                  repeat (go_quiet (fail); try go_wp2)
                                  go_ret
                                  exact ⟨by first | rfl | (simp; done) | (simp only [← hji14, ← hji14] <;> (first | rfl | simp)) | (simp [*]; done), by repeat (first | exact Drawn0.refl _ | apply Drawn0.step)⟩
                                · rw [if_neg c33] at H
                                  exact absurd H (by simp)
                              · rw [if_neg c32] at H
                                exact absurd H (by simp)
                            · rw [if_neg c31] at H
                              exact absurd H (by simp)
                          · rw [if_neg c29] at H
                            exact absurd H (by simp)
                        · rw [if_neg c28] at H
                          exact absurd H (by simp)
                      · rw [if_neg c27] at H
                        exact absurd H (by simp)
                    · rw [if_neg c26] at H
                      exact absurd H (by simp)
                  · replace c25 := Bool.eq_false_iff.mpr c25
                    subst c25
                    have H1 : (if x7_1.size + 1 ≤ 9223372036854775807 then (if (x7_1 ++ (⟨#[32]⟩ : ByteArray)).size + a1.size ≤ 9223372036854775807 then (if ((x7_1 ++ (⟨#[32]⟩ : ByteArray)) ++ a1).size + 1 ≤ 9223372036854775807 then (if 0 ≤ (wrap64 ((l0.length : Int) - 1)) then (if (wrap64 ((l0.length : Int) - 1)) < (l0.length : Int) then (if (((x7_1 ++ (⟨#[32]⟩ : ByteArray)) ++ a1) ++ (⟨#[32]⟩ : ByteArray)).size + (rdOf ByteArray.empty l0 (wrap64 ((l0.length : Int) - 1))).size ≤ 9223372036854775807 then (some ((((x7_1 ++ (⟨#[32]⟩ : ByteArray)) ++ a1) ++ (⟨#[32]⟩ : ByteArray)) ++ (rdOf ByteArray.empty l0 (wrap64 ((l0.length : Int) - 1))))) else (none)) else (none)) else (none)) else (none)) else (none)) else (none)) = some r := by rw [if_neg (show ¬ (false = true) by decide)] at H; exact H
                    clear H
                    have H := H1
                    clear H1
                    by_cases c34 : x7_1.size + 1 ≤ 9223372036854775807
                    · rw [if_pos c34] at H
                      have c34b0 := eq_true c34
                      have c34b1 : decide (x7_1.size + 1 ≤ 9223372036854775807) = true := decide_eq_true c34
                      try have c34b2 : (9223372036854775807 < x7_1.size + 1) = False := eq_false (Nat.not_lt.2 c34)
                      by_cases c35 : (x7_1 ++ (⟨#[32]⟩ : ByteArray)).size + a1.size ≤ 9223372036854775807
                      · rw [if_pos c35] at H
                        have c35b0 := eq_true c35
                        have c35b1 : decide ((x7_1 ++ (⟨#[32]⟩ : ByteArray)).size + a1.size ≤ 9223372036854775807) = true := decide_eq_true c35
                        try have c35b2 : (9223372036854775807 < (x7_1 ++ (⟨#[32]⟩ : ByteArray)).size + a1.size) = False := eq_false (Nat.not_lt.2 c35)
                        try have c35n0 : (9223372036854775807 < x7_1.size + 1 + a1.size) = False := eq_false (by have h_ := c35; have _e0 : (⟨#[32]⟩ : ByteArray).size = 1 := rfl; (try simp only [ByteArray.size_append] at h_); omega)
                        by_cases c36 : ((x7_1 ++ (⟨#[32]⟩ : ByteArray)) ++ a1).size + 1 ≤ 9223372036854775807
                        · rw [if_pos c36] at H
                          have c36b0 := eq_true c36
                          have c36b1 : decide (((x7_1 ++ (⟨#[32]⟩ : ByteArray)) ++ a1).size + 1 ≤ 9223372036854775807) = true := decide_eq_true c36
                          try have c36b2 : (9223372036854775807 < ((x7_1 ++ (⟨#[32]⟩ : ByteArray)) ++ a1).size + 1) = False := eq_false (Nat.not_lt.2 c36)
                          try have c36n0 : (9223372036854775807 < x7_1.size + 1 + a1.size + 1) = False := eq_false (by have h_ := c36; have _e0 : (⟨#[32]⟩ : ByteArray).size = 1 := rfl; (try simp only [ByteArray.size_append] at h_); omega)
                          replace H : (if 0 ≤ (ji14) then (if (ji14) < (l0.length : Int) then (if (((x7_1 ++ (⟨#[32]⟩ : ByteArray)) ++ a1) ++ (⟨#[32]⟩ : ByteArray)).size + (rdOf ByteArray.empty l0 (ji14)).size ≤ 9223372036854775807 then (some ((((x7_1 ++ (⟨#[32]⟩ : ByteArray)) ++ a1) ++ (⟨#[32]⟩ : ByteArray)) ++ (rdOf ByteArray.empty l0 (ji14)))) else (none)) else (none)) else (none)) = some r := by first | (rw [hji14] at H; exact H) | (simp only [hji14] at H ⊢; exact H)
                          by_cases c38 : 0 ≤ (ji14)
                          · rw [if_pos c38] at H
                            have c38b0 : decide (0 ≤ (ji14)) = true := decide_eq_true c38
                            clear c38
                            by_cases c39 : (ji14) < (l0.length : Int)
                            · rw [if_pos c39] at H
                              have c39b0 : decide ((ji14) < (l0.length : Int)) = true := decide_eq_true c39
                              clear c39
                              by_cases c40 : (((x7_1 ++ (⟨#[32]⟩ : ByteArray)) ++ a1) ++ (⟨#[32]⟩ : ByteArray)).size + (rdOf ByteArray.empty l0 (ji14)).size ≤ 9223372036854775807
                              · rw [if_pos c40] at H
                                have c40b0 := eq_true c40
                                have c40b1 : decide ((((x7_1 ++ (⟨#[32]⟩ : ByteArray)) ++ a1) ++ (⟨#[32]⟩ : ByteArray)).size + (rdOf ByteArray.empty l0 (ji14)).size ≤ 9223372036854775807) = true := decide_eq_true c40
                                try have c40b2 : (9223372036854775807 < (((x7_1 ++ (⟨#[32]⟩ : ByteArray)) ++ a1) ++ (⟨#[32]⟩ : ByteArray)).size + (rdOf ByteArray.empty l0 (ji14)).size) = False := eq_false (Nat.not_lt.2 c40)
                                try have c40n0 : (9223372036854775807 < x7_1.size + 1 + a1.size + 1 + (rdOf ByteArray.empty l0 (ji14)).size) = False := eq_false (by have h_ := c40; have _e0 : (⟨#[32]⟩ : ByteArray).size = 1 := rfl; (try simp only [ByteArray.size_append] at h_); omega)
                                obtain rfl := Option.some.inj H
                                have p123 : 0 ≤ ((ji14) : Int) := of_decide_eq_true (by first | (with_reducible assumption) | assumption)
                                have q123 : (ji14) < (l0.length : Int) := of_decide_eq_true (by first | (with_reducible assumption) | assumption)
                                obtain ⟨ad123, e123, hx123_0⟩ := Kd.at_string HR0.out (ji14) p123 q123
                                cases e123
                                replace p123 := eq_true p123
                                replace q123 := eq_true q123
                                go_wp2
                                repeat (go_quiet (fail); try go_wp2)
                                go_ret
                                exact ⟨by first | rfl | (simp; done) | (simp only [← hji14, ← hji14] <;> (first | rfl | simp)) | (simp [*]; done), by repeat (first | exact Drawn0.refl _ | apply Drawn0.step)⟩
                              · rw [if_neg c40] at H
                                exact absurd H (by simp)
                            · rw [if_neg c39] at H
                              exact absurd H (by simp)
                          · rw [if_neg c38] at H
                            exact absurd H (by simp)
                        · rw [if_neg c36] at H
                          exact absurd H (by simp)
                      · rw [if_neg c35] at H
                        exact absurd H (by simp)
                    · rw [if_neg c34] at H
                      exact absurd H (by simp)
          · rw [if_neg c16] at H
            exact absurd H (by simp)
        · rw [if_neg c15] at H
          exact absurd H (by simp)

/-! ### english_OxfordWordSeries: function 16 -/
def english_OxfordWordSeries.f (k : Nat) (l0 : List ByteArray) (a1 : ByteArray) : Option (ByteArray) := if (l0.length : Int) = 0 then (some (⟨#[]⟩ : ByteArray)) else (if (l0.length : Int) = 1 then (if 0 < (l0.length : Int) then (some (rdOf ByteArray.empty l0 0)) else (none)) else (if (l0.length : Int) = 2 then (if 1 + a1.size ≤ 9223372036854775807 then (if ((⟨#[32]⟩ : ByteArray) ++ a1).size + 1 ≤ 9223372036854775807 then ((english_zzJoin.f k l0 (((⟨#[32]⟩ : ByteArray) ++ a1) ++ (⟨#[32]⟩ : ByteArray))).bind fun t125 => (some t125)) else (none)) else (none)) else (if 0 ≤ (wrap64 ((l0.length : Int) - 1)) then (if (wrap64 ((l0.length : Int) - 1)) ≤ (l0.length : Int) then ((english_zzJoin.f k (l0.take ((wrap64 ((l0.length : Int) - 1)) : Int).toNat) (⟨#[44, 32]⟩ : ByteArray)).bind fun t127 => (if t127.size + 2 ≤ 9223372036854775807 then (if (t127 ++ (⟨#[44, 32]⟩ : ByteArray)).size + a1.size ≤ 9223372036854775807 then (if ((t127 ++ (⟨#[44, 32]⟩ : ByteArray)) ++ a1).size + 1 ≤ 9223372036854775807 then (if (wrap64 ((l0.length : Int) - 1)) < (l0.length : Int) then (if (((t127 ++ (⟨#[44, 32]⟩ : ByteArray)) ++ a1) ++ (⟨#[32]⟩ : ByteArray)).size + (rdOf ByteArray.empty l0 (wrap64 ((l0.length : Int) - 1))).size ≤ 9223372036854775807 then (some ((((t127 ++ (⟨#[44, 32]⟩ : ByteArray)) ++ a1) ++ (⟨#[32]⟩ : ByteArray)) ++ (rdOf ByteArray.empty l0 (wrap64 ((l0.length : Int) - 1))))) else (none)) else (none)) else (none)) else (none)) else (none))) else (none)) else (none))))
theorem english_OxfordWordSeries.mono : ∀ a0 a1 k, LeO (english_OxfordWordSeries.f k a0 a1) (english_OxfordWordSeries.f (k + 1) a0 a1) := by
  intro a0 a1 k
  unfold english_OxfordWordSeries.f
  repeat' first
      | (with_reducible exact english_zzJoin.mono _ _ _)
      | (with_reducible exact LeO.refl _)
      | (with_reducible exact LeO.none _)
      | (with_reducible refine LeO.ite ?_ ?_)
      | (with_reducible refine LeO.bind ?_ (fun _ => ?_))
      | exact english_zzJoin.mono _ _ _
      | exact LeO.none _
      | refine LeO.ite ?_ ?_
      | refine LeO.bind ?_ (fun _ => ?_)
set_option maxHeartbeats 8000000 in
set_option maxRecDepth 100000 in
theorem english_OxfordWordSeries.calls (k : Nat) (A0 : Option Addr) (c0 : Nat) (l0 : List ByteArray) (a1 : ByteArray) (r : ByteArray) (w : World) (hr0 : Kd.C Kd.string w A0 l0.length l0) (hc0 : l0.length ≤ c0) (h : english_OxfordWordSeries.f k l0 a1 = some r) :
    Calls Try.prog 16 #[.slice A0 l0.length c0, .string a1] w fun e w' => e = .returned (.string r) ∧ Drawn0 w w' := by
  have HR0 := Aside0.mk hr0
  have HC0 := Aside0.mk hc0
  clear hr0 hc0
  have H : (if (l0.length : Int) = 0 then (some (⟨#[]⟩ : ByteArray)) else (if (l0.length : Int) = 1 then (if 0 < (l0.length : Int) then (some (rdOf ByteArray.empty l0 0)) else (none)) else (if (l0.length : Int) = 2 then (if 1 + a1.size ≤ 9223372036854775807 then (if ((⟨#[32]⟩ : ByteArray) ++ a1).size + 1 ≤ 9223372036854775807 then ((english_zzJoin.f k l0 (((⟨#[32]⟩ : ByteArray) ++ a1) ++ (⟨#[32]⟩ : ByteArray))).bind fun t125 => (some t125)) else (none)) else (none)) else (if 0 ≤ (wrap64 ((l0.length : Int) - 1)) then (if (wrap64 ((l0.length : Int) - 1)) ≤ (l0.length : Int) then ((english_zzJoin.f k (l0.take ((wrap64 ((l0.length : Int) - 1)) : Int).toNat) (⟨#[44, 32]⟩ : ByteArray)).bind fun t127 => (if t127.size + 2 ≤ 9223372036854775807 then (if (t127 ++ (⟨#[44, 32]⟩ : ByteArray)).size + a1.size ≤ 9223372036854775807 then (if ((t127 ++ (⟨#[44, 32]⟩ : ByteArray)) ++ a1).size + 1 ≤ 9223372036854775807 then (if (wrap64 ((l0.length : Int) - 1)) < (l0.length : Int) then (if (((t127 ++ (⟨#[44, 32]⟩ : ByteArray)) ++ a1) ++ (⟨#[32]⟩ : ByteArray)).size + (rdOf ByteArray.empty l0 (wrap64 ((l0.length : Int) - 1))).size ≤ 9223372036854775807 then (some ((((t127 ++ (⟨#[44, 32]⟩ : ByteArray)) ++ a1) ++ (⟨#[32]⟩ : ByteArray)) ++ (rdOf ByteArray.empty l0 (wrap64 ((l0.length : Int) - 1))))) else (none)) else (none)) else (none)) else (none)) else (none))) else (none)) else (none))))) = some r := h
  clear h
  by_cases c3 : (l0.length : Int) = 0
  · rw [if_pos c3] at H
    have c3b0 : ((l0.length : Int) == 0) = true := beq_iff_eq.mpr c3
    have c3b1 : ((l0.length : Int) != 0) = false := bne_eq_false_iff_eq.mpr c3
    clear c3
    obtain rfl := Option.some.inj H
    go_enter Try.func16, Try.ntmps16
    go_wp2
    repeat (go_quiet (fail); try go_wp2)
    go_ret
    exact ⟨by first | rfl | (simp; done) | (simp [*]; done), by repeat (first | exact Drawn0.refl _ | apply Drawn0.step)⟩
  · rw [if_neg c3] at H
    have c3b0 : ((l0.length : Int) == 0) = false := beq_eq_false_iff_ne.mpr c3
    have c3b1 : ((l0.length : Int) != 0) = true := bne_iff_ne.mpr c3
    have c3b2 : ¬ (l0 = []) := fun h_ => c3 (by rw [h_]; rfl)
    by_cases c4 : (l0.length : Int) = 1
    · rw [if_pos c4] at H
      have c4b0 : ((l0.length : Int) == 1) = true := beq_iff_eq.mpr c4
      have c4b1 : ((l0.length : Int) != 1) = false := bne_eq_false_iff_eq.mpr c4
      clear c4
      by_cases c5 : 0 < (l0.length : Int)
      · rw [if_pos c5] at H
        have c5b0 : decide (0 < (l0.length : Int)) = true := decide_eq_true c5
        have c5b1 : decide (0 < l0.length) = true := decide_eq_true (by omega)
        clear c5
        obtain rfl := Option.some.inj H
        have p124 : 0 ≤ (0 : Int) := (by omega)
        have q124 : 0 < (l0.length : Int) := of_decide_eq_true (by first | (with_reducible assumption) | assumption)
        obtain ⟨ad124, e124, hx124_0⟩ := Kd.at_string HR0.out 0 p124 q124
        cases e124
        have qi124 : (0 < l0.length) = True := eq_true (by omega)
        (try rw [show ((0 : Int)).toNat = 0 from rfl] at hx124_0)
        (try rw [Addr.add_zero'] at hx124_0)
        replace p124 := eq_true p124
        replace q124 := eq_true q124
        go_enter Try.func16, Try.ntmps16
        go_wp2
        repeat (go_quiet (fail); try go_wp2)
        go_ret
        exact ⟨by first | rfl | (simp; done) | (simp [*]; done), by repeat (first | exact Drawn0.refl _ | apply Drawn0.step)⟩
      · rw [if_neg c5] at H
        exact absurd H (by simp)
    · rw [if_neg c4] at H
      have c4b0 : ((l0.length : Int) == 1) = false := beq_eq_false_iff_ne.mpr c4
      have c4b1 : ((l0.length : Int) != 1) = true := bne_iff_ne.mpr c4
      by_cases c6 : (l0.length : Int) = 2
      · rw [if_pos c6] at H
        have c6b0 : ((l0.length : Int) == 2) = true := beq_iff_eq.mpr c6
        have c6b1 : ((l0.length : Int) != 2) = false := bne_eq_false_iff_eq.mpr c6
        clear c6
        by_cases c7 : 1 + a1.size ≤ 9223372036854775807
        · rw [if_pos c7] at H
          have c7b0 := eq_true c7
          have c7b1 : decide (1 + a1.size ≤ 9223372036854775807) = true := decide_eq_true c7
          try have c7b2 : (9223372036854775807 < 1 + a1.size) = False := eq_false (Nat.not_lt.2 c7)
          by_cases c8 : ((⟨#[32]⟩ : ByteArray) ++ a1).size + 1 ≤ 9223372036854775807
          · rw [if_pos c8] at H
            have c8b0 := eq_true c8
            have c8b1 : decide (((⟨#[32]⟩ : ByteArray) ++ a1).size + 1 ≤ 9223372036854775807) = true := decide_eq_true c8
            try have c8b2 : (9223372036854775807 < ((⟨#[32]⟩ : ByteArray) ++ a1).size + 1) = False := eq_false (Nat.not_lt.2 c8)
            try have c8n0 : (9223372036854775807 < 1 + a1.size + 1) = False := eq_false (by have h_ := c8; have _e0 : (⟨#[32]⟩ : ByteArray).size = 1 := rfl; (try simp only [ByteArray.size_append] at h_); omega)
            replace H := Option.bind_eq_some_iff.mp H
            obtain ⟨t125, A90, H⟩ := H
            replace H : (some t125) = some r := H
            have A9 := Aside0.mk A90
            clear A90
            obtain rfl := Option.some.inj H
            go_enter Try.func16, Try.ntmps16
            go_wp2_with (first | (go_at_call 23; (with_reducible refine (english_zzJoin.calls k _ _ l0 (((⟨#[32]⟩ : ByteArray) ++ a1) ++ (⟨#[32]⟩ : ByteArray)) t125 _ ?side1 ?side2 A9.out).mono ?_); (case side1 => repeat (first | exact HR0.out | (with_reducible refine Kd.C_alloc ?_ _) | (with_reducible refine Kd.C_drewN ?_ _) | (with_reducible refine Kd.C_drew ?_))); (case side2 => exact HC0.out); rintro e w' ⟨rfl, ⟨nd, rfl⟩⟩; (try first | exact ⟨rfl, _, World.drewN_drewN _ _ _⟩ | exact ⟨rfl, _, Eq.trans (World.drewN_drewN _ _ _) (congrArg (World.drewN _) (Nat.add_assoc _ _ _))⟩)))
            repeat (go_quiet (first | (go_at_call 23; (with_reducible refine (english_zzJoin.calls k _ _ l0 (((⟨#[32]⟩ : ByteArray) ++ a1) ++ (⟨#[32]⟩ : ByteArray)) t125 _ ?side1 ?side2 A9.out).mono ?_); (case side1 => repeat (first | exact HR0.out | (with_reducible refine Kd.C_alloc ?_ _) | (with_reducible refine Kd.C_drewN ?_ _) | (with_reducible refine Kd.C_drew ?_))); (case side2 => exact HC0.out); rintro e w' ⟨rfl, ⟨nd, rfl⟩⟩; (try first | exact ⟨rfl, _, World.drewN_drewN _ _ _⟩ | exact ⟨rfl, _, Eq.trans (World.drewN_drewN _ _ _) (congrArg (World.drewN _) (Nat.add_assoc _ _ _))⟩))); try go_wp2_with (first | (go_at_call 23; (with_reducible refine (english_zzJoin.calls k _ _ l0 (((⟨#[32]⟩ : ByteArray) ++ a1) ++ (⟨#[32]⟩ : ByteArray)) t125 _ ?side1 ?side2 A9.out).mono ?_); (case side1 => repeat (first | exact HR0.out | (with_reducible refine Kd.C_alloc ?_ _) | (with_reducible refine Kd.C_drewN ?_ _) | (with_reducible refine Kd.C_drew ?_))); (case side2 => exact HC0.out); rintro e w' ⟨rfl, ⟨nd, rfl⟩⟩; (try first | exact ⟨rfl, _, World.drewN_drewN _ _ _⟩ | exact ⟨rfl, _, Eq.trans (World.drewN_drewN _ _ _) (congrArg (World.drewN _) (Nat.add_assoc _ _ _))⟩))))
            go_ret
            exact ⟨by first | rfl | (simp; done) | (simp [*]; done), by repeat (first | exact Drawn0.refl _ | apply Drawn0.step)⟩
          · rw [if_neg c8] at H
            exact absurd H (by simp)
        · rw [if_neg c7] at H
          exact absurd H (by simp)
      · rw [if_neg c6] at H
        have c6b0 : ((l0.length : Int) == 2) = false := beq_eq_false_iff_ne.mpr c6
        have c6b1 : ((l0.length : Int) != 2) = true := bne_iff_ne.mpr c6
        obtain ⟨ji10, hji10⟩ : ∃ j_ : Int, (wrap64 ((l0.length : Int) - 1)) = j_ := ⟨_, rfl⟩
        replace H : (if 0 ≤ (ji10) then (if (ji10) ≤ (l0.length : Int) then ((english_zzJoin.f k (l0.take ((ji10) : Int).toNat) (⟨#[44, 32]⟩ : ByteArray)).bind fun t127 => (if t127.size + 2 ≤ 9223372036854775807 then (if (t127 ++ (⟨#[44, 32]⟩ : ByteArray)).size + a1.size ≤ 9223372036854775807 then (if ((t127 ++ (⟨#[44, 32]⟩ : ByteArray)) ++ a1).size + 1 ≤ 9223372036854775807 then (if (ji10) < (l0.length : Int) then (if (((t127 ++ (⟨#[44, 32]⟩ : ByteArray)) ++ a1) ++ (⟨#[32]⟩ : ByteArray)).size + (rdOf ByteArray.empty l0 (ji10)).size ≤ 9223372036854775807 then (some ((((t127 ++ (⟨#[44, 32]⟩ : ByteArray)) ++ a1) ++ (⟨#[32]⟩ : ByteArray)) ++ (rdOf ByteArray.empty l0 (ji10)))) else (none)) else (none)) else (none)) else (none)) else (none))) else (none)) else (none)) = some r := by first | (rw [hji10] at H; exact H) | (simp only [hji10] at H ⊢; exact H)
        have hji10w : (IntKind.i64.wrap ((l0.length : Int) - 1)) = ji10 := (i64_w _).trans hji10
        by_cases c11 : 0 ≤ (ji10)
        · rw [if_pos c11] at H
          have c11b0 := eq_true c11
          have c11b1 : decide (0 ≤ (ji10)) = true := decide_eq_true c11
          clear c11
          by_cases c12 : (ji10) ≤ (l0.length : Int)
          · rw [if_pos c12] at H
            have c12b0 := eq_true c12
            have c12b1 : decide ((ji10) ≤ (l0.length : Int)) = true := decide_eq_true c12
            clear c12
            replace H := Option.bind_eq_some_iff.mp H
            obtain ⟨t127, A130, H⟩ := H
            replace H : (if t127.size + 2 ≤ 9223372036854775807 then (if (t127 ++ (⟨#[44, 32]⟩ : ByteArray)).size + a1.size ≤ 9223372036854775807 then (if ((t127 ++ (⟨#[44, 32]⟩ : ByteArray)) ++ a1).size + 1 ≤ 9223372036854775807 then (if (ji10) < (l0.length : Int) then (if (((t127 ++ (⟨#[44, 32]⟩ : ByteArray)) ++ a1) ++ (⟨#[32]⟩ : ByteArray)).size + (rdOf ByteArray.empty l0 (ji10)).size ≤ 9223372036854775807 then (some ((((t127 ++ (⟨#[44, 32]⟩ : ByteArray)) ++ a1) ++ (⟨#[32]⟩ : ByteArray)) ++ (rdOf ByteArray.empty l0 (ji10)))) else (none)) else (none)) else (none)) else (none)) else (none)) = some r := H
            have A13 := Aside0.mk A130
            clear A130
            by_cases c14 : t127.size + 2 ≤ 9223372036854775807
            · rw [if_pos c14] at H
              have c14b0 := eq_true c14
              have c14b1 : decide (t127.size + 2 ≤ 9223372036854775807) = true := decide_eq_true c14
              try have c14b2 : (9223372036854775807 < t127.size + 2) = False := eq_false (Nat.not_lt.2 c14)
              by_cases c15 : (t127 ++ (⟨#[44, 32]⟩ : ByteArray)).size + a1.size ≤ 9223372036854775807
              · rw [if_pos c15] at H
                have c15b0 := eq_true c15
                have c15b1 : decide ((t127 ++ (⟨#[44, 32]⟩ : ByteArray)).size + a1.size ≤ 9223372036854775807) = true := decide_eq_true c15
                try have c15b2 : (9223372036854775807 < (t127 ++ (⟨#[44, 32]⟩ : ByteArray)).size + a1.size) = False := eq_false (Nat.not_lt.2 c15)
                try have c15n0 : (9223372036854775807 < t127.size + 2 + a1.size) = False := eq_false (by have h_ := c15; have _e0 : (⟨#[44, 32]⟩ : ByteArray).size = 2 := rfl; (try simp only [ByteArray.size_append] at h_); omega)
                by_cases c16 : ((t127 ++ (⟨#[44, 32]⟩ : ByteArray)) ++ a1).size + 1 ≤ 9223372036854775807
                · rw [if_pos c16] at H
                  have c16b0 := eq_true c16
                  have c16b1 : decide (((t127 ++ (⟨#[44, 32]⟩ : ByteArray)) ++ a1).size + 1 ≤ 9223372036854775807) = true := decide_eq_true c16
                  try have c16b2 : (9223372036854775807 < ((t127 ++ (⟨#[44, 32]⟩ : ByteArray)) ++ a1).size + 1) = False := eq_false (Nat.not_lt.2 c16)
                  try have c16n0 : (9223372036854775807 < t127.size + 2 + a1.size + 1) = False := eq_false (by have h_ := c16; have _e0 : (⟨#[44, 32]⟩ : ByteArray).size = 2 := rfl; (try simp only [ByteArray.size_append] at h_); omega)
                  by_cases c17 : (ji10) < (l0.length : Int)
                  · rw [if_pos c17] at H
                    have c17b0 : decide ((ji10) < (l0.length : Int)) = true := decide_eq_true c17
                    clear c17
                    by_cases c18 : (((t127 ++ (⟨#[44, 32]⟩ : ByteArray)) ++ a1) ++ (⟨#[32]⟩ : ByteArray)).size + (rdOf ByteArray.empty l0 (ji10)).size ≤ 9223372036854775807
                    · rw [if_pos c18] at H
                      have c18b0 := eq_true c18
                      have c18b1 : decide ((((t127 ++ (⟨#[44, 32]⟩ : ByteArray)) ++ a1) ++ (⟨#[32]⟩ : ByteArray)).size + (rdOf ByteArray.empty l0 (ji10)).size ≤ 9223372036854775807) = true := decide_eq_true c18
                      try have c18b2 : (9223372036854775807 < (((t127 ++ (⟨#[44, 32]⟩ : ByteArray)) ++ a1) ++ (⟨#[32]⟩ : ByteArray)).size + (rdOf ByteArray.empty l0 (ji10)).size) = False := eq_false (Nat.not_lt.2 c18)
                      try have c18n0 : (9223372036854775807 < t127.size + 2 + a1.size + 1 + (rdOf ByteArray.empty l0 (ji10)).size) = False := eq_false (by have h_ := c18; have _e0 : (⟨#[44, 32]⟩ : ByteArray).size = 2 := rfl; have _e1 : (⟨#[32]⟩ : ByteArray).size = 1 := rfl; (try simp only [ByteArray.size_append] at h_); omega)
                      obtain rfl := Option.some.inj H
                      obtain ⟨i019, hi019, _, hsz19, _⟩ := info_parts info9
                      obtain ⟨hcut19, hA19, hC19⟩ := print_take_of (P := Try.prog) Value.string (⟨#[]⟩ : ByteArray) 24 9 .i64 Try.underlying24 hi019 hsz19 A0 c0 l0 (ji10) (of_decide_eq_true (by first | (with_reducible assumption) | assumption)) (of_decide_eq_true (by first | (with_reducible assumption) | assumption)) HC0.out
                      have HR126 := Aside0.mk (Kd.C_of_reads (h1 := fun _ => rfl) (hA19 _ (Kd.reads_of_C HR0.out)))
                      have HC126 := Aside0.mk hC19
                      clear hA19 hC19 hi019 hsz19
                      generalize htk19 : l0.take ((ji10) : Int).toNat = tk19 at *
                      have Htk19 := Lib.hid htk19; clear htk19
                      go_enter Try.func16, Try.ntmps16
                      go_wp2_with (first | (go_at_call 23; (with_reducible refine (english_zzJoin.calls k _ _ tk19 (⟨#[44, 32]⟩ : ByteArray) t127 _ ?side1 ?side2 A13.out).mono ?_); (case side1 => repeat (first | exact HR126.out | (with_reducible refine Kd.C_alloc ?_ _) | (with_reducible refine Kd.C_drewN ?_ _) | (with_reducible refine Kd.C_drew ?_))); (case side2 => exact HC126.out); rintro e w' ⟨rfl, ⟨nd, rfl⟩⟩; (try first | exact ⟨rfl, _, World.drewN_drewN _ _ _⟩ | exact ⟨rfl, _, Eq.trans (World.drewN_drewN _ _ _) (congrArg (World.drewN _) (Nat.add_assoc _ _ _))⟩); have p128 : 0 ≤ ((ji10) : Int) := of_decide_eq_true (by first | (with_reducible assumption) | assumption); have q128 : (ji10) < (l0.length : Int) := of_decide_eq_true (by first | (with_reducible assumption) | assumption); obtain ⟨ad128, e128, hx128_0⟩ := Kd.at_string HR0.out (ji10) p128 q128; cases e128; replace p128 := eq_true p128; replace q128 := eq_true q128))
                      repeat (go_quiet (first | (go_at_call 23; (with_reducible refine (english_zzJoin.calls k _ _ tk19 (⟨#[44, 32]⟩ : ByteArray) t127 _ ?side1 ?side2 A13.out).mono ?_); (case side1 => repeat (first | exact HR126.out | (with_reducible refine Kd.C_alloc ?_ _) | (with_reducible refine Kd.C_drewN ?_ _) | (with_reducible refine Kd.C_drew ?_))); (case side2 => exact HC126.out); rintro e w' ⟨rfl, ⟨nd, rfl⟩⟩; (try first | exact ⟨rfl, _, World.drewN_drewN _ _ _⟩ | exact ⟨rfl, _, Eq.trans (World.drewN_drewN _ _ _) (congrArg (World.drewN _) (Nat.add_assoc _ _ _))⟩); have p128 : 0 ≤ ((ji10) : Int) := of_decide_eq_true (by first | (with_reducible assumption) | assumption); have q128 : (ji10) < (l0.length : Int) := of_decide_eq_true (by first | (with_reducible assumption) | assumption); obtain ⟨ad128, e128, hx128_0⟩ := Kd.at_string HR0.out (ji10) p128 q128; cases e128; replace p128 := eq_true p128; replace q128 := eq_true q128)); try go_wp2_with (first | (go_at_call 23; (with_reducible refine (english_zzJoin.calls k _ _ tk19 (⟨#[44, 32]⟩ : ByteArray) t127 _ ?side1 ?side2 A13.out).mono ?_); (case side1 => repeat (first | exact HR126.out | (with_reducible refine Kd.C_alloc ?_ _) | (with_reducible refine Kd.C_drewN ?_ _) | (with_reducible refine Kd.C_drew ?_))); (case side2 => exact HC126.out); rintro e w' ⟨rfl, ⟨nd, rfl⟩⟩; (try first | exact ⟨rfl, _, World.drewN_drewN _ _ _⟩ | exact ⟨rfl, _, Eq.trans (World.drewN_drewN _ _ _) (congrArg (World.drewN _) (Nat.add_assoc _ _ _))⟩); have p128 : 0 ≤ ((ji10) : Int) := of_decide_eq_true (by first | (with_reducible assumption) | assumption); have q128 : (ji10) < (l0.length : Int) := of_decide_eq_true (by first | (with_reducible assumption) | assumption); obtain ⟨ad128, e128, hx128_0⟩ := Kd.at_string HR0.out (ji10) p128 q128; cases e128; replace p128 := eq_true p128; replace q128 := eq_true q128)))
                      go_ret
                      exact ⟨by first | rfl | (simp; done) | (simp only [← hji10] <;> (first | rfl | simp)) | (simp [*]; done), by repeat (first | exact Drawn0.refl _ | apply Drawn0.step)⟩
                    · rw [if_neg c18] at H
                      exact absurd H (by simp)
                  · rw [if_neg c17] at H
                    exact absurd H (by simp)
                · rw [if_neg c16] at H
                  exact absurd H (by simp)
              · rw [if_neg c15] at H
                exact absurd H (by simp)
            · rw [if_neg c14] at H
              exact absurd H (by simp)
          · rw [if_neg c12] at H
            exact absurd H (by simp)
        · rw [if_neg c11] at H
          exact absurd H (by simp)

/-! ### impl_Oxford: function 9 -/
def impl_Oxford.f (k : Nat) (l0 : List ByteArray) (a1 : ByteArray) : Option (ByteArray) := (impl_isText.f k false l0).bind fun t129 => (if t129 = true then ((impl_isText.f k false (([a1] : List ByteArray))).bind fun t133 => (if t133 = true then (if ([] : List ByteArray).length + l0.length < 8796093022208 then ((english_OxfordWordSeries.f k (([] : List ByteArray) ++ l0) a1).bind fun t137 => (some t137)) else (none)) else (some (⟨#[]⟩ : ByteArray)))) else (some (⟨#[]⟩ : ByteArray)))
theorem impl_Oxford.mono : ∀ a0 a1 k, LeO (impl_Oxford.f k a0 a1) (impl_Oxford.f (k + 1) a0 a1) := by
  intro a0 a1 k
  unfold impl_Oxford.f
  repeat' first
      | (with_reducible exact english_OxfordWordSeries.mono _ _ _)
      | (with_reducible exact impl_isText.mono _ _ _)
      | (with_reducible exact LeO.refl _)
      | (with_reducible exact LeO.none _)
      | (with_reducible refine LeO.ite ?_ ?_)
      | (with_reducible refine LeO.bind ?_ (fun _ => ?_))
      | exact english_OxfordWordSeries.mono _ _ _
      | exact impl_isText.mono _ _ _
      | exact LeO.none _
      | refine LeO.ite ?_ ?_
      | refine LeO.bind ?_ (fun _ => ?_)
set_option maxHeartbeats 8000000 in
set_option maxRecDepth 100000 in
theorem impl_Oxford.calls (k : Nat) (A0 : Option Addr) (c0 : Nat) (l0 : List ByteArray) (a1 : ByteArray) (r : ByteArray) (w : World) (hr0 : Kd.C Kd.string w A0 l0.length l0) (hc0 : l0.length ≤ c0) (h : impl_Oxford.f k l0 a1 = some r) :
    Calls Try.prog 9 #[.slice A0 l0.length c0, .string a1] w fun e w' => e = .returned (.string r) ∧ Below w.heap.size w w' := by
  have HR0 := Aside0.mk hr0
  have HC0 := Aside0.mk hc0
  clear hr0 hc0
  have HB := Aside0.mk (Below.refl w.heap.size w)
  have H : ((impl_isText.f k false l0).bind fun t129 => (if t129 = true then ((impl_isText.f k false (([a1] : List ByteArray))).bind fun t133 => (if t133 = true then (if ([] : List ByteArray).length + l0.length < 8796093022208 then ((english_OxfordWordSeries.f k (([] : List ByteArray) ++ l0) a1).bind fun t137 => (some t137)) else (none)) else (some (⟨#[]⟩ : ByteArray)))) else (some (⟨#[]⟩ : ByteArray)))) = some r := h
  clear h
  replace H := Option.bind_eq_some_iff.mp H
  obtain ⟨t129, A30, H⟩ := H
  replace H : (if t129 = true then ((impl_isText.f k false (([a1] : List ByteArray))).bind fun t133 => (if t133 = true then (if ([] : List ByteArray).length + l0.length < 8796093022208 then ((english_OxfordWordSeries.f k (([] : List ByteArray) ++ l0) a1).bind fun t137 => (some t137)) else (none)) else (some (⟨#[]⟩ : ByteArray)))) else (some (⟨#[]⟩ : ByteArray))) = some r := H
  have A3 := Aside0.mk A30
  clear A30
  by_cases c4 : t129 = true
  · subst c4
    have H1 : ((impl_isText.f k false (([a1] : List ByteArray))).bind fun t133 => (if t133 = true then (if ([] : List ByteArray).length + l0.length < 8796093022208 then ((english_OxfordWordSeries.f k (([] : List ByteArray) ++ l0) a1).bind fun t137 => (some t137)) else (none)) else (some (⟨#[]⟩ : ByteArray)))) = some r := by rw [if_pos rfl] at H; exact H
    clear H
    have H := H1
    clear H1
    obtain ⟨y130, hy130⟩ : ∃ y_ : List ByteArray, y_ = (([a1] : List ByteArray)) := ⟨_, rfl⟩
    replace H : ((impl_isText.f k false y130).bind fun t133 => (if t133 = true then (if ([] : List ByteArray).length + l0.length < 8796093022208 then ((english_OxfordWordSeries.f k (([] : List ByteArray) ++ l0) a1).bind fun t137 => (some t137)) else (none)) else (some (⟨#[]⟩ : ByteArray)))) = some r := by first | (rw [hy130]; with_reducible exact H) | (have H2_ := (Option.bind_some _ _).symm.trans H; rw [hy130]; with_reducible exact H2_) | (have H2_ := (Option.bind_some _ _).symm.trans H; with_reducible exact H2_) | with_reducible exact H | (rw [hy130]; exact H) | exact H
    have Ny130 := Aside0.mk hy130
    clear hy130
    replace H := Option.bind_eq_some_iff.mp H
    obtain ⟨t133, A50, H⟩ := H
    replace H : (if t133 = true then (if ([] : List ByteArray).length + l0.length < 8796093022208 then ((english_OxfordWordSeries.f k (([] : List ByteArray) ++ l0) a1).bind fun t137 => (some t137)) else (none)) else (some (⟨#[]⟩ : ByteArray))) = some r := H
    have A5 := Aside0.mk A50
    clear A50
    by_cases c6 : t133 = true
    · subst c6
      have H1 : (if ([] : List ByteArray).length + l0.length < 8796093022208 then ((english_OxfordWordSeries.f k (([] : List ByteArray) ++ l0) a1).bind fun t137 => (some t137)) else (none)) = some r := by rw [if_pos rfl] at H; exact H
      clear H
      have H := H1
      clear H1
      by_cases c7 : ([] : List ByteArray).length + l0.length < 8796093022208
      · rw [if_pos c7] at H
        have LMc7 := Aside0.mk c7
        clear c7
        obtain ⟨y134, hy134⟩ : ∃ y_ : List ByteArray, y_ = (([] : List ByteArray) ++ l0) := ⟨_, rfl⟩
        replace H : ((english_OxfordWordSeries.f k y134 a1).bind fun t137 => (some t137)) = some r := by first | (rw [hy134]; with_reducible exact H) | (have H2_ := (Option.bind_some _ _).symm.trans H; rw [hy134]; with_reducible exact H2_) | (have H2_ := (Option.bind_some _ _).symm.trans H; with_reducible exact H2_) | with_reducible exact H | (rw [hy134]; exact H) | exact H
        have Ny134 := Aside0.mk hy134
        clear hy134
        replace H := Option.bind_eq_some_iff.mp H
        obtain ⟨t137, A80, H⟩ := H
        replace H : (some t137) = some r := H
        have A8 := Aside0.mk A80
        clear A80
        obtain rfl := Option.some.inj H
        go_enter Try.func9, Try.ntmps9
        go_wp2_with (first | ((with_reducible refine gate_callee (f := 14) rfl ?_); refine goesL_ (some 6) rfl rfl Try.func14 (by kernel_rfl) rfl #[.bool false, .slice A0 l0.length c0] rfl (by (try simp only [List.map_toArray, List.map_cons, List.map_nil]); first | done | rfl | (simp only [List.length_drop, List.length_take]; rfl)) ?_; (with_reducible refine (impl_isText.calls k false _ _ l0 true _ ?side1 ?side2 A3.out).mono ?_); (case side1 => repeat (first | exact HR0.out | (with_reducible refine Kd.C_alloc ?_ _) | (with_reducible refine Kd.C_drewN ?_ _) | (with_reducible refine Kd.C_drew ?_))); (case side2 => exact HC0.out); rintro e w' ⟨rfl, ⟨nd, rfl⟩⟩; refine ⟨_, rfl, ?_⟩) | ((with_reducible refine gate_dst (N := 10) rfl ?_); (try (refine gate_guard (by rfl) ?_; dsimp only)); refine Kd.R_lit Kd.string _ 9 ?hg (N := 10) ?hd (xs := ([a1] : List ByteArray)) (inner := [.string a1]) (ok := fun _ => True) (okp := fun _ => True) ?hr ?hp (fun _ hk => hk) trivial (Below.refl _ _) (Nat.le_refl _) (by simp) ?_; (case hd => rfl); (case hg => rfl); (case hr => first | (go_simp; done) | (go_simp; rfl)); (case hp => exact (Reps.one (show Kd.M Kd.string _ _ _ a1 [.string a1] from rfl) (Reps.none _ _))); intro v131 w9 ho10 hb hg_ hnew_; clear hg_ hnew_; (first | rw [← Ny130.out] at ho10 | (simp only [Int.reduceToNat] at ho10; rw [← Ny130.out] at ho10)); have n0_ := Aside0.mk (Kd.R_lower ho10 (below_size (by repeat (first | (with_reducible first | exact HB.out | apply below_alloc | apply pw_below_drewN | apply below_drew1) | exact HB.out)))); have n1_ := Aside0.mk (below_step (by repeat (first | (with_reducible first | exact HB.out | apply below_alloc | apply pw_below_drewN | apply below_drew1) | exact HB.out)) hb); clear HB; have HO132 := n0_; have HB := n1_; clear n0_ n1_; clear hb ho10; obtain ⟨Ao11, co11, eo11⟩ := Kd.R_slice HO132.out; subst eo11) | (go_at_call 14; (with_reducible refine (impl_isText.calls k false _ _ y130 true _ ?side1 ?side2 A5.out).mono ?_); (case side1 => repeat (first | exact (Kd.R_reads' HO132.out).2.2 | (with_reducible refine Kd.C_alloc ?_ _) | (with_reducible refine Kd.C_drewN ?_ _) | (with_reducible refine Kd.C_drew ?_))); (case side2 => exact (Kd.R_reads' HO132.out).2.1); rintro e w' ⟨rfl, ⟨nd, rfl⟩⟩) | ((with_reducible refine gate_builtin (b := .append) (xs := #[.const (.slice none 0 0), .tmp 14]) rfl ?_); (try (refine gate_guard (by rfl) ?_; dsimp only)); at_builtin; refine Kd.R_append_rows Kd.string (w0 := w) w.heap.size rfl (.const (.slice none 0 0)) (.tmp 14) 24 9 (.string ⟨#[]⟩) 16 rfl Try.underlying24 info9 rfl (by decide) (by omega) (.slice none 0 0) ([] : List ByteArray) l0 _ _ _ (fun k_ => some k_ ≠ (.slice Ao11 y130.length co11 : Value).ownBlock) (fun _ => False) rfl rfl ?aO ?aR (fun _ _ h => h) (fun _ h => h.elim) ?aF ?aB ?aS ?aL ?_; (case aR => repeat (first | exact (Kd.C_below HR0.out (by repeat (first | (with_reducible first | exact HB.out | apply below_alloc | apply pw_below_drewN | apply below_drew1) | exact HB.out))) | (with_reducible refine Kd.C_alloc ?_ _) | (with_reducible refine Kd.C_drewN ?_ _) | (with_reducible refine Kd.C_drew ?_))); (case aB => exact (by repeat (first | (with_reducible first | exact HB.out | apply below_alloc | apply pw_below_drewN | apply below_drew1) | exact HB.out))); (case aF => exact (fun k_ hk => Kd.fresh' (Kd.R_lt (by (with_reducible repeat (first | apply Kd.R_alloc | apply Kd.R_drewN | apply Kd.R_drew)); exact HO132.out)) k_ hk)); (case aO => exact ((Kd.R_nil _ _ _ _ (fun k_ => some k_ ≠ (.slice Ao11 y130.length co11 : Value).ownBlock)))); (case aS => exact (below_size (by repeat (first | (with_reducible first | exact HB.out | apply below_alloc | apply pw_below_drewN | apply below_drew1) | exact HB.out)))); (case aL => have := LMc7.out; omega); intro v135 w12 ho hb hg hat; rw [← Ny134.out] at ho; have n0_ := Aside0.mk (Kd.R_after (Kd.R_apart_nil (by (with_reducible repeat (first | apply Kd.R_alloc | apply Kd.R_drewN | apply Kd.R_drew)); exact HO132.out)) hg hat); have n1_ := Aside0.mk (hb); have n2_ := Aside0.mk (ho); clear HO132; clear HB; have HO132 := n0_; have HB := n1_; have HO136 := n2_; clear n0_ n1_ n2_; clear ho hb hg hat; obtain ⟨Ao13, co13, eo13⟩ := Kd.R_slice HO136.out; subst eo13) | ((with_reducible refine gate_callee (f := 16) rfl ?_); refine goesL_ (some 17) rfl rfl Try.func16 (by kernel_rfl) rfl #[.slice Ao13 y134.length co13, .string a1] rfl (by (try simp only [List.map_toArray, List.map_cons, List.map_nil]); first | done | rfl | (simp only [List.length_drop, List.length_take]; rfl)) ?_; (with_reducible refine (english_OxfordWordSeries.calls k _ _ y134 a1 t137 _ ?side1 ?side2 A8.out).mono ?_); (case side1 => repeat (first | exact (Kd.R_reads' HO136.out).2.2 | (with_reducible refine Kd.C_alloc ?_ _) | (with_reducible refine Kd.C_drewN ?_ _) | (with_reducible refine Kd.C_drew ?_))); (case side2 => exact (Kd.R_reads' HO136.out).2.1); rintro e w' ⟨rfl, ⟨nd, rfl⟩⟩; refine ⟨_, rfl, ?_⟩))
        go_ret
        exact ⟨by first | rfl | (simp [errW_none, errW_some] <;> rfl) | (simp [*, errW_none, errW_some] <;> rfl), by repeat (first | (with_reducible first | exact HB.out | apply below_alloc | apply pw_below_drewN | apply below_drew1) | exact HB.out)⟩
      · rw [if_neg c7] at H
        exact absurd H (by simp)
    · replace c6 := Bool.eq_false_iff.mpr c6
      subst c6
      have H1 : (some (⟨#[]⟩ : ByteArray)) = some r := by rw [if_neg (show ¬ (false = true) by decide)] at H; exact H
      clear H
      have H := H1
      clear H1
      obtain rfl := Option.some.inj H
      go_enter Try.func9, Try.ntmps9
      go_wp2_with (first | ((with_reducible refine gate_callee (f := 14) rfl ?_); refine goesL_ (some 6) rfl rfl Try.func14 (by kernel_rfl) rfl #[.bool false, .slice A0 l0.length c0] rfl (by (try simp only [List.map_toArray, List.map_cons, List.map_nil]); first | done | rfl | (simp only [List.length_drop, List.length_take]; rfl)) ?_; (with_reducible refine (impl_isText.calls k false _ _ l0 true _ ?side1 ?side2 A3.out).mono ?_); (case side1 => repeat (first | exact HR0.out | (with_reducible refine Kd.C_alloc ?_ _) | (with_reducible refine Kd.C_drewN ?_ _) | (with_reducible refine Kd.C_drew ?_))); (case side2 => exact HC0.out); rintro e w' ⟨rfl, ⟨nd, rfl⟩⟩; refine ⟨_, rfl, ?_⟩) | ((with_reducible refine gate_dst (N := 10) rfl ?_); (try (refine gate_guard (by rfl) ?_; dsimp only)); refine Kd.R_lit Kd.string _ 9 ?hg (N := 10) ?hd (xs := ([a1] : List ByteArray)) (inner := [.string a1]) (ok := fun _ => True) (okp := fun _ => True) ?hr ?hp (fun _ hk => hk) trivial (Below.refl _ _) (Nat.le_refl _) (by simp) ?_; (case hd => rfl); (case hg => rfl); (case hr => first | (go_simp; done) | (go_simp; rfl)); (case hp => exact (Reps.one (show Kd.M Kd.string _ _ _ a1 [.string a1] from rfl) (Reps.none _ _))); intro v131 w14 ho15 hb hg_ hnew_; clear hg_ hnew_; (first | rw [← Ny130.out] at ho15 | (simp only [Int.reduceToNat] at ho15; rw [← Ny130.out] at ho15)); have n0_ := Aside0.mk (Kd.R_lower ho15 (below_size (by repeat (first | (with_reducible first | exact HB.out | apply below_alloc | apply pw_below_drewN | apply below_drew1) | exact HB.out)))); have n1_ := Aside0.mk (below_step (by repeat (first | (with_reducible first | exact HB.out | apply below_alloc | apply pw_below_drewN | apply below_drew1) | exact HB.out)) hb); clear HB; have HO132 := n0_; have HB := n1_; clear n0_ n1_; clear hb ho15; obtain ⟨Ao16, co16, eo16⟩ := Kd.R_slice HO132.out; subst eo16) | (go_at_call 14; (with_reducible refine (impl_isText.calls k false _ _ y130 false _ ?side1 ?side2 A5.out).mono ?_); (case side1 => repeat (first | exact (Kd.R_reads' HO132.out).2.2 | (with_reducible refine Kd.C_alloc ?_ _) | (with_reducible refine Kd.C_drewN ?_ _) | (with_reducible refine Kd.C_drew ?_))); (case side2 => exact (Kd.R_reads' HO132.out).2.1); rintro e w' ⟨rfl, ⟨nd, rfl⟩⟩))
      go_ret
      exact ⟨by first | rfl | (simp [errW_none, errW_some] <;> rfl) | (simp [*, errW_none, errW_some] <;> rfl), by repeat (first | (with_reducible first | exact HB.out | apply below_alloc | apply pw_below_drewN | apply below_drew1) | exact HB.out)⟩
  · replace c4 := Bool.eq_false_iff.mpr c4
    subst c4
    have H1 : (some (⟨#[]⟩ : ByteArray)) = some r := by rw [if_neg (show ¬ (false = true) by decide)] at H; exact H
    clear H
    have H := H1
    clear H1
    obtain rfl := Option.some.inj H
    go_enter Try.func9, Try.ntmps9
    go_wp2_with (first | ((with_reducible refine gate_callee (f := 14) rfl ?_); refine goesL_ (some 6) rfl rfl Try.func14 (by kernel_rfl) rfl #[.bool false, .slice A0 l0.length c0] rfl (by (try simp only [List.map_toArray, List.map_cons, List.map_nil]); first | done | rfl | (simp only [List.length_drop, List.length_take]; rfl)) ?_; (with_reducible refine (impl_isText.calls k false _ _ l0 false _ ?side1 ?side2 A3.out).mono ?_); (case side1 => repeat (first | exact HR0.out | (with_reducible refine Kd.C_alloc ?_ _) | (with_reducible refine Kd.C_drewN ?_ _) | (with_reducible refine Kd.C_drew ?_))); (case side2 => exact HC0.out); rintro e w' ⟨rfl, ⟨nd, rfl⟩⟩; refine ⟨_, rfl, ?_⟩))
    go_ret
    exact ⟨by first | rfl | (simp [errW_none, errW_some] <;> rfl) | (simp [*, errW_none, errW_some] <;> rfl), by repeat (first | (with_reducible first | exact HB.out | apply below_alloc | apply pw_below_drewN | apply below_drew1) | exact HB.out)⟩

end Go.Proofs.Ytmdgbbiipjmenaa.PFnWords
