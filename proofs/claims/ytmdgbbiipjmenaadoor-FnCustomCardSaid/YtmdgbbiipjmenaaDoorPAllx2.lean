-- written by a program of this work
import Derived.Test.YtmdgbbiipjmenaaDoorPAllx0
import Derived.Test.YtmdgbbiipjmenaaDoorPAllx1
namespace Go.Proofs.YtmdgbbiipjmenaaDoor.PAll
open Go.RowKit Go.Proofs.YtmdgbbiipjmenaaDoorW.PrintWords Go.Proofs.YtmdgbbiipjmenaaDoorW.PrintLast Go.Proofs.YtmdgbbiipjmenaaDoorW.PrintMore
attribute [local go_sem] max2_int min2_int max_two min_two max_three min_three max_four min_four   -- for this text's walks alone
set_option linter.unusedVariables false
set_option linter.unusedSimpArgs false

/-! ### spec_grouped: function 26 -/
def spec_grouped.l0 : Nat → ByteArray → ByteArray → ByteArray → Int → Int → Option (ByteArray)
  | 0, _, _, _, _, _ => none
  | k + 1, x0, x1, x5, x8, x9 => if x9 < x8 then (if x9 > 0 then (if (Int.tmod (wrap64 ((x0.size : Int) - x9)) 3) = 0 then (if x5.size + x1.size ≤ 9223372036854775807 then (if 0 ≤ x9 then (if x9 ≤ (wrap64 (x9 + 1)) then (if (wrap64 (x9 + 1)) ≤ (x0.size : Int) then (if (x5 ++ x1).size + (x0.extract (x9 : Int).toNat ((wrap64 (x9 + 1)) : Int).toNat).size ≤ 9223372036854775807 then (spec_grouped.l0 k x0 x1 ((x5 ++ x1) ++ (x0.extract (x9 : Int).toNat ((wrap64 (x9 + 1)) : Int).toNat)) x8 (wrap64 (x9 + 1))) else (none)) else (none)) else (none)) else (none)) else (none)) else (if 0 ≤ x9 then (if x9 ≤ (wrap64 (x9 + 1)) then (if (wrap64 (x9 + 1)) ≤ (x0.size : Int) then (if x5.size + (x0.extract (x9 : Int).toNat ((wrap64 (x9 + 1)) : Int).toNat).size ≤ 9223372036854775807 then (spec_grouped.l0 k x0 x1 (x5 ++ (x0.extract (x9 : Int).toNat ((wrap64 (x9 + 1)) : Int).toNat)) x8 (wrap64 (x9 + 1))) else (none)) else (none)) else (none)) else (none))) else (if 0 ≤ x9 then (if x9 ≤ (wrap64 (x9 + 1)) then (if (wrap64 (x9 + 1)) ≤ (x0.size : Int) then (if x5.size + (x0.extract (x9 : Int).toNat ((wrap64 (x9 + 1)) : Int).toNat).size ≤ 9223372036854775807 then (spec_grouped.l0 k x0 x1 (x5 ++ (x0.extract (x9 : Int).toNat ((wrap64 (x9 + 1)) : Int).toNat)) x8 (wrap64 (x9 + 1))) else (none)) else (none)) else (none)) else (none))) else (some x5)
def spec_grouped.f (k : Nat) (a0 : ByteArray) (a1 : ByteArray) : Option (ByteArray) := spec_grouped.l0 k a0 a1 (⟨#[]⟩ : ByteArray) (a0.size : Int) 0
theorem spec_grouped.mono_l : ∀ k, (∀ y0 y1 y2 y3 y4, LeO (spec_grouped.l0 k y0 y1 y2 y3 y4) (spec_grouped.l0 (k + 1) y0 y1 y2 y3 y4))
  | 0 => fun _ _ _ _ _ r h => by simp [spec_grouped.l0] at h
  | k + 1 => by
    have ih0 := spec_grouped.mono_l k
    · intro y0 y1 y2 y3 y4
      unfold spec_grouped.l0
      repeat' first
      | (with_reducible exact ih0 _ _ _ _ _)
      | (with_reducible exact LeO.refl _)
      | (with_reducible exact LeO.none _)
      | (with_reducible refine LeO.ite ?_ ?_)
      | (with_reducible refine LeO.bind ?_ (fun _ => ?_))
      | exact ih0 _ _ _ _ _
      | exact LeO.none _
      | refine LeO.ite ?_ ?_
      | refine LeO.bind ?_ (fun _ => ?_)
theorem spec_grouped.mono : ∀ a0 a1 k, LeO (spec_grouped.f k a0 a1) (spec_grouped.f (k + 1) a0 a1) := by
  intro a0 a1 k
  have ih0 := spec_grouped.mono_l k
  unfold spec_grouped.f
  repeat' first
      | (with_reducible exact ih0 _ _ _ _ _)
      | (with_reducible exact LeO.refl _)
      | (with_reducible exact LeO.none _)
      | (with_reducible refine LeO.ite ?_ ?_)
      | (with_reducible refine LeO.bind ?_ (fun _ => ?_))
      | exact ih0 _ _ _ _ _
      | exact LeO.none _
      | refine LeO.ite ?_ ?_
      | refine LeO.bind ?_ (fun _ => ?_)
set_option maxHeartbeats 8000000 in
set_option maxRecDepth 100000 in
theorem spec_grouped.calls (k : Nat) (a0 : ByteArray) (a1 : ByteArray) (r : ByteArray) (w : World) (h : spec_grouped.f k a0 a1 = some r) :
    Calls Tryd.prog 26 #[.string a0, .string a1] w fun e w' => e = .returned (.string r) ∧ Drawn0 w w' := by
  have H : (spec_grouped.l0 k a0 a1 (⟨#[]⟩ : ByteArray) (a0.size : Int) 0) = some r := h
  clear h
  have H' := Aside0.mk H
  clear H
  go_enter Tryd.func26, Tryd.ntmps26
  go_wp2
  go_loopg [5, 9] k (fun kq v5 v9 w' => ∃ (x5_1 : ByteArray) (x9_1 : Int), v5 = .string x5_1 ∧ v9 = .int .i64 x9_1 ∧ Aside0 (spec_grouped.l0 kq a0 a1 x5_1 (a0.size : Int) x9_1 = some r) ∧ Aside0 (kq ≤ k) ∧ Drawn0 w w')
  case atStart => exact ⟨((⟨#[]⟩ : ByteArray)), (0), (by first | rfl | (simp; done) | (simp [*]; done)), (by first | rfl | (simp; done) | (simp [*]; done)), H', ⟨Nat.le_refl _⟩, by repeat (first | exact Drawn0.refl _ | apply Drawn0.step)⟩
  case round =>
    clear H'
    try clear c2
    try clear p2
    obtain ⟨x5_1, x9_1, rfl, rfl, HA, HK1, ⟨m1, rfl⟩⟩ := hrel
    cases gk with
    | zero => exact absurd HA.out (by simp [spec_grouped.l0])
    | succ k1 =>
      have H := HA.out
      clear HA
      simp only [spec_grouped.l0] at H
      by_cases c3 : x9_1 < (a0.size : Int)
      · rw [if_pos c3] at H
        have c3b0 : decide (x9_1 < (a0.size : Int)) = true := decide_eq_true c3
        clear c3
        by_cases c4 : x9_1 > 0
        · rw [if_pos c4] at H
          have c4b0 : decide (0 < x9_1) = true := decide_eq_true c4
          clear c4
          by_cases c5 : (Int.tmod (wrap64 ((a0.size : Int) - x9_1)) 3) = 0
          · rw [if_pos c5] at H
            have c5b0 : ((Int.tmod (wrap64 ((a0.size : Int) - x9_1)) 3) == 0) = true := beq_iff_eq.mpr c5
            have c5b1 : ((Int.tmod (wrap64 ((a0.size : Int) - x9_1)) 3) != 0) = false := bne_eq_false_iff_eq.mpr c5
            clear c5
            by_cases c6 : x5_1.size + a1.size ≤ 9223372036854775807
            · rw [if_pos c6] at H
              have c6b0 := eq_true c6
              have c6b1 : decide (x5_1.size + a1.size ≤ 9223372036854775807) = true := decide_eq_true c6
              try have c6b2 : (9223372036854775807 < x5_1.size + a1.size) = False := eq_false (Nat.not_lt.2 c6)
              by_cases c7 : 0 ≤ x9_1
              · rw [if_pos c7] at H
                have c7b0 := eq_true c7
                have c7b1 : decide (0 ≤ x9_1) = true := decide_eq_true c7
                clear c7
                by_cases c8 : x9_1 ≤ (wrap64 (x9_1 + 1))
                · rw [if_pos c8] at H
                  have c8b0 := eq_true c8
                  have c8b1 : decide (x9_1 ≤ (wrap64 (x9_1 + 1))) = true := decide_eq_true c8
                  by_cases c9 : (wrap64 (x9_1 + 1)) ≤ (a0.size : Int)
                  · rw [if_pos c9] at H
                    have c9b0 := eq_true c9
                    have c9b1 : decide ((wrap64 (x9_1 + 1)) ≤ (a0.size : Int)) = true := decide_eq_true c9
                    by_cases c10 : (x5_1 ++ a1).size + (a0.extract (x9_1 : Int).toNat ((wrap64 (x9_1 + 1)) : Int).toNat).size ≤ 9223372036854775807
                    · rw [if_pos c10] at H
                      have c10b0 := eq_true c10
                      have c10b1 : decide ((x5_1 ++ a1).size + (a0.extract (x9_1 : Int).toNat ((wrap64 (x9_1 + 1)) : Int).toNat).size ≤ 9223372036854775807) = true := decide_eq_true c10
                      try have c10b2 : (9223372036854775807 < (x5_1 ++ a1).size + (a0.extract (x9_1 : Int).toNat ((wrap64 (x9_1 + 1)) : Int).toNat).size) = False := eq_false (Nat.not_lt.2 c10)
                      try have c10n0 : (9223372036854775807 < x5_1.size + a1.size + (a0.extract (x9_1 : Int).toNat ((wrap64 (x9_1 + 1)) : Int).toNat).size) = False := eq_false (by have h_ := c10; (try simp only [ByteArray.size_append] at h_); omega)
                      try have c10n1 : (9223372036854775807 < x5_1.size + a1.size + ((a0.extract (x9_1 : Int).toNat ((wrap64 (x9_1 + 1)) : Int).toNat).size)) = False := eq_false (by have h_ := c10; (try simp only [ByteArray.size_append] at h_); omega)
                      have H' := Aside0.mk H
                      clear H
                      go_wp2
                      go_roundg k1
                      case measure => have := HK1.out; omega
                      case rel => exact ⟨((x5_1 ++ a1) ++ (a0.extract (x9_1 : Int).toNat ((wrap64 (x9_1 + 1)) : Int).toNat)), (wrap64 (x9_1 + 1)), (by first | rfl | (simp; done) | (simp [*]; done)), (by first | rfl | (simp; done) | (simp [*]; done)), H', ⟨by have := HK1.out; omega⟩, by repeat (first | exact Drawn0.refl _ | apply Drawn0.step)⟩
                    · rw [if_neg c10] at H
                      exact absurd H (by simp)
                  · rw [if_neg c9] at H
                    exact absurd H (by simp)
                · rw [if_neg c8] at H
                  exact absurd H (by simp)
              · rw [if_neg c7] at H
                exact absurd H (by simp)
            · rw [if_neg c6] at H
              exact absurd H (by simp)
          · rw [if_neg c5] at H
            have c5b0 : ((Int.tmod (wrap64 ((a0.size : Int) - x9_1)) 3) == 0) = false := beq_eq_false_iff_ne.mpr c5
            have c5b1 : ((Int.tmod (wrap64 ((a0.size : Int) - x9_1)) 3) != 0) = true := bne_iff_ne.mpr c5
            by_cases c11 : 0 ≤ x9_1
            · rw [if_pos c11] at H
              have c11b0 := eq_true c11
              have c11b1 : decide (0 ≤ x9_1) = true := decide_eq_true c11
              clear c11
              by_cases c12 : x9_1 ≤ (wrap64 (x9_1 + 1))
              · rw [if_pos c12] at H
                have c12b0 := eq_true c12
                have c12b1 : decide (x9_1 ≤ (wrap64 (x9_1 + 1))) = true := decide_eq_true c12
                by_cases c13 : (wrap64 (x9_1 + 1)) ≤ (a0.size : Int)
                · rw [if_pos c13] at H
                  have c13b0 := eq_true c13
                  have c13b1 : decide ((wrap64 (x9_1 + 1)) ≤ (a0.size : Int)) = true := decide_eq_true c13
                  by_cases c14 : x5_1.size + (a0.extract (x9_1 : Int).toNat ((wrap64 (x9_1 + 1)) : Int).toNat).size ≤ 9223372036854775807
                  · rw [if_pos c14] at H
                    have c14b0 := eq_true c14
                    have c14b1 : decide (x5_1.size + (a0.extract (x9_1 : Int).toNat ((wrap64 (x9_1 + 1)) : Int).toNat).size ≤ 9223372036854775807) = true := decide_eq_true c14
                    try have c14b2 : (9223372036854775807 < x5_1.size + (a0.extract (x9_1 : Int).toNat ((wrap64 (x9_1 + 1)) : Int).toNat).size) = False := eq_false (Nat.not_lt.2 c14)
                    try have c14n0 : (9223372036854775807 < x5_1.size + ((a0.extract (x9_1 : Int).toNat ((wrap64 (x9_1 + 1)) : Int).toNat).size)) = False := eq_false (by have h_ := c14; (try simp only [ByteArray.size_append] at h_); omega)
                    have H' := Aside0.mk H
                    clear H
                    go_wp2
                    go_roundg k1
                    case measure => have := HK1.out; omega
                    case rel => exact ⟨(x5_1 ++ (a0.extract (x9_1 : Int).toNat ((wrap64 (x9_1 + 1)) : Int).toNat)), (wrap64 (x9_1 + 1)), (by first | rfl | (simp; done) | (simp [*]; done)), (by first | rfl | (simp; done) | (simp [*]; done)), H', ⟨by have := HK1.out; omega⟩, by repeat (first | exact Drawn0.refl _ | apply Drawn0.step)⟩
                  · rw [if_neg c14] at H
                    exact absurd H (by simp)
                · rw [if_neg c13] at H
                  exact absurd H (by simp)
              · rw [if_neg c12] at H
                exact absurd H (by simp)
            · rw [if_neg c11] at H
              exact absurd H (by simp)
        · rw [if_neg c4] at H
          have c4b0 : decide (0 < x9_1) = false := decide_eq_false c4
          clear c4
          by_cases c15 : 0 ≤ x9_1
          · rw [if_pos c15] at H
            have c15b0 := eq_true c15
            have c15b1 : decide (0 ≤ x9_1) = true := decide_eq_true c15
            clear c15
            by_cases c16 : x9_1 ≤ (wrap64 (x9_1 + 1))
            · rw [if_pos c16] at H
              have c16b0 := eq_true c16
              have c16b1 : decide (x9_1 ≤ (wrap64 (x9_1 + 1))) = true := decide_eq_true c16
              by_cases c17 : (wrap64 (x9_1 + 1)) ≤ (a0.size : Int)
              · rw [if_pos c17] at H
                have c17b0 := eq_true c17
                have c17b1 : decide ((wrap64 (x9_1 + 1)) ≤ (a0.size : Int)) = true := decide_eq_true c17
                by_cases c18 : x5_1.size + (a0.extract (x9_1 : Int).toNat ((wrap64 (x9_1 + 1)) : Int).toNat).size ≤ 9223372036854775807
                · rw [if_pos c18] at H
                  have c18b0 := eq_true c18
                  have c18b1 : decide (x5_1.size + (a0.extract (x9_1 : Int).toNat ((wrap64 (x9_1 + 1)) : Int).toNat).size ≤ 9223372036854775807) = true := decide_eq_true c18
                  try have c18b2 : (9223372036854775807 < x5_1.size + (a0.extract (x9_1 : Int).toNat ((wrap64 (x9_1 + 1)) : Int).toNat).size) = False := eq_false (Nat.not_lt.2 c18)
                  try have c18n0 : (9223372036854775807 < x5_1.size + ((a0.extract (x9_1 : Int).toNat ((wrap64 (x9_1 + 1)) : Int).toNat).size)) = False := eq_false (by have h_ := c18; (try simp only [ByteArray.size_append] at h_); omega)
                  have H' := Aside0.mk H
                  clear H
                  go_wp2
                  go_roundg k1
                  case measure => have := HK1.out; omega
                  case rel => exact ⟨(x5_1 ++ (a0.extract (x9_1 : Int).toNat ((wrap64 (x9_1 + 1)) : Int).toNat)), (wrap64 (x9_1 + 1)), (by first | rfl | (simp; done) | (simp [*]; done)), (by first | rfl | (simp; done) | (simp [*]; done)), H', ⟨by have := HK1.out; omega⟩, by repeat (first | exact Drawn0.refl _ | apply Drawn0.step)⟩
                · rw [if_neg c18] at H
                  exact absurd H (by simp)
              · rw [if_neg c17] at H
                exact absurd H (by simp)
            · rw [if_neg c16] at H
              exact absurd H (by simp)
          · rw [if_neg c15] at H
            exact absurd H (by simp)
      · rw [if_neg c3] at H
        have c3b0 : decide (x9_1 < (a0.size : Int)) = false := decide_eq_false c3
        clear c3
        obtain rfl := Option.some.inj H
        go_wp2
        go_ret
        exact ⟨by first | rfl | (simp; done) | (simp [*]; done), by repeat (first | exact Drawn0.refl _ | apply Drawn0.step)⟩

/-! ### spec_Comma: function 16 -/
def spec_Comma.f (k : Nat) (a0 : Int) : Option (ByteArray) := (spec_Decimal.f k a0).bind fun t117 => (if a0 < 0 then (if 1 ≤ (t117.size : Int) then ((spec_grouped.f k (t117.extract 1 t117.size) (⟨#[44]⟩ : ByteArray)).bind fun t118 => (if 1 + t118.size ≤ 9223372036854775807 then (some ((⟨#[45]⟩ : ByteArray) ++ t118)) else (none))) else (none)) else ((spec_grouped.f k t117 (⟨#[44]⟩ : ByteArray)).bind fun t119 => (some t119)))
theorem spec_Comma.mono : ∀ a0 k, LeO (spec_Comma.f k a0) (spec_Comma.f (k + 1) a0) := by
  intro a0 k
  unfold spec_Comma.f
  repeat' first
      | (with_reducible exact spec_Decimal.mono _ _)
      | (with_reducible exact spec_grouped.mono _ _ _)
      | (with_reducible exact LeO.refl _)
      | (with_reducible exact LeO.none _)
      | (with_reducible refine LeO.ite ?_ ?_)
      | (with_reducible refine LeO.bind ?_ (fun _ => ?_))
      | exact spec_Decimal.mono _ _
      | exact spec_grouped.mono _ _ _
      | exact LeO.none _
      | refine LeO.ite ?_ ?_
      | refine LeO.bind ?_ (fun _ => ?_)
set_option maxHeartbeats 8000000 in
set_option maxRecDepth 100000 in
theorem spec_Comma.calls (k : Nat) (a0 : Int) (r : ByteArray) (w : World) (h : spec_Comma.f k a0 = some r) :
    Calls Tryd.prog 16 #[.int .i64 a0] w fun e w' => e = .returned (.string r) ∧ Drawn0 w w' := by
  have H : ((spec_Decimal.f k a0).bind fun t117 => (if a0 < 0 then (if 1 ≤ (t117.size : Int) then ((spec_grouped.f k (t117.extract 1 t117.size) (⟨#[44]⟩ : ByteArray)).bind fun t118 => (if 1 + t118.size ≤ 9223372036854775807 then (some ((⟨#[45]⟩ : ByteArray) ++ t118)) else (none))) else (none)) else ((spec_grouped.f k t117 (⟨#[44]⟩ : ByteArray)).bind fun t119 => (some t119)))) = some r := h
  clear h
  replace H := Option.bind_eq_some_iff.mp H
  obtain ⟨t117, A20, H⟩ := H
  replace H : (if a0 < 0 then (if 1 ≤ (t117.size : Int) then ((spec_grouped.f k (t117.extract 1 t117.size) (⟨#[44]⟩ : ByteArray)).bind fun t118 => (if 1 + t118.size ≤ 9223372036854775807 then (some ((⟨#[45]⟩ : ByteArray) ++ t118)) else (none))) else (none)) else ((spec_grouped.f k t117 (⟨#[44]⟩ : ByteArray)).bind fun t119 => (some t119))) = some r := H
  have A2 := Aside0.mk A20
  clear A20
  by_cases c3 : a0 < 0
  · rw [if_pos c3] at H
    have c3b0 : decide (a0 < 0) = true := decide_eq_true c3
    clear c3
    by_cases c4 : 1 ≤ (t117.size : Int)
    · rw [if_pos c4] at H
      have c4b0 := eq_true c4
      have c4b1 : decide (1 ≤ (t117.size : Int)) = true := decide_eq_true c4
      clear c4
      replace H := Option.bind_eq_some_iff.mp H
      obtain ⟨t118, A50, H⟩ := H
      replace H : (if 1 + t118.size ≤ 9223372036854775807 then (some ((⟨#[45]⟩ : ByteArray) ++ t118)) else (none)) = some r := H
      have A5 := Aside0.mk A50
      clear A50
      by_cases c6 : 1 + t118.size ≤ 9223372036854775807
      · rw [if_pos c6] at H
        have c6b0 := eq_true c6
        have c6b1 : decide (1 + t118.size ≤ 9223372036854775807) = true := decide_eq_true c6
        try have c6b2 : (9223372036854775807 < 1 + t118.size) = False := eq_false (Nat.not_lt.2 c6)
        obtain rfl := Option.some.inj H
        go_enter Tryd.func16, Tryd.ntmps16
        go_wp2_with (first | ((with_reducible refine gate_callee (f := 18) rfl ?_); refine goesL_ (some 5) rfl rfl Tryd.func18 (by kernel_rfl) rfl #[.int .i64 a0] rfl (by (try simp only [List.map_toArray, List.map_cons, List.map_nil]); first | done | rfl | (simp only [List.length_drop, List.length_take]; rfl)) ?_; (with_reducible refine (spec_Decimal.calls k a0 t117 _ A2.out).mono ?_); rintro e w' ⟨rfl, ⟨nd, rfl⟩⟩; refine ⟨_, rfl, ?_⟩) | ((with_reducible refine gate_callee (f := 26) rfl ?_); refine goesL_ (some 10) rfl rfl Tryd.func26 (by kernel_rfl) rfl #[.string (t117.extract 1 t117.size), .string (⟨#[44]⟩ : ByteArray)] rfl (by (try simp only [List.map_toArray, List.map_cons, List.map_nil]); first | done | rfl | (simp only [List.length_drop, List.length_take]; rfl)) ?_; (with_reducible refine (spec_grouped.calls k (t117.extract 1 t117.size) (⟨#[44]⟩ : ByteArray) t118 _ A5.out).mono ?_); rintro e w' ⟨rfl, ⟨nd, rfl⟩⟩; refine ⟨_, rfl, ?_⟩))
        go_ret
        exact ⟨by first | rfl | (simp; done) | (simp [*]; done), by repeat (first | exact Drawn0.refl _ | apply Drawn0.step)⟩
      · rw [if_neg c6] at H
        exact absurd H (by simp)
    · rw [if_neg c4] at H
      exact absurd H (by simp)
  · rw [if_neg c3] at H
    have c3b0 : decide (a0 < 0) = false := decide_eq_false c3
    clear c3
    replace H := Option.bind_eq_some_iff.mp H
    obtain ⟨t119, A70, H⟩ := H
    replace H : (some t119) = some r := H
    have A7 := Aside0.mk A70
    clear A70
    obtain rfl := Option.some.inj H
    go_enter Tryd.func16, Tryd.ntmps16
    go_wp2_with (first | ((with_reducible refine gate_callee (f := 18) rfl ?_); refine goesL_ (some 5) rfl rfl Tryd.func18 (by kernel_rfl) rfl #[.int .i64 a0] rfl (by (try simp only [List.map_toArray, List.map_cons, List.map_nil]); first | done | rfl | (simp only [List.length_drop, List.length_take]; rfl)) ?_; (with_reducible refine (spec_Decimal.calls k a0 t117 _ A2.out).mono ?_); rintro e w' ⟨rfl, ⟨nd, rfl⟩⟩; refine ⟨_, rfl, ?_⟩) | ((with_reducible refine gate_callee (f := 26) rfl ?_); refine goesL_ (some 13) rfl rfl Tryd.func26 (by kernel_rfl) rfl #[.string t117, .string (⟨#[44]⟩ : ByteArray)] rfl (by (try simp only [List.map_toArray, List.map_cons, List.map_nil]); first | done | rfl | (simp only [List.length_drop, List.length_take]; rfl)) ?_; (with_reducible refine (spec_grouped.calls k t117 (⟨#[44]⟩ : ByteArray) t119 _ A7.out).mono ?_); rintro e w' ⟨rfl, ⟨nd, rfl⟩⟩; refine ⟨_, rfl, ?_⟩))
    go_ret
    exact ⟨by first | rfl | (simp; done) | (simp [*]; done), by repeat (first | exact Drawn0.refl _ | apply Drawn0.step)⟩

/-! ### humanize_zzWithout: function 35 -/
def humanize_zzWithout.l0 : Nat → ByteArray → Int → List Int → Int → Option (ByteArray)
  | 0, _, _, _, _ => none
  | k + 1, x0, x1, x5, x6 => if x6 < (x0.size : Int) then (if 0 ≤ x6 then (if (bt x0 x6) = x1 then (humanize_zzWithout.l0 k x0 x1 x5 (wrap64 (x6 + 1))) else (if x5.length < 140737488355328 then (humanize_zzWithout.l0 k x0 x1 (x5 ++ [bt x0 x6]) (wrap64 (x6 + 1))) else (none))) else (none)) else (some (strOfNums x5))
def humanize_zzWithout.f (k : Nat) (a0 : ByteArray) (a1 : Int) : Option (ByteArray) := humanize_zzWithout.l0 k a0 a1 ([] : List Int) 0
theorem humanize_zzWithout.mono_l : ∀ k, (∀ y0 y1 y2 y3, LeO (humanize_zzWithout.l0 k y0 y1 y2 y3) (humanize_zzWithout.l0 (k + 1) y0 y1 y2 y3))
  | 0 => fun _ _ _ _ r h => by simp [humanize_zzWithout.l0] at h
  | k + 1 => by
    have ih0 := humanize_zzWithout.mono_l k
    · intro y0 y1 y2 y3
      unfold humanize_zzWithout.l0
      repeat' first
      | (with_reducible exact ih0 _ _ _ _)
      | (with_reducible exact LeO.refl _)
      | (with_reducible exact LeO.none _)
      | (with_reducible refine LeO.ite ?_ ?_)
      | (with_reducible refine LeO.bind ?_ (fun _ => ?_))
      | exact ih0 _ _ _ _
      | exact LeO.none _
      | refine LeO.ite ?_ ?_
      | refine LeO.bind ?_ (fun _ => ?_)
theorem humanize_zzWithout.mono : ∀ a0 a1 k, LeO (humanize_zzWithout.f k a0 a1) (humanize_zzWithout.f (k + 1) a0 a1) := by
  intro a0 a1 k
  have ih0 := humanize_zzWithout.mono_l k
  unfold humanize_zzWithout.f
  repeat' first
      | (with_reducible exact ih0 _ _ _ _)
      | (with_reducible exact LeO.refl _)
      | (with_reducible exact LeO.none _)
      | (with_reducible refine LeO.ite ?_ ?_)
      | (with_reducible refine LeO.bind ?_ (fun _ => ?_))
      | exact ih0 _ _ _ _
      | exact LeO.none _
      | refine LeO.ite ?_ ?_
      | refine LeO.bind ?_ (fun _ => ?_)
set_option maxHeartbeats 8000000 in
set_option maxRecDepth 100000 in
theorem humanize_zzWithout.calls (k : Nat) (a0 : ByteArray) (a1 : Int) (r : ByteArray) (w : World) (h : humanize_zzWithout.f k a0 a1 = some r) :
    Calls Tryd.prog 35 #[.string a0, .int .u8 a1] w fun e w' => e = .returned (.string r) ∧ Below w.heap.size w w' := by
  have HB := Aside0.mk (Below.refl w.heap.size w)
  have H : (humanize_zzWithout.l0 k a0 a1 ([] : List Int) 0) = some r := h
  clear h
  have H' := Aside0.mk H
  clear H
  go_enter Tryd.func35, Tryd.ntmps35
  go_wp2
  go_loopg [5, 6] k (fun kq v5 v6 w' => ∃ (x5_1 : List Int) (x6_1 : Int), v6 = .int .i64 x6_1 ∧ Aside0 (humanize_zzWithout.l0 kq a0 a1 x5_1 x6_1 = some r) ∧ Aside0 (kq ≤ k) ∧ Aside0 (Kd.R (Kd.int .u8) 5 w' w.heap.size (fun _ => True) v5 x5_1) ∧ Aside0 (Below w.heap.size w w'))
  case atStart => exact ⟨(([] : List Int)), (0), (by first | rfl | (simp; done) | (simp [*]; done)), H', ⟨Nat.le_refl _⟩, ⟨by first | exact Kd.R_nil _ _ _ _ _ | exact Kd.N_nil _ _ _ _ _ | exact Kd.V_nil _ _ _ _ _ | exact Kd.Q_nil _ _ _ _ _ | exact Kd.S_nil _ _ _ _ _⟩, ⟨by repeat (first | (with_reducible first | exact HB.out | apply below_alloc | apply pw_below_drewN | apply below_drew1) | exact HB.out)⟩⟩
  case round =>
    clear H'
    try clear p2
    obtain ⟨x5_1, x6_1, rfl, HA, HK1, HO_5, HB⟩ := hrel
    cases gk with
    | zero => exact absurd HA.out (by simp [humanize_zzWithout.l0])
    | succ k1 =>
      have H := HA.out
      clear HA
      simp only [humanize_zzWithout.l0] at H
      by_cases c3 : x6_1 < (a0.size : Int)
      · rw [if_pos c3] at H
        have c3b0 : decide (x6_1 < (a0.size : Int)) = true := decide_eq_true c3
        clear c3
        by_cases c4 : 0 ≤ x6_1
        · rw [if_pos c4] at H
          have c4b0 : decide (0 ≤ x6_1) = true := decide_eq_true c4
          clear c4
          by_cases c6 : (bt a0 x6_1) = a1
          · rw [if_pos c6] at H
            have c6b0 : ((bt a0 x6_1) == a1) = true := beq_iff_eq.mpr c6
            have c6b1 : ((bt a0 x6_1) != a1) = false := bne_eq_false_iff_eq.mpr c6
            clear c6
            have H' := Aside0.mk H
            clear H
            have p5 : 0 ≤ (x6_1 : Int) := of_decide_eq_true (by first | (with_reducible assumption) | assumption)
            have q5 : x6_1 < (a0.size : Int) := of_decide_eq_true (by first | (with_reducible assumption) | assumption)
            have hx5 := bt_at a0 x6_1
            replace p5 := eq_true p5
            replace q5 := eq_true q5
            go_wp2
            go_roundg k1
            case measure => have := HK1.out; omega
            case rel => exact ⟨(x5_1), (wrap64 (x6_1 + 1)), (by first | rfl | (simp; done) | (simp [*]; done)), H', ⟨by have := HK1.out; omega⟩, ⟨by (with_reducible repeat (first | apply Kd.R_alloc | apply Kd.R_drewN | apply Kd.R_drew)); exact HO_5.out⟩, ⟨by repeat (first | (with_reducible first | exact HB.out | apply below_alloc | apply pw_below_drewN | apply below_drew1) | exact HB.out)⟩⟩
          · rw [if_neg c6] at H
            have c6b0 : ((bt a0 x6_1) == a1) = false := beq_eq_false_iff_ne.mpr c6
            have c6b1 : ((bt a0 x6_1) != a1) = true := bne_iff_ne.mpr c6
            by_cases c8 : x5_1.length < 140737488355328
            · rw [if_pos c8] at H
              have LMc8 := Aside0.mk c8
              clear c8
              obtain ⟨y120, hy120⟩ : ∃ y_ : List Int, y_ = (x5_1 ++ [bt a0 x6_1]) := ⟨_, rfl⟩
              replace H : (humanize_zzWithout.l0 k1 a0 a1 y120 (wrap64 (x6_1 + 1))) = some r := by first | (rw [hy120]; with_reducible exact H) | (have H2_ := (Option.bind_some _ _).symm.trans H; rw [hy120]; with_reducible exact H2_) | (have H2_ := (Option.bind_some _ _).symm.trans H; with_reducible exact H2_) | with_reducible exact H | (rw [hy120]; exact H) | exact H
              have Ny120 := Aside0.mk hy120
              clear hy120
              have H' := Aside0.mk H
              clear H
              have p5 : 0 ≤ (x6_1 : Int) := of_decide_eq_true (by first | (with_reducible assumption) | assumption)
              have q5 : x6_1 < (a0.size : Int) := of_decide_eq_true (by first | (with_reducible assumption) | assumption)
              have hx5 := bt_at a0 x6_1
              replace p5 := eq_true p5
              replace q5 := eq_true q5
              have p7 : 0 ≤ (x6_1 : Int) := of_decide_eq_true (by first | (with_reducible assumption) | assumption)
              have q7 : x6_1 < (a0.size : Int) := of_decide_eq_true (by first | (with_reducible assumption) | assumption)
              have hx7 := bt_at a0 x6_1
              replace p7 := eq_true p7
              replace q7 := eq_true q7
              go_wp2_with (first | ((with_reducible refine gate_builtin (b := .append) (xs := #[.tmp 18, .tmp 22]) rfl ?_); at_builtin; refine Kd.R_append (Kd.int .u8) (w0 := w) w.heap.size rfl (.tmp 18) (.tmp 22) 61 5 (.int .u8 0) 1 rfl Tryd.underlying61 info5 rfl (by decide) (by omega) u5 x5_1 (bt a0 x6_1) [.int .u8 (bt a0 x6_1)] (fun _ => True) (fun _ => False) rfl rfl ?aP (fun _ hk => hk.elim) ?aF ?aO ?aB ?aS ?aL ?_; (case aP => exact rfl); (case aB => exact (by repeat (first | (with_reducible first | exact HB.out | apply below_alloc | apply pw_below_drewN | apply below_drew1) | exact HB.out))); (case aF => exact (fun _ _ => trivial)); (case aO => exact (by (with_reducible repeat (first | apply Kd.R_alloc | apply Kd.R_drewN | apply Kd.R_drew)); exact HO_5.out)); (case aS => exact (below_size (by repeat (first | (with_reducible first | exact HB.out | apply below_alloc | apply pw_below_drewN | apply below_drew1) | exact HB.out)))); (case aL => have := LMc8.out; omega); intro v121 w9 ho hb hg hat; rw [← Ny120.out] at ho; have n0_ := Aside0.mk (hb); have n1_ := Aside0.mk (ho); clear HB; clear HO_5; have HB := n0_; have HO122 := n1_; clear n0_ n1_; clear ho hb hg hat))
              go_roundg k1
              case measure => have := HK1.out; omega
              case rel => exact ⟨(y120), (wrap64 (x6_1 + 1)), (by first | rfl | (simp; done) | (simp [*]; done)), H', ⟨by have := HK1.out; omega⟩, ⟨by (with_reducible repeat (first | apply Kd.R_alloc | apply Kd.R_drewN | apply Kd.R_drew)); exact HO122.out⟩, ⟨by repeat (first | (with_reducible first | exact HB.out | apply below_alloc | apply pw_below_drewN | apply below_drew1) | exact HB.out)⟩⟩
            · rw [if_neg c8] at H
              exact absurd H (by simp)
        · rw [if_neg c4] at H
          exact absurd H (by simp)
      · rw [if_neg c3] at H
        have c3b0 : decide (x6_1 < (a0.size : Int)) = false := decide_eq_false c3
        clear c3
        obtain rfl := Option.some.inj H
        have hcv10 := own_string (P := Tryd.prog) Tryd.underlying61 Tryd.underlying5 Tryd.underlying9 (Kd.own_of_R HO_5.out)
        go_wp2
        go_ret
        exact ⟨by first | rfl | (simp [errW_none, errW_some] <;> rfl) | (simp [*, errW_none, errW_some] <;> rfl), by repeat (first | (with_reducible first | exact HB.out | apply below_alloc | apply pw_below_drewN | apply below_drew1) | exact HB.out)⟩

/-! ### impl_isText: function 19 -/
mutual
def impl_isText.l0 : Nat → Bool → List ByteArray → List ByteArray → Int → Int → Option (Bool)
  | 0, _, _, _, _, _ => none
  | k + 1, x0, x1, x8, x9, x10 => if x10 < x9 then (if 0 ≤ x10 then (if x10 < (x8.length : Int) then (impl_isText.l1 k x0 x1 (rdOf ByteArray.empty x8 x10) 0 x8 x9 x10) else (none)) else (none)) else (some (decide ((x1.length : Int) ≤ 20)))
def impl_isText.l1 : Nat → Bool → List ByteArray → ByteArray → Int → List ByteArray → Int → Int → Option (Bool)
  | 0, _, _, _, _, _, _, _ => none
  | k + 1, x0, x1, x6, x7, x8, x9, x10 => if x7 < (x6.size : Int) then (if x0 = true then (if 0 ≤ x7 then (if (bt x6 x7) > 127 then (some false) else (impl_isText.l1 k x0 x1 x6 (wrap64 (x7 + 1)) x8 x9 x10)) else (none)) else (impl_isText.l1 k x0 x1 x6 (wrap64 (x7 + 1)) x8 x9 x10)) else (if (x6.size : Int) > 200 then (some false) else (impl_isText.l0 k x0 x1 x8 x9 (wrap64 (x10 + 1))))
end
def impl_isText.f (k : Nat) (a0 : Bool) (l1 : List ByteArray) : Option (Bool) := impl_isText.l0 k a0 l1 l1 (l1.length : Int) 0
theorem impl_isText.mono_l : ∀ k, (∀ y0 y1 y2 y3 y4, LeO (impl_isText.l0 k y0 y1 y2 y3 y4) (impl_isText.l0 (k + 1) y0 y1 y2 y3 y4)) ∧ (∀ y0 y1 y2 y3 y4 y5 y6, LeO (impl_isText.l1 k y0 y1 y2 y3 y4 y5 y6) (impl_isText.l1 (k + 1) y0 y1 y2 y3 y4 y5 y6))
  | 0 => ⟨fun _ _ _ _ _ r h => by simp [impl_isText.l0] at h, fun _ _ _ _ _ _ _ r h => by simp [impl_isText.l1] at h⟩
  | k + 1 => by
    obtain ⟨ih0, ih1⟩ := impl_isText.mono_l k
    refine ⟨?_, ?_⟩
    · intro y0 y1 y2 y3 y4
      unfold impl_isText.l0
      repeat' first
      | (with_reducible exact ih0 _ _ _ _ _)
      | (with_reducible exact ih1 _ _ _ _ _ _ _)
      | (with_reducible exact LeO.refl _)
      | (with_reducible exact LeO.none _)
      | (with_reducible refine LeO.ite ?_ ?_)
      | (with_reducible refine LeO.bind ?_ (fun _ => ?_))
      | exact ih0 _ _ _ _ _
      | exact ih1 _ _ _ _ _ _ _
      | exact LeO.none _
      | refine LeO.ite ?_ ?_
      | refine LeO.bind ?_ (fun _ => ?_)
    · intro y0 y1 y2 y3 y4 y5 y6
      unfold impl_isText.l1
      repeat' first
      | (with_reducible exact ih0 _ _ _ _ _)
      | (with_reducible exact ih1 _ _ _ _ _ _ _)
      | (with_reducible exact LeO.refl _)
      | (with_reducible exact LeO.none _)
      | (with_reducible refine LeO.ite ?_ ?_)
      | (with_reducible refine LeO.bind ?_ (fun _ => ?_))
      | exact ih0 _ _ _ _ _
      | exact ih1 _ _ _ _ _ _ _
      | exact LeO.none _
      | refine LeO.ite ?_ ?_
      | refine LeO.bind ?_ (fun _ => ?_)
theorem impl_isText.mono : ∀ a0 a1 k, LeO (impl_isText.f k a0 a1) (impl_isText.f (k + 1) a0 a1) := by
  intro a0 a1 k
  obtain ⟨ih0, ih1⟩ := impl_isText.mono_l k
  unfold impl_isText.f
  repeat' first
      | (with_reducible exact ih0 _ _ _ _ _)
      | (with_reducible exact ih1 _ _ _ _ _ _ _)
      | (with_reducible exact LeO.refl _)
      | (with_reducible exact LeO.none _)
      | (with_reducible refine LeO.ite ?_ ?_)
      | (with_reducible refine LeO.bind ?_ (fun _ => ?_))
      | exact ih0 _ _ _ _ _
      | exact ih1 _ _ _ _ _ _ _
      | exact LeO.none _
      | refine LeO.ite ?_ ?_
      | refine LeO.bind ?_ (fun _ => ?_)
set_option maxHeartbeats 8000000 in
set_option maxRecDepth 100000 in
theorem impl_isText.calls (k : Nat) (a0 : Bool) (A1 : Option Addr) (c1 : Nat) (l1 : List ByteArray) (r : Bool) (w : World) (hr1 : Kd.C Kd.string w A1 l1.length l1) (hc1 : l1.length ≤ c1) (h : impl_isText.f k a0 l1 = some r) :
    Calls Tryd.prog 19 #[.bool a0, .slice A1 l1.length c1] w fun e w' => e = .returned (.bool r) ∧ Drawn0 w w' := by
  have HR1 := Aside0.mk hr1
  have HC1 := Aside0.mk hc1
  clear hr1 hc1
  have H : (impl_isText.l0 k a0 l1 l1 (l1.length : Int) 0) = some r := h
  clear h
  have H' := Aside0.mk H
  clear H
  go_enter Tryd.func19, Tryd.ntmps19
  go_wp2
  go_loopg [10] k (fun kq v10 w' => ∃ (x10_1 : Int), v10 = .int .i64 x10_1 ∧ Aside0 (impl_isText.l0 kq a0 l1 l1 (l1.length : Int) x10_1 = some r) ∧ Aside0 (kq ≤ k) ∧ Drawn0 w w')
  case atStart => exact ⟨(0), (by first | rfl | (simp; done) | (simp [*]; done)), H', ⟨Nat.le_refl _⟩, by repeat (first | exact Drawn0.refl _ | apply Drawn0.step)⟩
  case round =>
    clear H'
    try clear c1
    try clear p2
    obtain ⟨x10_1, rfl, HA, HK1, ⟨m1, rfl⟩⟩ := hrel
    cases gk with
    | zero => exact absurd HA.out (by simp [impl_isText.l0])
    | succ k1 =>
      have H := HA.out
      clear HA
      simp only [impl_isText.l0] at H
      by_cases c3 : x10_1 < (l1.length : Int)
      · rw [if_pos c3] at H
        have c3b0 : decide (x10_1 < (l1.length : Int)) = true := decide_eq_true c3
        clear c3
        by_cases c4 : 0 ≤ x10_1
        · rw [if_pos c4] at H
          have c4b0 : decide (0 ≤ x10_1) = true := decide_eq_true c4
          clear c4
          by_cases c5 : x10_1 < (l1.length : Int)
          · rw [if_pos c5] at H
            have c5b0 : decide (x10_1 < (l1.length : Int)) = true := decide_eq_true c5
            clear c5
            have H' := Aside0.mk H
            clear H
            have p123 : 0 ≤ (x10_1 : Int) := of_decide_eq_true (by first | (with_reducible assumption) | assumption)
            have q123 : x10_1 < (l1.length : Int) := of_decide_eq_true (by first | (with_reducible assumption) | assumption)
            obtain ⟨ad123, e123, hx123_0⟩ := Kd.at_string HR1.out x10_1 p123 q123
            cases e123
            replace p123 := eq_true p123
            replace q123 := eq_true q123
            go_wp2
            go_loopg [7] k1 (fun kq v7 w' => ∃ (x7_2 : Int), v7 = .int .i64 x7_2 ∧ Aside0 (impl_isText.l1 kq a0 l1 (rdOf ByteArray.empty l1 x10_1) x7_2 l1 (l1.length : Int) x10_1 = some r) ∧ Aside0 (kq ≤ k1) ∧ Drawn0 w w')
            case atStart => exact ⟨(0), (by first | rfl | (simp; done) | (simp [*]; done)), H', ⟨Nat.le_refl _⟩, by repeat (first | exact Drawn0.refl _ | apply Drawn0.step)⟩
            case round =>
              clear H'
              try clear c1
              try clear p1
              try clear q1
              try clear hx1
              try clear p2
              try clear c3
              try clear c3b0
              try clear c4
              try clear c4b0
              try clear c5
              try clear c5b0
              try clear hx123_0
              try clear p123
              try clear p2
              try clear q123
              obtain ⟨x7_2, rfl, HA, HK2, ⟨m2, rfl⟩⟩ := hrel
              cases gk with
              | zero => exact absurd HA.out (by simp [impl_isText.l1])
              | succ k2 =>
                have H := HA.out
                clear HA
                simp only [impl_isText.l1] at H
                by_cases c6 : x7_2 < ((rdOf ByteArray.empty l1 x10_1).size : Int)
                · rw [if_pos c6] at H
                  have c6b0 : decide (x7_2 < ((rdOf ByteArray.empty l1 x10_1).size : Int)) = true := decide_eq_true c6
                  clear c6
                  by_cases c7 : a0 = true
                  · subst c7
                    have H1 : (if 0 ≤ x7_2 then (if (bt (rdOf ByteArray.empty l1 x10_1) x7_2) > 127 then (some false) else (impl_isText.l1 k2 true l1 (rdOf ByteArray.empty l1 x10_1) (wrap64 (x7_2 + 1)) l1 (l1.length : Int) x10_1)) else (none)) = some r := by rw [if_pos rfl] at H; exact H
                    clear H
                    have H := H1
                    clear H1
                    by_cases c8 : 0 ≤ x7_2
                    · rw [if_pos c8] at H
                      have c8b0 : decide (0 ≤ x7_2) = true := decide_eq_true c8
                      clear c8
                      by_cases c10 : (bt (rdOf ByteArray.empty l1 x10_1) x7_2) > 127
                      · rw [if_pos c10] at H
                        have c10b0 : decide (127 < (bt (rdOf ByteArray.empty l1 x10_1) x7_2)) = true := decide_eq_true c10
                        clear c10
                        obtain rfl := Option.some.inj H
                        have p9 : 0 ≤ (x7_2 : Int) := of_decide_eq_true (by first | (with_reducible assumption) | assumption)
                        have q9 : x7_2 < ((rdOf ByteArray.empty l1 x10_1).size : Int) := of_decide_eq_true (by first | (with_reducible assumption) | assumption)
                        have hx9 := bt_at (rdOf ByteArray.empty l1 x10_1) x7_2
                        replace p9 := eq_true p9
                        replace q9 := eq_true q9
                        go_wp2
                        go_ret
                        exact ⟨by first | rfl | (simp; done) | (simp [*]; done), by repeat (first | exact Drawn0.refl _ | apply Drawn0.step)⟩
                      · rw [if_neg c10] at H
                        have c10b0 : decide (127 < (bt (rdOf ByteArray.empty l1 x10_1) x7_2)) = false := decide_eq_false c10
                        clear c10
                        have H' := Aside0.mk H
                        clear H
                        have p9 : 0 ≤ (x7_2 : Int) := of_decide_eq_true (by first | (with_reducible assumption) | assumption)
                        have q9 : x7_2 < ((rdOf ByteArray.empty l1 x10_1).size : Int) := of_decide_eq_true (by first | (with_reducible assumption) | assumption)
                        have hx9 := bt_at (rdOf ByteArray.empty l1 x10_1) x7_2
                        replace p9 := eq_true p9
                        replace q9 := eq_true q9
                        go_wp2
                        go_roundg k2
                        case measure => have := HK1.out; have := HK2.out; omega
                        case rel => exact ⟨(wrap64 (x7_2 + 1)), (by first | rfl | (simp; done) | (simp [*]; done)), H', ⟨by have := HK1.out; have := HK2.out; omega⟩, by repeat (first | exact Drawn0.refl _ | apply Drawn0.step)⟩
                    · rw [if_neg c8] at H
                      exact absurd H (by simp)
                  · replace c7 := Bool.eq_false_iff.mpr c7
                    subst c7
                    have H1 : (impl_isText.l1 k2 false l1 (rdOf ByteArray.empty l1 x10_1) (wrap64 (x7_2 + 1)) l1 (l1.length : Int) x10_1) = some r := by rw [if_neg (show ¬ (false = true) by decide)] at H; exact H
                    clear H
                    have H := H1
                    clear H1
                    have H' := Aside0.mk H
                    clear H
                    go_wp2
                    go_roundg k2
                    case measure => have := HK1.out; have := HK2.out; omega
                    case rel => exact ⟨(wrap64 (x7_2 + 1)), (by first | rfl | (simp; done) | (simp [*]; done)), H', ⟨by have := HK1.out; have := HK2.out; omega⟩, by repeat (first | exact Drawn0.refl _ | apply Drawn0.step)⟩
                · rw [if_neg c6] at H
                  have c6b0 : decide (x7_2 < ((rdOf ByteArray.empty l1 x10_1).size : Int)) = false := decide_eq_false c6
                  clear c6
                  by_cases c11 : ((rdOf ByteArray.empty l1 x10_1).size : Int) > 200
                  · rw [if_pos c11] at H
                    have c11b0 : decide (200 < ((rdOf ByteArray.empty l1 x10_1).size : Int)) = true := decide_eq_true c11
                    have c11b1 : decide (200 < (rdOf ByteArray.empty l1 x10_1).size) = true := decide_eq_true (by omega)
                    clear c11
                    obtain rfl := Option.some.inj H
                    go_wp2
                    go_ret
                    exact ⟨by first | rfl | (simp; done) | (simp [*]; done), by repeat (first | exact Drawn0.refl _ | apply Drawn0.step)⟩
                  · rw [if_neg c11] at H
                    have c11b0 : decide (200 < ((rdOf ByteArray.empty l1 x10_1).size : Int)) = false := decide_eq_false c11
                    have c11b1 : decide (200 < (rdOf ByteArray.empty l1 x10_1).size) = false := decide_eq_false (by omega)
                    clear c11
                    have H' := Aside0.mk H
                    clear H
                    go_wp2
                    go_roundg k2
                    case measure => have := HK1.out; have := HK2.out; omega
                    case rel => exact ⟨(wrap64 (x10_1 + 1)), (by first | rfl | (simp; done) | (simp [*]; done)), H', ⟨by have := HK1.out; have := HK2.out; omega⟩, by repeat (first | exact Drawn0.refl _ | apply Drawn0.step)⟩
          · rw [if_neg c5] at H
            exact absurd H (by simp)
        · rw [if_neg c4] at H
          exact absurd H (by simp)
      · rw [if_neg c3] at H
        have c3b0 : decide (x10_1 < (l1.length : Int)) = false := decide_eq_false c3
        clear c3
        obtain rfl := Option.some.inj H
        go_wp2
        go_ret
        exact ⟨by first | rfl | (simp; done) | (simp [*]; done), by repeat (first | exact Drawn0.refl _ | apply Drawn0.step)⟩

end Go.Proofs.YtmdgbbiipjmenaaDoor.PAll
