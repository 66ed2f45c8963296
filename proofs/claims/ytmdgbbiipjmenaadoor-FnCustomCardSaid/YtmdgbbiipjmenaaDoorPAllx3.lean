-- written by a program of this work
import Derived.Test.YtmdgbbiipjmenaaDoorPAllx0
import Derived.Test.YtmdgbbiipjmenaaDoorPAllx1
import Derived.Test.YtmdgbbiipjmenaaDoorPAllx2
namespace Go.Proofs.YtmdgbbiipjmenaaDoor.PAll
open Go.RowKit Go.Proofs.YtmdgbbiipjmenaaDoorW.PrintWords Go.Proofs.YtmdgbbiipjmenaaDoorW.PrintLast Go.Proofs.YtmdgbbiipjmenaaDoorW.PrintMore
attribute [local go_sem] max2_int min2_int max_two min_two max_three min_three max_four min_four   -- for this text's walks alone
set_option linter.unusedVariables false
set_option linter.unusedSimpArgs false

/-! ### spec_Filled: function 10 -/
mutual
def spec_Filled.l0 : Nat → ByteArray → Int → ByteArray → ByteArray → Int → Option (ByteArray)
  | 0, _, _, _, _, _ => none
  | k + 1, x0, x1, x2, x7, x8 => if x8 < (x0.size : Int) then (if 0 ≤ x8 then (if (bt x0 x8) = 37 then (spec_Filled.j1 k x0 x1 x2 x7 x8 ((wrap64 (x8 + 1)) == (x0.size : Int))) else (spec_Filled.j1 k x0 x1 x2 x7 x8 true)) else (none)) else (some x7)
def spec_Filled.j1 : Nat → ByteArray → Int → ByteArray → ByteArray → Int → Bool → Option (ByteArray)
  | 0, _, _, _, _, _, _ => none
  | k + 1, x0, x1, x2, x7, x8, x25 => if x25 = true then (if 0 ≤ x8 then (if x8 ≤ (wrap64 (x8 + 1)) then (if (wrap64 (x8 + 1)) ≤ (x0.size : Int) then (if x7.size + (x0.extract (x8 : Int).toNat ((wrap64 (x8 + 1)) : Int).toNat).size ≤ 9223372036854775807 then (spec_Filled.l0 k x0 x1 x2 (x7 ++ (x0.extract (x8 : Int).toNat ((wrap64 (x8 + 1)) : Int).toNat)) (wrap64 (x8 + 1))) else (none)) else (none)) else (none)) else (none)) else (if 0 ≤ (wrap64 (x8 + 1)) then (if (wrap64 (x8 + 1)) < (x0.size : Int) then (if (bt x0 (wrap64 (x8 + 1))) = 100 then ((spec_Decimal.f k x1).bind fun t124 => (if x7.size + t124.size ≤ 9223372036854775807 then (spec_Filled.l0 k x0 x1 x2 (x7 ++ t124) (wrap64 ((wrap64 (x8 + 1)) + 1))) else (none))) else (if (bt x0 (wrap64 (x8 + 1))) = 115 then (if x7.size + x2.size ≤ 9223372036854775807 then (spec_Filled.l0 k x0 x1 x2 (x7 ++ x2) (wrap64 ((wrap64 (x8 + 1)) + 1))) else (none)) else (if (wrap64 (x8 + 1)) ≤ (wrap64 ((wrap64 (x8 + 1)) + 1)) then (if (wrap64 ((wrap64 (x8 + 1)) + 1)) ≤ (x0.size : Int) then (if x7.size + (x0.extract ((wrap64 (x8 + 1)) : Int).toNat ((wrap64 ((wrap64 (x8 + 1)) + 1)) : Int).toNat).size ≤ 9223372036854775807 then (spec_Filled.l0 k x0 x1 x2 (x7 ++ (x0.extract ((wrap64 (x8 + 1)) : Int).toNat ((wrap64 ((wrap64 (x8 + 1)) + 1)) : Int).toNat)) (wrap64 ((wrap64 (x8 + 1)) + 1))) else (none)) else (none)) else (none)))) else (none)) else (none))
end
def spec_Filled.f (k : Nat) (a0 : ByteArray) (a1 : Int) (a2 : ByteArray) : Option (ByteArray) := spec_Filled.l0 k a0 a1 a2 (⟨#[]⟩ : ByteArray) 0
theorem spec_Filled.mono_l : ∀ k, (∀ y0 y1 y2 y3 y4, LeO (spec_Filled.l0 k y0 y1 y2 y3 y4) (spec_Filled.l0 (k + 1) y0 y1 y2 y3 y4)) ∧ (∀ y0 y1 y2 y3 y4 y5, LeO (spec_Filled.j1 k y0 y1 y2 y3 y4 y5) (spec_Filled.j1 (k + 1) y0 y1 y2 y3 y4 y5))
  | 0 => ⟨fun _ _ _ _ _ r h => by simp [spec_Filled.l0] at h, fun _ _ _ _ _ _ r h => by simp [spec_Filled.j1] at h⟩
  | k + 1 => by
    obtain ⟨ih0, ih1⟩ := spec_Filled.mono_l k
    refine ⟨?_, ?_⟩
    · intro y0 y1 y2 y3 y4
      unfold spec_Filled.l0
      repeat' first
      | (with_reducible exact ih0 _ _ _ _ _)
      | (with_reducible exact ih1 _ _ _ _ _ _)
      | (with_reducible exact spec_Decimal.mono _ _)
      | (with_reducible exact LeO.refl _)
      | (with_reducible exact LeO.none _)
      | (with_reducible refine LeO.ite ?_ ?_)
      | (with_reducible refine LeO.bind ?_ (fun _ => ?_))
      | exact ih0 _ _ _ _ _
      | exact ih1 _ _ _ _ _ _
      | exact spec_Decimal.mono _ _
      | exact LeO.none _
      | refine LeO.ite ?_ ?_
      | refine LeO.bind ?_ (fun _ => ?_)
    · intro y0 y1 y2 y3 y4 y5
      unfold spec_Filled.j1
      repeat' first
      | (with_reducible exact ih0 _ _ _ _ _)
      | (with_reducible exact ih1 _ _ _ _ _ _)
      | (with_reducible exact spec_Decimal.mono _ _)
      | (with_reducible exact LeO.refl _)
      | (with_reducible exact LeO.none _)
      | (with_reducible refine LeO.ite ?_ ?_)
      | (with_reducible refine LeO.bind ?_ (fun _ => ?_))
      | exact ih0 _ _ _ _ _
      | exact ih1 _ _ _ _ _ _
      | exact spec_Decimal.mono _ _
      | exact LeO.none _
      | refine LeO.ite ?_ ?_
      | refine LeO.bind ?_ (fun _ => ?_)
theorem spec_Filled.mono : ∀ a0 a1 a2 k, LeO (spec_Filled.f k a0 a1 a2) (spec_Filled.f (k + 1) a0 a1 a2) := by
  intro a0 a1 a2 k
  obtain ⟨ih0, ih1⟩ := spec_Filled.mono_l k
  unfold spec_Filled.f
  repeat' first
      | (with_reducible exact ih0 _ _ _ _ _)
      | (with_reducible exact ih1 _ _ _ _ _ _)
      | (with_reducible exact spec_Decimal.mono _ _)
      | (with_reducible exact LeO.refl _)
      | (with_reducible exact LeO.none _)
      | (with_reducible refine LeO.ite ?_ ?_)
      | (with_reducible refine LeO.bind ?_ (fun _ => ?_))
      | exact ih0 _ _ _ _ _
      | exact ih1 _ _ _ _ _ _
      | exact spec_Decimal.mono _ _
      | exact LeO.none _
      | refine LeO.ite ?_ ?_
      | refine LeO.bind ?_ (fun _ => ?_)
set_option maxHeartbeats 8000000 in
set_option maxRecDepth 100000 in
theorem spec_Filled.calls (k : Nat) (a0 : ByteArray) (a1 : Int) (a2 : ByteArray) (r : ByteArray) (w : World) (h : spec_Filled.f k a0 a1 a2 = some r) :
    Calls Tryd.prog 10 #[.string a0, .int .i64 a1, .string a2] w fun e w' => e = .returned (.string r) ∧ Drawn0 w w' := by
  have H : (spec_Filled.l0 k a0 a1 a2 (⟨#[]⟩ : ByteArray) 0) = some r := h
  clear h
  have H' := Aside0.mk H
  clear H
  go_enter Tryd.func10, Tryd.ntmps10
  go_wp2
  go_loopg [7, 8] k (fun kq v7 v8 w' => ∃ (x7_1 : ByteArray) (x8_1 : Int), v7 = .string x7_1 ∧ v8 = .int .i64 x8_1 ∧ Aside0 (spec_Filled.l0 kq a0 a1 a2 x7_1 x8_1 = some r) ∧ Aside0 (kq ≤ k) ∧ Drawn0 w w')
  case atStart => exact ⟨((⟨#[]⟩ : ByteArray)), (0), (by first | rfl | (simp; done) | (simp [*]; done)), (by first | rfl | (simp; done) | (simp [*]; done)), H', ⟨Nat.le_refl _⟩, by repeat (first | exact Drawn0.refl _ | apply Drawn0.step)⟩
  case round =>
    clear H'
    try clear c1
    try clear p2
    obtain ⟨x7_1, x8_1, rfl, rfl, HA, HK1, ⟨m1, rfl⟩⟩ := hrel
    cases gk with
    | zero => exact absurd HA.out (by simp [spec_Filled.l0])
    | succ k1 =>
      have H := HA.out
      clear HA
      simp only [spec_Filled.l0] at H
      by_cases c4 : x8_1 < (a0.size : Int)
      · rw [if_pos c4] at H
        have c4b0 : decide (x8_1 < (a0.size : Int)) = true := decide_eq_true c4
        clear c4
        have HC5 := Aside0.mk H
        clear H
        go_upto_region 5 with (fail)
        go_cut [25] (fun v25 wc => ∃ (kq : Nat) (x25_4 : Bool), v25 = .bool x25_4 ∧ Aside0 (spec_Filled.j1 kq a0 a1 a2 x7_1 x8_1 x25_4 = some r) ∧ Aside0 (kq ≤ k1) ∧ Drawn0 w wc)
        case first =>
          have H := HC5.out
          clear HC5
          by_cases c6 : 0 ≤ x8_1
          · rw [if_pos c6] at H
            have c6b0 : decide (0 ≤ x8_1) = true := decide_eq_true c6
            clear c6
            (first | rw [c6b0] | (simp only [i64_w, i32_w]; rw [c6b0]) | rw [c6b2] | skip)
            by_cases c8 : (bt a0 x8_1) = 37
            · rw [if_pos c8] at H
              have c8b0 : ((bt a0 x8_1) == 37) = true := beq_iff_eq.mpr c8
              have c8b1 : ((bt a0 x8_1) != 37) = false := bne_eq_false_iff_eq.mpr c8
              clear c8
              have H' := Aside0.mk H
              clear H
              have p7 : 0 ≤ (x8_1 : Int) := of_decide_eq_true (by first | (with_reducible assumption) | assumption)
              have q7 : x8_1 < (a0.size : Int) := of_decide_eq_true (by first | (with_reducible assumption) | assumption)
              have hx7 := bt_at a0 x8_1
              replace p7 := eq_true p7
              replace q7 := eq_true q7
              go_wp2
              go_meet
              case rel => exact ⟨_, (((wrap64 (x8_1 + 1)) == (a0.size : Int))), (by first | rfl | (simp; done) | (simp [*]; done)), H', ⟨by have := HK1.out; first | omega | exact Nat.le_refl _⟩, by repeat (first | exact Drawn0.refl _ | apply Drawn0.step)⟩
            · rw [if_neg c8] at H
              have c8b0 : ((bt a0 x8_1) == 37) = false := beq_eq_false_iff_ne.mpr c8
              have c8b1 : ((bt a0 x8_1) != 37) = true := bne_iff_ne.mpr c8
              have H' := Aside0.mk H
              clear H
              have p7 : 0 ≤ (x8_1 : Int) := of_decide_eq_true (by first | (with_reducible assumption) | assumption)
              have q7 : x8_1 < (a0.size : Int) := of_decide_eq_true (by first | (with_reducible assumption) | assumption)
              have hx7 := bt_at a0 x8_1
              replace p7 := eq_true p7
              replace q7 := eq_true q7
              go_wp2
              go_meet
              case rel => exact ⟨_, (true), (by first | rfl | (simp; done) | (simp [*]; done)), H', ⟨by have := HK1.out; first | omega | exact Nat.le_refl _⟩, by repeat (first | exact Drawn0.refl _ | apply Drawn0.step)⟩
          · rw [if_neg c6] at H
            exact absurd H (by simp)
        case rest =>
          clear HC5
          try clear c1
          try clear p2
          try clear c4
          try clear c4b0
          try clear c6
          try clear c6b0
          try clear c6b2
          try clear p6
          try clear p7
          try clear q7
          try clear hx7
          try clear c8
          try clear c8b0
          try clear c8b1
          try clear p2
          try clear p7
          try clear q7
          obtain ⟨kq, x25_4, rfl, HA, HJ4, ⟨mc4, rfl⟩⟩ := hcut
          cases kq with
          | zero => exact absurd HA.out (by simp [spec_Filled.j1])
          | succ kj4 =>
            have H := HA.out
            clear HA
            simp only [spec_Filled.j1] at H
            by_cases c9 : x25_4 = true
            · subst c9
              have H1 : (if 0 ≤ x8_1 then (if x8_1 ≤ (wrap64 (x8_1 + 1)) then (if (wrap64 (x8_1 + 1)) ≤ (a0.size : Int) then (if x7_1.size + (a0.extract (x8_1 : Int).toNat ((wrap64 (x8_1 + 1)) : Int).toNat).size ≤ 9223372036854775807 then (spec_Filled.l0 kj4 a0 a1 a2 (x7_1 ++ (a0.extract (x8_1 : Int).toNat ((wrap64 (x8_1 + 1)) : Int).toNat)) (wrap64 (x8_1 + 1))) else (none)) else (none)) else (none)) else (none)) = some r := by rw [if_pos rfl] at H; exact H
              clear H
              have H := H1
              clear H1
              by_cases c10 : 0 ≤ x8_1
              · rw [if_pos c10] at H
                have c10b0 := eq_true c10
                have c10b1 : decide (0 ≤ x8_1) = true := decide_eq_true c10
                clear c10
                by_cases c11 : x8_1 ≤ (wrap64 (x8_1 + 1))
                · rw [if_pos c11] at H
                  have c11b0 := eq_true c11
                  have c11b1 : decide (x8_1 ≤ (wrap64 (x8_1 + 1))) = true := decide_eq_true c11
                  by_cases c12 : (wrap64 (x8_1 + 1)) ≤ (a0.size : Int)
                  · rw [if_pos c12] at H
                    have c12b0 := eq_true c12
                    have c12b1 : decide ((wrap64 (x8_1 + 1)) ≤ (a0.size : Int)) = true := decide_eq_true c12
                    by_cases c13 : x7_1.size + (a0.extract (x8_1 : Int).toNat ((wrap64 (x8_1 + 1)) : Int).toNat).size ≤ 9223372036854775807
                    · rw [if_pos c13] at H
                      have c13b0 := eq_true c13
                      have c13b1 : decide (x7_1.size + (a0.extract (x8_1 : Int).toNat ((wrap64 (x8_1 + 1)) : Int).toNat).size ≤ 9223372036854775807) = true := decide_eq_true c13
                      try have c13b2 : (9223372036854775807 < x7_1.size + (a0.extract (x8_1 : Int).toNat ((wrap64 (x8_1 + 1)) : Int).toNat).size) = False := eq_false (Nat.not_lt.2 c13)
                      try have c13n0 : (9223372036854775807 < x7_1.size + ((a0.extract (x8_1 : Int).toNat ((wrap64 (x8_1 + 1)) : Int).toNat).size)) = False := eq_false (by have h_ := c13; (try simp only [ByteArray.size_append] at h_); omega)
                      have H' := Aside0.mk H
                      clear H
                      go_wp2
                      go_roundg kj4
                      case measure => have := HK1.out; have := HJ4.out; omega
                      case rel => exact ⟨(x7_1 ++ (a0.extract (x8_1 : Int).toNat ((wrap64 (x8_1 + 1)) : Int).toNat)), (wrap64 (x8_1 + 1)), (by first | rfl | (simp; done) | (simp [*]; done)), (by first | rfl | (simp; done) | (simp [*]; done)), H', ⟨by have := HK1.out; have := HJ4.out; omega⟩, by repeat (first | exact Drawn0.refl _ | apply Drawn0.step)⟩
                    · rw [if_neg c13] at H
                      exact absurd H (by simp)
                  · rw [if_neg c12] at H
                    exact absurd H (by simp)
                · rw [if_neg c11] at H
                  exact absurd H (by simp)
              · rw [if_neg c10] at H
                exact absurd H (by simp)
            · replace c9 := Bool.eq_false_iff.mpr c9
              subst c9
              have H1 : (if 0 ≤ (wrap64 (x8_1 + 1)) then (if (wrap64 (x8_1 + 1)) < (a0.size : Int) then (if (bt a0 (wrap64 (x8_1 + 1))) = 100 then ((spec_Decimal.f kj4 a1).bind fun t124 => (if x7_1.size + t124.size ≤ 9223372036854775807 then (spec_Filled.l0 kj4 a0 a1 a2 (x7_1 ++ t124) (wrap64 ((wrap64 (x8_1 + 1)) + 1))) else (none))) else (if (bt a0 (wrap64 (x8_1 + 1))) = 115 then (if x7_1.size + a2.size ≤ 9223372036854775807 then (spec_Filled.l0 kj4 a0 a1 a2 (x7_1 ++ a2) (wrap64 ((wrap64 (x8_1 + 1)) + 1))) else (none)) else (if (wrap64 (x8_1 + 1)) ≤ (wrap64 ((wrap64 (x8_1 + 1)) + 1)) then (if (wrap64 ((wrap64 (x8_1 + 1)) + 1)) ≤ (a0.size : Int) then (if x7_1.size + (a0.extract ((wrap64 (x8_1 + 1)) : Int).toNat ((wrap64 ((wrap64 (x8_1 + 1)) + 1)) : Int).toNat).size ≤ 9223372036854775807 then (spec_Filled.l0 kj4 a0 a1 a2 (x7_1 ++ (a0.extract ((wrap64 (x8_1 + 1)) : Int).toNat ((wrap64 ((wrap64 (x8_1 + 1)) + 1)) : Int).toNat)) (wrap64 ((wrap64 (x8_1 + 1)) + 1))) else (none)) else (none)) else (none)))) else (none)) else (none)) = some r := by rw [if_neg (show ¬ (false = true) by decide)] at H; exact H
              clear H
              have H := H1
              clear H1
              obtain ⟨ji14, hji14⟩ : ∃ j_ : Int, (wrap64 (x8_1 + 1)) = j_ := ⟨_, rfl⟩
              replace H : (if 0 ≤ (ji14) then (if (ji14) < (a0.size : Int) then (if (bt a0 (ji14)) = 100 then ((spec_Decimal.f kj4 a1).bind fun t124 => (if x7_1.size + t124.size ≤ 9223372036854775807 then (spec_Filled.l0 kj4 a0 a1 a2 (x7_1 ++ t124) (wrap64 ((ji14) + 1))) else (none))) else (if (bt a0 (ji14)) = 115 then (if x7_1.size + a2.size ≤ 9223372036854775807 then (spec_Filled.l0 kj4 a0 a1 a2 (x7_1 ++ a2) (wrap64 ((ji14) + 1))) else (none)) else (if (ji14) ≤ (wrap64 ((ji14) + 1)) then (if (wrap64 ((ji14) + 1)) ≤ (a0.size : Int) then (if x7_1.size + (a0.extract ((ji14) : Int).toNat ((wrap64 ((ji14) + 1)) : Int).toNat).size ≤ 9223372036854775807 then (spec_Filled.l0 kj4 a0 a1 a2 (x7_1 ++ (a0.extract ((ji14) : Int).toNat ((wrap64 ((ji14) + 1)) : Int).toNat)) (wrap64 ((ji14) + 1))) else (none)) else (none)) else (none)))) else (none)) else (none)) = some r := by first | (rw [hji14] at H; exact H) | (simp only [hji14] at H ⊢; exact H)
              have hji14w : (IntKind.i64.wrap (x8_1 + 1)) = ji14 := (i64_w _).trans hji14
              by_cases c15 : 0 ≤ (ji14)
              · rw [if_pos c15] at H
                have c15b0 : decide (0 ≤ (ji14)) = true := decide_eq_true c15
                clear c15
                by_cases c16 : (ji14) < (a0.size : Int)
                · rw [if_pos c16] at H
                  have c16b0 : decide ((ji14) < (a0.size : Int)) = true := decide_eq_true c16
                  clear c16
                  by_cases c18 : (bt a0 (ji14)) = 100
                  · rw [if_pos c18] at H
                    have c18b0 : ((bt a0 (ji14)) == 100) = true := beq_iff_eq.mpr c18
                    have c18b1 : ((bt a0 (ji14)) != 100) = false := bne_eq_false_iff_eq.mpr c18
                    clear c18
                    replace H := Option.bind_eq_some_iff.mp H
                    obtain ⟨t124, A190, H⟩ := H
                    replace H : (if x7_1.size + t124.size ≤ 9223372036854775807 then (spec_Filled.l0 kj4 a0 a1 a2 (x7_1 ++ t124) (wrap64 ((ji14) + 1))) else (none)) = some r := H
                    have A19 := Aside0.mk A190
                    clear A190
                    by_cases c20 : x7_1.size + t124.size ≤ 9223372036854775807
                    · rw [if_pos c20] at H
                      have c20b0 := eq_true c20
                      have c20b1 : decide (x7_1.size + t124.size ≤ 9223372036854775807) = true := decide_eq_true c20
                      try have c20b2 : (9223372036854775807 < x7_1.size + t124.size) = False := eq_false (Nat.not_lt.2 c20)
                      have H' := Aside0.mk H
                      clear H
                      have p17 : 0 ≤ ((ji14) : Int) := of_decide_eq_true (by first | (with_reducible assumption) | assumption)
                      have q17 : (ji14) < (a0.size : Int) := of_decide_eq_true (by first | (with_reducible assumption) | assumption)
                      have hx17 := bt_at a0 (ji14)
                      replace p17 := eq_true p17
                      replace q17 := eq_true q17
                      go_wp2_with (first | ((with_reducible refine gate_callee (f := 18) rfl ?_); refine goesL_ (some 49) rfl rfl Tryd.func18 (by kernel_rfl) rfl #[.int .i64 a1] rfl (by (try simp only [List.map_toArray, List.map_cons, List.map_nil]); first | done | rfl | (simp only [List.length_drop, List.length_take]; rfl)) ?_; (with_reducible refine (spec_Decimal.calls kj4 a1 t124 _ A19.out).mono ?_); rintro e w' ⟨rfl, ⟨nd, rfl⟩⟩; refine ⟨_, rfl, ?_⟩))
                      go_roundg kj4
                      case measure => have := HK1.out; have := HJ4.out; omega
                      case rel => exact ⟨(x7_1 ++ t124), (wrap64 ((ji14) + 1)), (by first | rfl | (simp; done) | (simp [*]; done)), (by first | rfl | (simp; done) | (simp only [← hji14] <;> (first | rfl | simp)) | (simp [*]; done)), H', ⟨by have := HK1.out; have := HJ4.out; omega⟩, by repeat (first | exact Drawn0.refl _ | apply Drawn0.step)⟩
                    · rw [if_neg c20] at H
                      exact absurd H (by simp)
                  · rw [if_neg c18] at H
                    have c18b0 : ((bt a0 (ji14)) == 100) = false := beq_eq_false_iff_ne.mpr c18
                    have c18b1 : ((bt a0 (ji14)) != 100) = true := bne_iff_ne.mpr c18
                    by_cases c21 : (bt a0 (ji14)) = 115
                    · rw [if_pos c21] at H
                      have c21b0 : ((bt a0 (ji14)) == 115) = true := beq_iff_eq.mpr c21
                      have c21b1 : ((bt a0 (ji14)) != 115) = false := bne_eq_false_iff_eq.mpr c21
                      clear c21
                      by_cases c22 : x7_1.size + a2.size ≤ 9223372036854775807
                      · rw [if_pos c22] at H
                        have c22b0 := eq_true c22
                        have c22b1 : decide (x7_1.size + a2.size ≤ 9223372036854775807) = true := decide_eq_true c22
                        try have c22b2 : (9223372036854775807 < x7_1.size + a2.size) = False := eq_false (Nat.not_lt.2 c22)
                        have H' := Aside0.mk H
                        clear H
                        have p17 : 0 ≤ ((ji14) : Int) := of_decide_eq_true (by first | (with_reducible assumption) | assumption)
                        have q17 : (ji14) < (a0.size : Int) := of_decide_eq_true (by first | (with_reducible assumption) | assumption)
                        have hx17 := bt_at a0 (ji14)
                        replace p17 := eq_true p17
                        replace q17 := eq_true q17
                        go_wp2
                        go_roundg kj4
                        case measure => have := HK1.out; have := HJ4.out; omega
                        case rel => exact ⟨(x7_1 ++ a2), (wrap64 ((ji14) + 1)), (by first | rfl | (simp; done) | (simp [*]; done)), (by first | rfl | (simp; done) | (simp only [← hji14] <;> (first | rfl | simp)) | (simp [*]; done)), H', ⟨by have := HK1.out; have := HJ4.out; omega⟩, by repeat (first | exact Drawn0.refl _ | apply Drawn0.step)⟩
                      · rw [if_neg c22] at H
                        exact absurd H (by simp)
                    · rw [if_neg c21] at H
                      have c21b0 : ((bt a0 (ji14)) == 115) = false := beq_eq_false_iff_ne.mpr c21
                      have c21b1 : ((bt a0 (ji14)) != 115) = true := bne_iff_ne.mpr c21
                      have c23b0 := eq_true (of_decide_eq_true (by first | (with_reducible assumption) | assumption) : 0 ≤ (ji14))
                      by_cases c24 : (ji14) ≤ (wrap64 ((ji14) + 1))
                      · rw [if_pos c24] at H
                        have c24b0 := eq_true c24
                        have c24b1 : decide ((ji14) ≤ (wrap64 ((ji14) + 1))) = true := decide_eq_true c24
                        by_cases c25 : (wrap64 ((ji14) + 1)) ≤ (a0.size : Int)
                        · rw [if_pos c25] at H
                          have c25b0 := eq_true c25
                          have c25b1 : decide ((wrap64 ((ji14) + 1)) ≤ (a0.size : Int)) = true := decide_eq_true c25
                          by_cases c26 : x7_1.size + (a0.extract ((ji14) : Int).toNat ((wrap64 ((ji14) + 1)) : Int).toNat).size ≤ 9223372036854775807
                          · rw [if_pos c26] at H
                            have c26b0 := eq_true c26
                            have c26b1 : decide (x7_1.size + (a0.extract ((ji14) : Int).toNat ((wrap64 ((ji14) + 1)) : Int).toNat).size ≤ 9223372036854775807) = true := decide_eq_true c26
                            try have c26b2 : (9223372036854775807 < x7_1.size + (a0.extract ((ji14) : Int).toNat ((wrap64 ((ji14) + 1)) : Int).toNat).size) = False := eq_false (Nat.not_lt.2 c26)
                            try have c26n0 : (9223372036854775807 < x7_1.size + ((a0.extract ((ji14) : Int).toNat ((wrap64 ((ji14) + 1)) : Int).toNat).size)) = False := eq_false (by have h_ := c26; (try simp only [ByteArray.size_append] at h_); omega)
                            have H' := Aside0.mk H
                            clear H
                            have p17 : 0 ≤ ((ji14) : Int) := of_decide_eq_true (by first | (with_reducible assumption) | assumption)
                            have q17 : (ji14) < (a0.size : Int) := of_decide_eq_true (by first | (with_reducible assumption) | assumption)
                            have hx17 := bt_at a0 (ji14)
                            replace p17 := eq_true p17
                            replace q17 := eq_true q17
                            go_wp2
                            go_roundg kj4
                            case measure => have := HK1.out; have := HJ4.out; omega
                            case rel => exact ⟨(x7_1 ++ (a0.extract ((ji14) : Int).toNat ((wrap64 ((ji14) + 1)) : Int).toNat)), (wrap64 ((ji14) + 1)), (by first | rfl | (simp; done) | (simp only [← hji14] <;> (first | rfl | simp)) | (simp [*]; done)), (by first | rfl | (simp; done) | (simp only [← hji14] <;> (first | rfl | simp)) | (simp [*]; done)), H', ⟨by have := HK1.out; have := HJ4.out; omega⟩, by repeat (first | exact Drawn0.refl _ | apply Drawn0.step)⟩
                          · rw [if_neg c26] at H
                            exact absurd H (by simp)
                        · rw [if_neg c25] at H
                          exact absurd H (by simp)
                      · rw [if_neg c24] at H
                        exact absurd H (by simp)
                · rw [if_neg c16] at H
                  exact absurd H (by simp)
              · rw [if_neg c15] at H
                exact absurd H (by simp)
      · rw [if_neg c4] at H
        have c4b0 : decide (x8_1 < (a0.size : Int)) = false := decide_eq_false c4
        clear c4
        obtain rfl := Option.some.inj H
        go_wp2
        go_ret
        exact ⟨by first | rfl | (simp; done) | (simp [*]; done), by repeat (first | exact Drawn0.refl _ | apply Drawn0.step)⟩

/-! ### impl_isFormat: function 20 -/
def impl_isFormat.l0 : Nat → ByteArray → Int → Option (Bool)
  | 0, _, _ => none
  | k + 1, x0, x3 => if x3 < (x0.size : Int) then (if 0 ≤ x3 then (if (bt x0 x3) = 37 then (if (wrap64 (x3 + 1)) = (x0.size : Int) then (some false) else (if 0 ≤ (wrap64 (x3 + 1)) then (if (wrap64 (x3 + 1)) < (x0.size : Int) then (if (bt x0 (wrap64 (x3 + 1))) = 115 then (impl_isFormat.l0 k x0 (wrap64 ((wrap64 (x3 + 1)) + 1))) else (if (bt x0 (wrap64 (x3 + 1))) = 100 then (impl_isFormat.l0 k x0 (wrap64 ((wrap64 (x3 + 1)) + 1))) else (if (bt x0 (wrap64 (x3 + 1))) = 37 then (impl_isFormat.l0 k x0 (wrap64 ((wrap64 (x3 + 1)) + 1))) else (some false)))) else (none)) else (none))) else (impl_isFormat.l0 k x0 (wrap64 (x3 + 1)))) else (none)) else ((impl_isText.f k true (([x0] : List ByteArray))).bind fun t128 => (some t128))
def impl_isFormat.f (k : Nat) (a0 : ByteArray) : Option (Bool) := impl_isFormat.l0 k a0 0
theorem impl_isFormat.mono_l : ∀ k, (∀ y0 y1, LeO (impl_isFormat.l0 k y0 y1) (impl_isFormat.l0 (k + 1) y0 y1))
  | 0 => fun _ _ r h => by simp [impl_isFormat.l0] at h
  | k + 1 => by
    have ih0 := impl_isFormat.mono_l k
    · intro y0 y1
      unfold impl_isFormat.l0
      repeat' first
      | (with_reducible exact ih0 _ _)
      | (with_reducible exact impl_isText.mono _ _ _)
      | (with_reducible exact LeO.refl _)
      | (with_reducible exact LeO.none _)
      | (with_reducible refine LeO.ite ?_ ?_)
      | (with_reducible refine LeO.bind ?_ (fun _ => ?_))
      | exact ih0 _ _
      | exact impl_isText.mono _ _ _
      | exact LeO.none _
      | refine LeO.ite ?_ ?_
      | refine LeO.bind ?_ (fun _ => ?_)
theorem impl_isFormat.mono : ∀ a0 k, LeO (impl_isFormat.f k a0) (impl_isFormat.f (k + 1) a0) := by
  intro a0 k
  have ih0 := impl_isFormat.mono_l k
  unfold impl_isFormat.f
  repeat' first
      | (with_reducible exact ih0 _ _)
      | (with_reducible exact impl_isText.mono _ _ _)
      | (with_reducible exact LeO.refl _)
      | (with_reducible exact LeO.none _)
      | (with_reducible refine LeO.ite ?_ ?_)
      | (with_reducible refine LeO.bind ?_ (fun _ => ?_))
      | exact ih0 _ _
      | exact impl_isText.mono _ _ _
      | exact LeO.none _
      | refine LeO.ite ?_ ?_
      | refine LeO.bind ?_ (fun _ => ?_)
set_option maxHeartbeats 8000000 in
set_option maxRecDepth 100000 in
theorem impl_isFormat.calls (k : Nat) (a0 : ByteArray) (r : Bool) (w : World) (h : impl_isFormat.f k a0 = some r) :
    Calls Tryd.prog 20 #[.string a0] w fun e w' => e = .returned (.bool r) ∧ Below w.heap.size w w' := by
  have HB := Aside0.mk (Below.refl w.heap.size w)
  have H : (impl_isFormat.l0 k a0 0) = some r := h
  clear h
  have H' := Aside0.mk H
  clear H
  go_enter Tryd.func20, Tryd.ntmps20
  go_wp2
  go_loopg [3] k (fun kq v3 w' => ∃ (x3_1 : Int), v3 = .int .i64 x3_1 ∧ Aside0 (impl_isFormat.l0 kq a0 x3_1 = some r) ∧ Aside0 (kq ≤ k) ∧ Aside0 (Below w.heap.size w w'))
  case atStart => exact ⟨(0), (by first | rfl | (simp; done) | (simp [*]; done)), H', ⟨Nat.le_refl _⟩, ⟨by repeat (first | (with_reducible first | exact HB.out | apply below_alloc | apply pw_below_drewN | apply below_drew1) | exact HB.out)⟩⟩
  case round =>
    clear H'
    obtain ⟨x3_1, rfl, HA, HK1, HB⟩ := hrel
    cases gk with
    | zero => exact absurd HA.out (by simp [impl_isFormat.l0])
    | succ k1 =>
      have H := HA.out
      clear HA
      simp only [impl_isFormat.l0] at H
      by_cases c2 : x3_1 < (a0.size : Int)
      · rw [if_pos c2] at H
        have c2b0 : decide (x3_1 < (a0.size : Int)) = true := decide_eq_true c2
        clear c2
        by_cases c3 : 0 ≤ x3_1
        · rw [if_pos c3] at H
          have c3b0 : decide (0 ≤ x3_1) = true := decide_eq_true c3
          clear c3
          by_cases c5 : (bt a0 x3_1) = 37
          · rw [if_pos c5] at H
            have c5b0 : ((bt a0 x3_1) == 37) = true := beq_iff_eq.mpr c5
            have c5b1 : ((bt a0 x3_1) != 37) = false := bne_eq_false_iff_eq.mpr c5
            clear c5
            by_cases c6 : (wrap64 (x3_1 + 1)) = (a0.size : Int)
            · rw [if_pos c6] at H
              have c6b0 : ((wrap64 (x3_1 + 1)) == (a0.size : Int)) = true := beq_iff_eq.mpr c6
              have c6b1 : ((wrap64 (x3_1 + 1)) != (a0.size : Int)) = false := bne_eq_false_iff_eq.mpr c6
              clear c6
              obtain rfl := Option.some.inj H
              have p4 : 0 ≤ (x3_1 : Int) := of_decide_eq_true (by first | (with_reducible assumption) | assumption)
              have q4 : x3_1 < (a0.size : Int) := of_decide_eq_true (by first | (with_reducible assumption) | assumption)
              have hx4 := bt_at a0 x3_1
              replace p4 := eq_true p4
              replace q4 := eq_true q4
              go_wp2
              go_ret
              exact ⟨by first | rfl | (simp [errW_none, errW_some] <;> rfl) | (simp [*, errW_none, errW_some] <;> rfl), by repeat (first | (with_reducible first | exact HB.out | apply below_alloc | apply pw_below_drewN | apply below_drew1) | exact HB.out)⟩
            · rw [if_neg c6] at H
              have c6b0 : ((wrap64 (x3_1 + 1)) == (a0.size : Int)) = false := beq_eq_false_iff_ne.mpr c6
              have c6b1 : ((wrap64 (x3_1 + 1)) != (a0.size : Int)) = true := bne_iff_ne.mpr c6
              obtain ⟨ji7, hji7⟩ : ∃ j_ : Int, (wrap64 (x3_1 + 1)) = j_ := ⟨_, rfl⟩
              replace H : (if 0 ≤ (ji7) then (if (ji7) < (a0.size : Int) then (if (bt a0 (ji7)) = 115 then (impl_isFormat.l0 k1 a0 (wrap64 ((ji7) + 1))) else (if (bt a0 (ji7)) = 100 then (impl_isFormat.l0 k1 a0 (wrap64 ((ji7) + 1))) else (if (bt a0 (ji7)) = 37 then (impl_isFormat.l0 k1 a0 (wrap64 ((ji7) + 1))) else (some false)))) else (none)) else (none)) = some r := by first | (rw [hji7] at H; exact H) | (simp only [hji7] at H ⊢; exact H)
              (try rw [hji7] at c6b0)
              (try rw [hji7] at c6b1)
              have hji7w : (IntKind.i64.wrap (x3_1 + 1)) = ji7 := (i64_w _).trans hji7
              by_cases c8 : 0 ≤ (ji7)
              · rw [if_pos c8] at H
                have c8b0 : decide (0 ≤ (ji7)) = true := decide_eq_true c8
                clear c8
                by_cases c9 : (ji7) < (a0.size : Int)
                · rw [if_pos c9] at H
                  have c9b0 : decide ((ji7) < (a0.size : Int)) = true := decide_eq_true c9
                  clear c9
                  by_cases c11 : (bt a0 (ji7)) = 115
                  · rw [if_pos c11] at H
                    have c11b0 : ((bt a0 (ji7)) == 115) = true := beq_iff_eq.mpr c11
                    have c11b1 : ((bt a0 (ji7)) != 115) = false := bne_eq_false_iff_eq.mpr c11
                    clear c11
                    have H' := Aside0.mk H
                    clear H
                    have p4 : 0 ≤ (x3_1 : Int) := of_decide_eq_true (by first | (with_reducible assumption) | assumption)
                    have q4 : x3_1 < (a0.size : Int) := of_decide_eq_true (by first | (with_reducible assumption) | assumption)
                    have hx4 := bt_at a0 x3_1
                    replace p4 := eq_true p4
                    replace q4 := eq_true q4
                    have p10 : 0 ≤ ((ji7) : Int) := of_decide_eq_true (by first | (with_reducible assumption) | assumption)
                    have q10 : (ji7) < (a0.size : Int) := of_decide_eq_true (by first | (with_reducible assumption) | assumption)
                    have hx10 := bt_at a0 (ji7)
                    replace p10 := eq_true p10
                    replace q10 := eq_true q10
                    go_wp2
                    go_roundg k1
                    case measure => have := HK1.out; omega
                    case rel => exact ⟨(wrap64 ((ji7) + 1)), (by first | rfl | (simp; done) | (simp only [← hji7] <;> (first | rfl | simp)) | (simp [*]; done)), H', ⟨by have := HK1.out; omega⟩, ⟨by repeat (first | (with_reducible first | exact HB.out | apply below_alloc | apply pw_below_drewN | apply below_drew1) | exact HB.out)⟩⟩
                  · rw [if_neg c11] at H
                    have c11b0 : ((bt a0 (ji7)) == 115) = false := beq_eq_false_iff_ne.mpr c11
                    have c11b1 : ((bt a0 (ji7)) != 115) = true := bne_iff_ne.mpr c11
                    by_cases c13 : (bt a0 (ji7)) = 100
                    · rw [if_pos c13] at H
                      have c13b0 : ((bt a0 (ji7)) == 100) = true := beq_iff_eq.mpr c13
                      have c13b1 : ((bt a0 (ji7)) != 100) = false := bne_eq_false_iff_eq.mpr c13
                      clear c13
                      have H' := Aside0.mk H
                      clear H
                      have p4 : 0 ≤ (x3_1 : Int) := of_decide_eq_true (by first | (with_reducible assumption) | assumption)
                      have q4 : x3_1 < (a0.size : Int) := of_decide_eq_true (by first | (with_reducible assumption) | assumption)
                      have hx4 := bt_at a0 x3_1
                      replace p4 := eq_true p4
                      replace q4 := eq_true q4
                      have p10 : 0 ≤ ((ji7) : Int) := of_decide_eq_true (by first | (with_reducible assumption) | assumption)
                      have q10 : (ji7) < (a0.size : Int) := of_decide_eq_true (by first | (with_reducible assumption) | assumption)
                      have hx10 := bt_at a0 (ji7)
                      replace p10 := eq_true p10
                      replace q10 := eq_true q10
                      have p12 : 0 ≤ ((ji7) : Int) := of_decide_eq_true (by first | (with_reducible assumption) | assumption)
                      have q12 : (ji7) < (a0.size : Int) := of_decide_eq_true (by first | (with_reducible assumption) | assumption)
                      have hx12 := bt_at a0 (ji7)
                      replace p12 := eq_true p12
                      replace q12 := eq_true q12
                      go_wp2
                      go_roundg k1
                      case measure => have := HK1.out; omega
                      case rel => exact ⟨(wrap64 ((ji7) + 1)), (by first | rfl | (simp; done) | (simp only [← hji7] <;> (first | rfl | simp)) | (simp [*]; done)), H', ⟨by have := HK1.out; omega⟩, ⟨by repeat (first | (with_reducible first | exact HB.out | apply below_alloc | apply pw_below_drewN | apply below_drew1) | exact HB.out)⟩⟩
                    · rw [if_neg c13] at H
                      have c13b0 : ((bt a0 (ji7)) == 100) = false := beq_eq_false_iff_ne.mpr c13
                      have c13b1 : ((bt a0 (ji7)) != 100) = true := bne_iff_ne.mpr c13
                      by_cases c15 : (bt a0 (ji7)) = 37
                      · rw [if_pos c15] at H
                        have c15b0 : ((bt a0 (ji7)) == 37) = true := beq_iff_eq.mpr c15
                        have c15b1 : ((bt a0 (ji7)) != 37) = false := bne_eq_false_iff_eq.mpr c15
                        clear c15
                        have H' := Aside0.mk H
                        clear H
                        have p4 : 0 ≤ (x3_1 : Int) := of_decide_eq_true (by first | (with_reducible assumption) | assumption)
                        have q4 : x3_1 < (a0.size : Int) := of_decide_eq_true (by first | (with_reducible assumption) | assumption)
                        have hx4 := bt_at a0 x3_1
                        replace p4 := eq_true p4
                        replace q4 := eq_true q4
                        have p10 : 0 ≤ ((ji7) : Int) := of_decide_eq_true (by first | (with_reducible assumption) | assumption)
                        have q10 : (ji7) < (a0.size : Int) := of_decide_eq_true (by first | (with_reducible assumption) | assumption)
                        have hx10 := bt_at a0 (ji7)
                        replace p10 := eq_true p10
                        replace q10 := eq_true q10
                        have p12 : 0 ≤ ((ji7) : Int) := of_decide_eq_true (by first | (with_reducible assumption) | assumption)
                        have q12 : (ji7) < (a0.size : Int) := of_decide_eq_true (by first | (with_reducible assumption) | assumption)
                        have hx12 := bt_at a0 (ji7)
                        replace p12 := eq_true p12
                        replace q12 := eq_true q12
                        have p14 : 0 ≤ ((ji7) : Int) := of_decide_eq_true (by first | (with_reducible assumption) | assumption)
                        have q14 : (ji7) < (a0.size : Int) := of_decide_eq_true (by first | (with_reducible assumption) | assumption)
                        have hx14 := bt_at a0 (ji7)
                        replace p14 := eq_true p14
                        replace q14 := eq_true q14
                        go_wp2
                        go_roundg k1
                        case measure => have := HK1.out; omega
                        case rel => exact ⟨(wrap64 ((ji7) + 1)), (by first | rfl | (simp; done) | (simp only [← hji7] <;> (first | rfl | simp)) | (simp [*]; done)), H', ⟨by have := HK1.out; omega⟩, ⟨by repeat (first | (with_reducible first | exact HB.out | apply below_alloc | apply pw_below_drewN | apply below_drew1) | exact HB.out)⟩⟩
                      · rw [if_neg c15] at H
                        have c15b0 : ((bt a0 (ji7)) == 37) = false := beq_eq_false_iff_ne.mpr c15
                        have c15b1 : ((bt a0 (ji7)) != 37) = true := bne_iff_ne.mpr c15
                        obtain rfl := Option.some.inj H
                        have p4 : 0 ≤ (x3_1 : Int) := of_decide_eq_true (by first | (with_reducible assumption) | assumption)
                        have q4 : x3_1 < (a0.size : Int) := of_decide_eq_true (by first | (with_reducible assumption) | assumption)
                        have hx4 := bt_at a0 x3_1
                        replace p4 := eq_true p4
                        replace q4 := eq_true q4
                        have p10 : 0 ≤ ((ji7) : Int) := of_decide_eq_true (by first | (with_reducible assumption) | assumption)
                        have q10 : (ji7) < (a0.size : Int) := of_decide_eq_true (by first | (with_reducible assumption) | assumption)
                        have hx10 := bt_at a0 (ji7)
                        replace p10 := eq_true p10
                        replace q10 := eq_true q10
                        have p12 : 0 ≤ ((ji7) : Int) := of_decide_eq_true (by first | (with_reducible assumption) | assumption)
                        have q12 : (ji7) < (a0.size : Int) := of_decide_eq_true (by first | (with_reducible assumption) | assumption)
                        have hx12 := bt_at a0 (ji7)
                        replace p12 := eq_true p12
                        replace q12 := eq_true q12
                        have p14 : 0 ≤ ((ji7) : Int) := of_decide_eq_true (by first | (with_reducible assumption) | assumption)
                        have q14 : (ji7) < (a0.size : Int) := of_decide_eq_true (by first | (with_reducible assumption) | assumption)
                        have hx14 := bt_at a0 (ji7)
                        replace p14 := eq_true p14
                        replace q14 := eq_true q14
                        go_wp2
                        go_ret
                        exact ⟨by first | rfl | (simp [errW_none, errW_some] <;> rfl) | (simp only [← hji7]; first | rfl | (simp [errW_none, errW_some] <;> rfl)) | (simp [*, errW_none, errW_some] <;> rfl), by repeat (first | (with_reducible first | exact HB.out | apply below_alloc | apply pw_below_drewN | apply below_drew1) | exact HB.out)⟩
                · rw [if_neg c9] at H
                  exact absurd H (by simp)
              · rw [if_neg c8] at H
                exact absurd H (by simp)
          · rw [if_neg c5] at H
            have c5b0 : ((bt a0 x3_1) == 37) = false := beq_eq_false_iff_ne.mpr c5
            have c5b1 : ((bt a0 x3_1) != 37) = true := bne_iff_ne.mpr c5
            have H' := Aside0.mk H
            clear H
            have p4 : 0 ≤ (x3_1 : Int) := of_decide_eq_true (by first | (with_reducible assumption) | assumption)
            have q4 : x3_1 < (a0.size : Int) := of_decide_eq_true (by first | (with_reducible assumption) | assumption)
            have hx4 := bt_at a0 x3_1
            replace p4 := eq_true p4
            replace q4 := eq_true q4
            go_wp2
            go_roundg k1
            case measure => have := HK1.out; omega
            case rel => exact ⟨(wrap64 (x3_1 + 1)), (by first | rfl | (simp; done) | (simp [*]; done)), H', ⟨by have := HK1.out; omega⟩, ⟨by repeat (first | (with_reducible first | exact HB.out | apply below_alloc | apply pw_below_drewN | apply below_drew1) | exact HB.out)⟩⟩
        · rw [if_neg c3] at H
          exact absurd H (by simp)
      · rw [if_neg c2] at H
        have c2b0 : decide (x3_1 < (a0.size : Int)) = false := decide_eq_false c2
        clear c2
        obtain ⟨y125, hy125⟩ : ∃ y_ : List ByteArray, y_ = (([a0] : List ByteArray)) := ⟨_, rfl⟩
        replace H : ((impl_isText.f k1 true y125).bind fun t128 => (some t128)) = some r := by first | (rw [hy125]; with_reducible exact H) | (have H2_ := (Option.bind_some _ _).symm.trans H; rw [hy125]; with_reducible exact H2_) | (have H2_ := (Option.bind_some _ _).symm.trans H; with_reducible exact H2_) | with_reducible exact H | (rw [hy125]; exact H) | exact H
        have Ny125 := Aside0.mk hy125
        clear hy125
        replace H := Option.bind_eq_some_iff.mp H
        obtain ⟨t128, A160, H⟩ := H
        replace H : (some t128) = some r := H
        have A16 := Aside0.mk A160
        clear A160
        obtain rfl := Option.some.inj H
        go_wp2_with (first | ((with_reducible refine gate_dst (N := 39) rfl ?_); refine Kd.R_lit Kd.string _ 9 ?hg (N := 39) ?hd (xs := ([a0] : List ByteArray)) (inner := [.string a0]) (ok := fun _ => True) (okp := fun _ => True) ?hr ?hp (fun _ hk => hk) trivial (Below.refl _ _) (Nat.le_refl _) (by simp) ?_; (case hd => rfl); (case hg => rfl); (case hr => first | (go_simp; done) | (go_simp; rfl)); (case hp => exact (Reps.one (show Kd.M Kd.string _ _ _ a0 [.string a0] from rfl) (Reps.none _ _))); intro v126 w17 ho18 hb hg_ hnew_; clear hg_ hnew_; (first | rw [← Ny125.out] at ho18 | (simp only [Int.reduceToNat] at ho18; rw [← Ny125.out] at ho18)); have n0_ := Aside0.mk (Kd.R_lower ho18 (below_size (by repeat (first | (with_reducible first | exact HB.out | apply below_alloc | apply pw_below_drewN | apply below_drew1) | exact HB.out)))); have n1_ := Aside0.mk (below_step (by repeat (first | (with_reducible first | exact HB.out | apply below_alloc | apply pw_below_drewN | apply below_drew1) | exact HB.out)) hb); clear HB; have HO127 := n0_; have HB := n1_; clear n0_ n1_; clear hb ho18; obtain ⟨Ao19, co19, eo19⟩ := Kd.R_slice HO127.out; subst eo19) | ((with_reducible refine gate_callee (f := 19) rfl ?_); refine goesL_ (some 40) rfl rfl Tryd.func19 (by kernel_rfl) rfl #[.bool true, .slice Ao19 y125.length co19] rfl (by (try simp only [List.map_toArray, List.map_cons, List.map_nil]); first | done | rfl | (simp only [List.length_drop, List.length_take]; rfl)) ?_; (with_reducible refine (impl_isText.calls k1 true _ _ y125 t128 _ ?side1 ?side2 A16.out).mono ?_); (case side1 => repeat (first | exact (Kd.R_reads' HO127.out).2.2 | (with_reducible refine Kd.C_alloc ?_ _) | (with_reducible refine Kd.C_drewN ?_ _) | (with_reducible refine Kd.C_drew ?_))); (case side2 => exact (Kd.R_reads' HO127.out).2.1); rintro e w' ⟨rfl, ⟨nd, rfl⟩⟩; refine ⟨_, rfl, ?_⟩))
        go_ret
        exact ⟨by first | rfl | (simp [errW_none, errW_some] <;> rfl) | (simp [*, errW_none, errW_some] <;> rfl), by repeat (first | (with_reducible first | exact HB.out | apply below_alloc | apply pw_below_drewN | apply below_drew1) | exact HB.out)⟩

/-- THE ONE PURE STATEMENT of impl_isFormat: yours. -/
def impl_isFormat.Pure : Prop := ∀ (a0 : ByteArray), a0.size ≤ 140737488351232 → ∃ k, impl_isFormat.f k a0 = some true
theorem impl_isFormat.walk (P : impl_isFormat.Pure) (a0 : ByteArray) (w : World) (w0 : a0.size ≤ 140737488351232) :
    Calls Tryd.prog 20 #[.string a0] w fun e w' => e = .returned (.bool true) ∧ Below w.heap.size w w' := by
  obtain ⟨k, h⟩ := P a0 w0
  refine (impl_isFormat.calls k a0 true w h).mono ?_
  rintro e w' ⟨rfl, hd⟩
  exact ⟨rfl, hd⟩

/-! ### humanize_zzRight: function 33 -/
def humanize_zzRight.l0 : Nat → ByteArray → Option (ByteArray)
  | 0, _ => none
  | k + 1, x0 => if (x0.size : Int) > 0 then (if 0 ≤ (wrap64 ((x0.size : Int) - 1)) then (if (wrap64 ((x0.size : Int) - 1)) < (x0.size : Int) then (if (bt x0 (wrap64 ((x0.size : Int) - 1))) = 32 then (if (wrap64 ((x0.size : Int) - 1)) ≤ (x0.size : Int) then (humanize_zzRight.l0 k (x0.extract 0 ((wrap64 ((x0.size : Int) - 1)) : Int).toNat)) else (none)) else (some x0)) else (none)) else (none)) else (some x0)
def humanize_zzRight.f (k : Nat) (a0 : ByteArray) : Option (ByteArray) := humanize_zzRight.l0 k a0
theorem humanize_zzRight.mono_l : ∀ k, (∀ y0, LeO (humanize_zzRight.l0 k y0) (humanize_zzRight.l0 (k + 1) y0))
  | 0 => fun _ r h => by simp [humanize_zzRight.l0] at h
  | k + 1 => by
    have ih0 := humanize_zzRight.mono_l k
    · intro y0
      unfold humanize_zzRight.l0
      repeat' first
      | (with_reducible exact ih0 _)
      | (with_reducible exact LeO.refl _)
      | (with_reducible exact LeO.none _)
      | (with_reducible refine LeO.ite ?_ ?_)
      | (with_reducible refine LeO.bind ?_ (fun _ => ?_))
      | exact ih0 _
      | exact LeO.none _
      | refine LeO.ite ?_ ?_
      | refine LeO.bind ?_ (fun _ => ?_)
theorem humanize_zzRight.mono : ∀ a0 k, LeO (humanize_zzRight.f k a0) (humanize_zzRight.f (k + 1) a0) := by
  intro a0 k
  have ih0 := humanize_zzRight.mono_l k
  unfold humanize_zzRight.f
  repeat' first
      | (with_reducible exact ih0 _)
      | (with_reducible exact LeO.refl _)
      | (with_reducible exact LeO.none _)
      | (with_reducible refine LeO.ite ?_ ?_)
      | (with_reducible refine LeO.bind ?_ (fun _ => ?_))
      | exact ih0 _
      | exact LeO.none _
      | refine LeO.ite ?_ ?_
      | refine LeO.bind ?_ (fun _ => ?_)
set_option maxHeartbeats 8000000 in
set_option maxRecDepth 100000 in
theorem humanize_zzRight.calls (k : Nat) (a0 : ByteArray) (r : ByteArray) (w : World) (h : humanize_zzRight.f k a0 = some r) :
    Calls Tryd.prog 33 #[.string a0] w fun e w' => e = .returned (.string r) ∧ Drawn0 w w' := by
  have H : (humanize_zzRight.l0 k a0) = some r := h
  clear h
  have H' := Aside0.mk H
  clear H
  go_enter Tryd.func33, Tryd.ntmps33
  go_wp2
  go_loopg [0] k (fun kq v0 w' => ∃ (x0_1 : ByteArray), v0 = .string x0_1 ∧ Aside0 (humanize_zzRight.l0 kq x0_1 = some r) ∧ Aside0 (kq ≤ k) ∧ Drawn0 w w')
  case atStart => exact ⟨(a0), (by first | rfl | (simp; done) | (simp [*]; done)), H', ⟨Nat.le_refl _⟩, by repeat (first | exact Drawn0.refl _ | apply Drawn0.step)⟩
  case round =>
    clear H'
    obtain ⟨x0_1, rfl, HA, HK1, ⟨m1, rfl⟩⟩ := hrel
    cases gk with
    | zero => exact absurd HA.out (by simp [humanize_zzRight.l0])
    | succ k1 =>
      have H := HA.out
      clear HA
      simp only [humanize_zzRight.l0] at H
      by_cases c2 : (x0_1.size : Int) > 0
      · rw [if_pos c2] at H
        have c2b0 : decide (0 < (x0_1.size : Int)) = true := decide_eq_true c2
        have c2b1 : decide (0 < x0_1.size) = true := decide_eq_true (by omega)
        clear c2
        obtain ⟨ji3, hji3⟩ : ∃ j_ : Int, (wrap64 ((x0_1.size : Int) - 1)) = j_ := ⟨_, rfl⟩
        replace H : (if 0 ≤ (ji3) then (if (ji3) < (x0_1.size : Int) then (if (bt x0_1 (ji3)) = 32 then (if (ji3) ≤ (x0_1.size : Int) then (humanize_zzRight.l0 k1 (x0_1.extract 0 ((ji3) : Int).toNat)) else (none)) else (some x0_1)) else (none)) else (none)) = some r := by first | (rw [hji3] at H; exact H) | (simp only [hji3] at H ⊢; exact H)
        have hji3w : (IntKind.i64.wrap ((x0_1.size : Int) - 1)) = ji3 := (i64_w _).trans hji3
        by_cases c4 : 0 ≤ (ji3)
        · rw [if_pos c4] at H
          have c4b0 : decide (0 ≤ (ji3)) = true := decide_eq_true c4
          clear c4
          by_cases c5 : (ji3) < (x0_1.size : Int)
          · rw [if_pos c5] at H
            have c5b0 : decide ((ji3) < (x0_1.size : Int)) = true := decide_eq_true c5
            clear c5
            by_cases c7 : (bt x0_1 (ji3)) = 32
            · rw [if_pos c7] at H
              have c7b0 : ((bt x0_1 (ji3)) == 32) = true := beq_iff_eq.mpr c7
              have c7b1 : ((bt x0_1 (ji3)) != 32) = false := bne_eq_false_iff_eq.mpr c7
              clear c7
              have c8b0 := eq_true (of_decide_eq_true (by first | (with_reducible assumption) | assumption) : 0 ≤ (ji3))
              by_cases c9 : (ji3) ≤ (x0_1.size : Int)
              · rw [if_pos c9] at H
                have c9b0 := eq_true c9
                have c9b1 : decide ((ji3) ≤ (x0_1.size : Int)) = true := decide_eq_true c9
                clear c9
                have H' := Aside0.mk H
                clear H
                have p6 : 0 ≤ ((ji3) : Int) := of_decide_eq_true (by first | (with_reducible assumption) | assumption)
                have q6 : (ji3) < (x0_1.size : Int) := of_decide_eq_true (by first | (with_reducible assumption) | assumption)
                have hx6 := bt_at x0_1 (ji3)
                replace p6 := eq_true p6
                replace q6 := eq_true q6
                go_wp2
                go_roundg k1
                case measure => have := HK1.out; omega
                case rel => exact ⟨(x0_1.extract 0 ((ji3) : Int).toNat), (by first | rfl | (simp; done) | (simp only [← hji3] <;> (first | rfl | simp)) | (simp [*]; done)), H', ⟨by have := HK1.out; omega⟩, by repeat (first | exact Drawn0.refl _ | apply Drawn0.step)⟩
              · rw [if_neg c9] at H
                exact absurd H (by simp)
            · rw [if_neg c7] at H
              have c7b0 : ((bt x0_1 (ji3)) == 32) = false := beq_eq_false_iff_ne.mpr c7
              have c7b1 : ((bt x0_1 (ji3)) != 32) = true := bne_iff_ne.mpr c7
              obtain rfl := Option.some.inj H
              have p6 : 0 ≤ ((ji3) : Int) := of_decide_eq_true (by first | (with_reducible assumption) | assumption)
              have q6 : (ji3) < (x0_1.size : Int) := of_decide_eq_true (by first | (with_reducible assumption) | assumption)
              have hx6 := bt_at x0_1 (ji3)
              replace p6 := eq_true p6
              replace q6 := eq_true q6
              go_wp2
              go_ret
              exact ⟨by first | rfl | (simp; done) | (simp only [← hji3] <;> (first | rfl | simp)) | (simp [*]; done), by repeat (first | exact Drawn0.refl _ | apply Drawn0.step)⟩
          · rw [if_neg c5] at H
            exact absurd H (by simp)
        · rw [if_neg c4] at H
          exact absurd H (by simp)
      · rw [if_neg c2] at H
        have c2b0 : decide (0 < (x0_1.size : Int)) = false := decide_eq_false c2
        have c2b1 : decide (0 < x0_1.size) = false := decide_eq_false (by omega)
        clear c2
        obtain rfl := Option.some.inj H
        go_wp2
        go_ret
        exact ⟨by first | rfl | (simp; done) | (simp [*]; done), by repeat (first | exact Drawn0.refl _ | apply Drawn0.step)⟩

/-! ### laws_trimmed: function 12 -/
def laws_trimmed.l0 : Nat → ByteArray → Option (ByteArray)
  | 0, _ => none
  | k + 1, x0 => if x0.toList = ([] : List UInt8) then (some x0) else (if 0 ≤ (wrap64 ((x0.size : Int) - 1)) then (if (wrap64 ((x0.size : Int) - 1)) < (x0.size : Int) then (if (bt x0 (wrap64 ((x0.size : Int) - 1))) = 32 then (if (wrap64 ((x0.size : Int) - 1)) ≤ (x0.size : Int) then (laws_trimmed.l0 k (x0.extract 0 ((wrap64 ((x0.size : Int) - 1)) : Int).toNat)) else (none)) else (some x0)) else (none)) else (none))
def laws_trimmed.f (k : Nat) (a0 : ByteArray) : Option (ByteArray) := laws_trimmed.l0 k a0
theorem laws_trimmed.mono_l : ∀ k, (∀ y0, LeO (laws_trimmed.l0 k y0) (laws_trimmed.l0 (k + 1) y0))
  | 0 => fun _ r h => by simp [laws_trimmed.l0] at h
  | k + 1 => by
    have ih0 := laws_trimmed.mono_l k
    · intro y0
      unfold laws_trimmed.l0
      repeat' first
      | (with_reducible exact ih0 _)
      | (with_reducible exact LeO.refl _)
      | (with_reducible exact LeO.none _)
      | (with_reducible refine LeO.ite ?_ ?_)
      | (with_reducible refine LeO.bind ?_ (fun _ => ?_))
      | exact ih0 _
      | exact LeO.none _
      | refine LeO.ite ?_ ?_
      | refine LeO.bind ?_ (fun _ => ?_)
theorem laws_trimmed.mono : ∀ a0 k, LeO (laws_trimmed.f k a0) (laws_trimmed.f (k + 1) a0) := by
  intro a0 k
  have ih0 := laws_trimmed.mono_l k
  unfold laws_trimmed.f
  repeat' first
      | (with_reducible exact ih0 _)
      | (with_reducible exact LeO.refl _)
      | (with_reducible exact LeO.none _)
      | (with_reducible refine LeO.ite ?_ ?_)
      | (with_reducible refine LeO.bind ?_ (fun _ => ?_))
      | exact ih0 _
      | exact LeO.none _
      | refine LeO.ite ?_ ?_
      | refine LeO.bind ?_ (fun _ => ?_)
set_option maxHeartbeats 8000000 in
set_option maxRecDepth 100000 in
theorem laws_trimmed.calls (k : Nat) (a0 : ByteArray) (r : ByteArray) (w : World) (h : laws_trimmed.f k a0 = some r) :
    Calls Tryd.prog 12 #[.string a0] w fun e w' => e = .returned (.string r) ∧ Drawn0 w w' := by
  have H : (laws_trimmed.l0 k a0) = some r := h
  clear h
  have H' := Aside0.mk H
  clear H
  go_enter Tryd.func12, Tryd.ntmps12
  go_wp2
  go_loopg [0] k (fun kq v0 w' => ∃ (x0_1 : ByteArray), v0 = .string x0_1 ∧ Aside0 (laws_trimmed.l0 kq x0_1 = some r) ∧ Aside0 (kq ≤ k) ∧ Drawn0 w w')
  case atStart => exact ⟨(a0), (by first | rfl | (simp; done) | (simp [*]; done)), H', ⟨Nat.le_refl _⟩, by repeat (first | exact Drawn0.refl _ | apply Drawn0.step)⟩
  case round =>
    clear H'
    try clear c1
    obtain ⟨x0_1, rfl, HA, HK1, ⟨m1, rfl⟩⟩ := hrel
    cases gk with
    | zero => exact absurd HA.out (by simp [laws_trimmed.l0])
    | succ k1 =>
      have H := HA.out
      clear HA
      simp only [laws_trimmed.l0] at H
      by_cases c2 : x0_1.toList = ([] : List UInt8)
      · rw [if_pos c2] at H
        have c2b0 : (x0_1.toList == ([] : List UInt8)) = true := beq_iff_eq.mpr c2
        have c2b1 : (x0_1.toList != ([] : List UInt8)) = false := bne_eq_false_iff_eq.mpr c2
        (try (have c2b2 : x0_1.toList.isEmpty = true := by simpa using c2))
        clear c2
        obtain rfl := Option.some.inj H
        go_wp2
        go_ret
        exact ⟨by first | rfl | (simp; done) | (simp [*]; done), by repeat (first | exact Drawn0.refl _ | apply Drawn0.step)⟩
      · rw [if_neg c2] at H
        have c2b0 : (x0_1.toList == ([] : List UInt8)) = false := beq_eq_false_iff_ne.mpr c2
        have c2b1 : (x0_1.toList != ([] : List UInt8)) = true := bne_iff_ne.mpr c2
        (try (have c2b2 : x0_1.toList.isEmpty = false := by simpa using c2))
        obtain ⟨ji3, hji3⟩ : ∃ j_ : Int, (wrap64 ((x0_1.size : Int) - 1)) = j_ := ⟨_, rfl⟩
        replace H : (if 0 ≤ (ji3) then (if (ji3) < (x0_1.size : Int) then (if (bt x0_1 (ji3)) = 32 then (if (ji3) ≤ (x0_1.size : Int) then (laws_trimmed.l0 k1 (x0_1.extract 0 ((ji3) : Int).toNat)) else (none)) else (some x0_1)) else (none)) else (none)) = some r := by first | (rw [hji3] at H; exact H) | (simp only [hji3] at H ⊢; exact H)
        have hji3w : (IntKind.i64.wrap ((x0_1.size : Int) - 1)) = ji3 := (i64_w _).trans hji3
        by_cases c4 : 0 ≤ (ji3)
        · rw [if_pos c4] at H
          have c4b0 : decide (0 ≤ (ji3)) = true := decide_eq_true c4
          clear c4
          by_cases c5 : (ji3) < (x0_1.size : Int)
          · rw [if_pos c5] at H
            have c5b0 : decide ((ji3) < (x0_1.size : Int)) = true := decide_eq_true c5
            clear c5
            by_cases c7 : (bt x0_1 (ji3)) = 32
            · rw [if_pos c7] at H
              have c7b0 : ((bt x0_1 (ji3)) == 32) = true := beq_iff_eq.mpr c7
              have c7b1 : ((bt x0_1 (ji3)) != 32) = false := bne_eq_false_iff_eq.mpr c7
              clear c7
              have c8b0 := eq_true (of_decide_eq_true (by first | (with_reducible assumption) | assumption) : 0 ≤ (ji3))
              by_cases c9 : (ji3) ≤ (x0_1.size : Int)
              · rw [if_pos c9] at H
                have c9b0 := eq_true c9
                have c9b1 : decide ((ji3) ≤ (x0_1.size : Int)) = true := decide_eq_true c9
                clear c9
                have H' := Aside0.mk H
                clear H
                have p6 : 0 ≤ ((ji3) : Int) := of_decide_eq_true (by first | (with_reducible assumption) | assumption)
                have q6 : (ji3) < (x0_1.size : Int) := of_decide_eq_true (by first | (with_reducible assumption) | assumption)
                have hx6 := bt_at x0_1 (ji3)
                replace p6 := eq_true p6
                replace q6 := eq_true q6
                go_wp2
                go_roundg k1
                case measure => have := HK1.out; omega
                case rel => exact ⟨(x0_1.extract 0 ((ji3) : Int).toNat), (by first | rfl | (simp; done) | (simp only [← hji3] <;> (first | rfl | simp)) | (simp [*]; done)), H', ⟨by have := HK1.out; omega⟩, by repeat (first | exact Drawn0.refl _ | apply Drawn0.step)⟩
              · rw [if_neg c9] at H
                exact absurd H (by simp)
            · rw [if_neg c7] at H
              have c7b0 : ((bt x0_1 (ji3)) == 32) = false := beq_eq_false_iff_ne.mpr c7
              have c7b1 : ((bt x0_1 (ji3)) != 32) = true := bne_iff_ne.mpr c7
              obtain rfl := Option.some.inj H
              have p6 : 0 ≤ ((ji3) : Int) := of_decide_eq_true (by first | (with_reducible assumption) | assumption)
              have q6 : (ji3) < (x0_1.size : Int) := of_decide_eq_true (by first | (with_reducible assumption) | assumption)
              have hx6 := bt_at x0_1 (ji3)
              replace p6 := eq_true p6
              replace q6 := eq_true q6
              go_wp2
              go_ret
              exact ⟨by first | rfl | (simp; done) | (simp only [← hji3] <;> (first | rfl | simp)) | (simp [*]; done), by repeat (first | exact Drawn0.refl _ | apply Drawn0.step)⟩
          · rw [if_neg c5] at H
            exact absurd H (by simp)
        · rw [if_neg c4] at H
          exact absurd H (by simp)

/-! ### humanize_defaultMagnitudes: function 34 -/
def humanize_defaultMagnitudes.f  : Option ((List (S47))) := some (([(⟨1000000000, (⟨#[110, 111, 119]⟩ : ByteArray), 1000000000⟩ : S47), (⟨2000000000, (⟨#[49, 32, 115, 101, 99, 111, 110, 100, 32, 37, 115]⟩ : ByteArray), 1⟩ : S47), (⟨60000000000, (⟨#[37, 100, 32, 115, 101, 99, 111, 110, 100, 115, 32, 37, 115]⟩ : ByteArray), 1000000000⟩ : S47), (⟨120000000000, (⟨#[49, 32, 109, 105, 110, 117, 116, 101, 32, 37, 115]⟩ : ByteArray), 1⟩ : S47), (⟨3600000000000, (⟨#[37, 100, 32, 109, 105, 110, 117, 116, 101, 115, 32, 37, 115]⟩ : ByteArray), 60000000000⟩ : S47), (⟨7200000000000, (⟨#[49, 32, 104, 111, 117, 114, 32, 37, 115]⟩ : ByteArray), 1⟩ : S47), (⟨86400000000000, (⟨#[37, 100, 32, 104, 111, 117, 114, 115, 32, 37, 115]⟩ : ByteArray), 3600000000000⟩ : S47), (⟨172800000000000, (⟨#[49, 32, 100, 97, 121, 32, 37, 115]⟩ : ByteArray), 1⟩ : S47), (⟨604800000000000, (⟨#[37, 100, 32, 100, 97, 121, 115, 32, 37, 115]⟩ : ByteArray), 86400000000000⟩ : S47), (⟨1209600000000000, (⟨#[49, 32, 119, 101, 101, 107, 32, 37, 115]⟩ : ByteArray), 1⟩ : S47), (⟨2592000000000000, (⟨#[37, 100, 32, 119, 101, 101, 107, 115, 32, 37, 115]⟩ : ByteArray), 604800000000000⟩ : S47), (⟨5184000000000000, (⟨#[49, 32, 109, 111, 110, 116, 104, 32, 37, 115]⟩ : ByteArray), 1⟩ : S47), (⟨31104000000000000, (⟨#[37, 100, 32, 109, 111, 110, 116, 104, 115, 32, 37, 115]⟩ : ByteArray), 2592000000000000⟩ : S47), (⟨46656000000000000, (⟨#[49, 32, 121, 101, 97, 114, 32, 37, 115]⟩ : ByteArray), 1⟩ : S47), (⟨62208000000000000, (⟨#[50, 32, 121, 101, 97, 114, 115, 32, 37, 115]⟩ : ByteArray), 1⟩ : S47), (⟨1150848000000000000, (⟨#[37, 100, 32, 121, 101, 97, 114, 115, 32, 37, 115]⟩ : ByteArray), 31104000000000000⟩ : S47), (⟨9223372036854775807, (⟨#[97, 32, 108, 111, 110, 103, 32, 119, 104, 105, 108, 101, 32, 37, 115]⟩ : ByteArray), 1⟩ : S47)] : List (S47)))
set_option maxHeartbeats 8000000 in
set_option maxRecDepth 100000 in
theorem humanize_defaultMagnitudes.calls  (r : List (S47)) (w : World) (h : humanize_defaultMagnitudes.f  = some r) :
    Calls Tryd.prog 34 #[] w fun e w' => ∃ v0_ : Value, e = .returned (v0_) ∧ Kd.R k47 47 w' w.heap.size (fun _ => True) v0_ r ∧ Below w.heap.size w w' := by
  have hu47 := Tryd.underlying47
  have HB := Aside0.mk (Below.refl w.heap.size w)
  have H : (some (([(⟨1000000000, (⟨#[110, 111, 119]⟩ : ByteArray), 1000000000⟩ : S47), (⟨2000000000, (⟨#[49, 32, 115, 101, 99, 111, 110, 100, 32, 37, 115]⟩ : ByteArray), 1⟩ : S47), (⟨60000000000, (⟨#[37, 100, 32, 115, 101, 99, 111, 110, 100, 115, 32, 37, 115]⟩ : ByteArray), 1000000000⟩ : S47), (⟨120000000000, (⟨#[49, 32, 109, 105, 110, 117, 116, 101, 32, 37, 115]⟩ : ByteArray), 1⟩ : S47), (⟨3600000000000, (⟨#[37, 100, 32, 109, 105, 110, 117, 116, 101, 115, 32, 37, 115]⟩ : ByteArray), 60000000000⟩ : S47), (⟨7200000000000, (⟨#[49, 32, 104, 111, 117, 114, 32, 37, 115]⟩ : ByteArray), 1⟩ : S47), (⟨86400000000000, (⟨#[37, 100, 32, 104, 111, 117, 114, 115, 32, 37, 115]⟩ : ByteArray), 3600000000000⟩ : S47), (⟨172800000000000, (⟨#[49, 32, 100, 97, 121, 32, 37, 115]⟩ : ByteArray), 1⟩ : S47), (⟨604800000000000, (⟨#[37, 100, 32, 100, 97, 121, 115, 32, 37, 115]⟩ : ByteArray), 86400000000000⟩ : S47), (⟨1209600000000000, (⟨#[49, 32, 119, 101, 101, 107, 32, 37, 115]⟩ : ByteArray), 1⟩ : S47), (⟨2592000000000000, (⟨#[37, 100, 32, 119, 101, 101, 107, 115, 32, 37, 115]⟩ : ByteArray), 604800000000000⟩ : S47), (⟨5184000000000000, (⟨#[49, 32, 109, 111, 110, 116, 104, 32, 37, 115]⟩ : ByteArray), 1⟩ : S47), (⟨31104000000000000, (⟨#[37, 100, 32, 109, 111, 110, 116, 104, 115, 32, 37, 115]⟩ : ByteArray), 2592000000000000⟩ : S47), (⟨46656000000000000, (⟨#[49, 32, 121, 101, 97, 114, 32, 37, 115]⟩ : ByteArray), 1⟩ : S47), (⟨62208000000000000, (⟨#[50, 32, 121, 101, 97, 114, 115, 32, 37, 115]⟩ : ByteArray), 1⟩ : S47), (⟨1150848000000000000, (⟨#[37, 100, 32, 121, 101, 97, 114, 115, 32, 37, 115]⟩ : ByteArray), 31104000000000000⟩ : S47), (⟨9223372036854775807, (⟨#[97, 32, 108, 111, 110, 103, 32, 119, 104, 105, 108, 101, 32, 37, 115]⟩ : ByteArray), 1⟩ : S47)] : List (S47)))) = some r := h
  clear h
  obtain ⟨y129, hy129⟩ : ∃ y_ : List (S47), y_ = (([(⟨1000000000, (⟨#[110, 111, 119]⟩ : ByteArray), 1000000000⟩ : S47), (⟨2000000000, (⟨#[49, 32, 115, 101, 99, 111, 110, 100, 32, 37, 115]⟩ : ByteArray), 1⟩ : S47), (⟨60000000000, (⟨#[37, 100, 32, 115, 101, 99, 111, 110, 100, 115, 32, 37, 115]⟩ : ByteArray), 1000000000⟩ : S47), (⟨120000000000, (⟨#[49, 32, 109, 105, 110, 117, 116, 101, 32, 37, 115]⟩ : ByteArray), 1⟩ : S47), (⟨3600000000000, (⟨#[37, 100, 32, 109, 105, 110, 117, 116, 101, 115, 32, 37, 115]⟩ : ByteArray), 60000000000⟩ : S47), (⟨7200000000000, (⟨#[49, 32, 104, 111, 117, 114, 32, 37, 115]⟩ : ByteArray), 1⟩ : S47), (⟨86400000000000, (⟨#[37, 100, 32, 104, 111, 117, 114, 115, 32, 37, 115]⟩ : ByteArray), 3600000000000⟩ : S47), (⟨172800000000000, (⟨#[49, 32, 100, 97, 121, 32, 37, 115]⟩ : ByteArray), 1⟩ : S47), (⟨604800000000000, (⟨#[37, 100, 32, 100, 97, 121, 115, 32, 37, 115]⟩ : ByteArray), 86400000000000⟩ : S47), (⟨1209600000000000, (⟨#[49, 32, 119, 101, 101, 107, 32, 37, 115]⟩ : ByteArray), 1⟩ : S47), (⟨2592000000000000, (⟨#[37, 100, 32, 119, 101, 101, 107, 115, 32, 37, 115]⟩ : ByteArray), 604800000000000⟩ : S47), (⟨5184000000000000, (⟨#[49, 32, 109, 111, 110, 116, 104, 32, 37, 115]⟩ : ByteArray), 1⟩ : S47), (⟨31104000000000000, (⟨#[37, 100, 32, 109, 111, 110, 116, 104, 115, 32, 37, 115]⟩ : ByteArray), 2592000000000000⟩ : S47), (⟨46656000000000000, (⟨#[49, 32, 121, 101, 97, 114, 32, 37, 115]⟩ : ByteArray), 1⟩ : S47), (⟨62208000000000000, (⟨#[50, 32, 121, 101, 97, 114, 115, 32, 37, 115]⟩ : ByteArray), 1⟩ : S47), (⟨1150848000000000000, (⟨#[37, 100, 32, 121, 101, 97, 114, 115, 32, 37, 115]⟩ : ByteArray), 31104000000000000⟩ : S47), (⟨9223372036854775807, (⟨#[97, 32, 108, 111, 110, 103, 32, 119, 104, 105, 108, 101, 32, 37, 115]⟩ : ByteArray), 1⟩ : S47)] : List (S47))) := ⟨_, rfl⟩
  replace H : (some y129) = some r := by first | (rw [hy129]; with_reducible exact H) | (have H2_ := (Option.bind_some _ _).symm.trans H; rw [hy129]; with_reducible exact H2_) | (have H2_ := (Option.bind_some _ _).symm.trans H; with_reducible exact H2_) | with_reducible exact H | (rw [hy129]; exact H) | exact H
  have Ny129 := Aside0.mk hy129
  clear hy129
  obtain rfl := Option.some.inj H
  go_enter Tryd.func34, Tryd.ntmps34
  go_wp2_with (first | ((with_reducible refine gate_dst (N := 18) rfl ?_); refine Kd.R_lit k47 _ 47 ?hg (N := 18) ?hd (xs := ([(⟨1000000000, (⟨#[110, 111, 119]⟩ : ByteArray), 1000000000⟩ : S47), (⟨2000000000, (⟨#[49, 32, 115, 101, 99, 111, 110, 100, 32, 37, 115]⟩ : ByteArray), 1⟩ : S47), (⟨60000000000, (⟨#[37, 100, 32, 115, 101, 99, 111, 110, 100, 115, 32, 37, 115]⟩ : ByteArray), 1000000000⟩ : S47), (⟨120000000000, (⟨#[49, 32, 109, 105, 110, 117, 116, 101, 32, 37, 115]⟩ : ByteArray), 1⟩ : S47), (⟨3600000000000, (⟨#[37, 100, 32, 109, 105, 110, 117, 116, 101, 115, 32, 37, 115]⟩ : ByteArray), 60000000000⟩ : S47), (⟨7200000000000, (⟨#[49, 32, 104, 111, 117, 114, 32, 37, 115]⟩ : ByteArray), 1⟩ : S47), (⟨86400000000000, (⟨#[37, 100, 32, 104, 111, 117, 114, 115, 32, 37, 115]⟩ : ByteArray), 3600000000000⟩ : S47), (⟨172800000000000, (⟨#[49, 32, 100, 97, 121, 32, 37, 115]⟩ : ByteArray), 1⟩ : S47), (⟨604800000000000, (⟨#[37, 100, 32, 100, 97, 121, 115, 32, 37, 115]⟩ : ByteArray), 86400000000000⟩ : S47), (⟨1209600000000000, (⟨#[49, 32, 119, 101, 101, 107, 32, 37, 115]⟩ : ByteArray), 1⟩ : S47), (⟨2592000000000000, (⟨#[37, 100, 32, 119, 101, 101, 107, 115, 32, 37, 115]⟩ : ByteArray), 604800000000000⟩ : S47), (⟨5184000000000000, (⟨#[49, 32, 109, 111, 110, 116, 104, 32, 37, 115]⟩ : ByteArray), 1⟩ : S47), (⟨31104000000000000, (⟨#[37, 100, 32, 109, 111, 110, 116, 104, 115, 32, 37, 115]⟩ : ByteArray), 2592000000000000⟩ : S47), (⟨46656000000000000, (⟨#[49, 32, 121, 101, 97, 114, 32, 37, 115]⟩ : ByteArray), 1⟩ : S47), (⟨62208000000000000, (⟨#[50, 32, 121, 101, 97, 114, 115, 32, 37, 115]⟩ : ByteArray), 1⟩ : S47), (⟨1150848000000000000, (⟨#[37, 100, 32, 121, 101, 97, 114, 115, 32, 37, 115]⟩ : ByteArray), 31104000000000000⟩ : S47), (⟨9223372036854775807, (⟨#[97, 32, 108, 111, 110, 103, 32, 119, 104, 105, 108, 101, 32, 37, 115]⟩ : ByteArray), 1⟩ : S47)] : List (S47))) (inner := [.int .i64 1000000000, .string (⟨#[110, 111, 119]⟩ : ByteArray), .int .i64 1000000000, .int .i64 2000000000, .string (⟨#[49, 32, 115, 101, 99, 111, 110, 100, 32, 37, 115]⟩ : ByteArray), .int .i64 1, .int .i64 60000000000, .string (⟨#[37, 100, 32, 115, 101, 99, 111, 110, 100, 115, 32, 37, 115]⟩ : ByteArray), .int .i64 1000000000, .int .i64 120000000000, .string (⟨#[49, 32, 109, 105, 110, 117, 116, 101, 32, 37, 115]⟩ : ByteArray), .int .i64 1, .int .i64 3600000000000, .string (⟨#[37, 100, 32, 109, 105, 110, 117, 116, 101, 115, 32, 37, 115]⟩ : ByteArray), .int .i64 60000000000, .int .i64 7200000000000, .string (⟨#[49, 32, 104, 111, 117, 114, 32, 37, 115]⟩ : ByteArray), .int .i64 1, .int .i64 86400000000000, .string (⟨#[37, 100, 32, 104, 111, 117, 114, 115, 32, 37, 115]⟩ : ByteArray), .int .i64 3600000000000, .int .i64 172800000000000, .string (⟨#[49, 32, 100, 97, 121, 32, 37, 115]⟩ : ByteArray), .int .i64 1, .int .i64 604800000000000, .string (⟨#[37, 100, 32, 100, 97, 121, 115, 32, 37, 115]⟩ : ByteArray), .int .i64 86400000000000, .int .i64 1209600000000000, .string (⟨#[49, 32, 119, 101, 101, 107, 32, 37, 115]⟩ : ByteArray), .int .i64 1, .int .i64 2592000000000000, .string (⟨#[37, 100, 32, 119, 101, 101, 107, 115, 32, 37, 115]⟩ : ByteArray), .int .i64 604800000000000, .int .i64 5184000000000000, .string (⟨#[49, 32, 109, 111, 110, 116, 104, 32, 37, 115]⟩ : ByteArray), .int .i64 1, .int .i64 31104000000000000, .string (⟨#[37, 100, 32, 109, 111, 110, 116, 104, 115, 32, 37, 115]⟩ : ByteArray), .int .i64 2592000000000000, .int .i64 46656000000000000, .string (⟨#[49, 32, 121, 101, 97, 114, 32, 37, 115]⟩ : ByteArray), .int .i64 1, .int .i64 62208000000000000, .string (⟨#[50, 32, 121, 101, 97, 114, 115, 32, 37, 115]⟩ : ByteArray), .int .i64 1, .int .i64 1150848000000000000, .string (⟨#[37, 100, 32, 121, 101, 97, 114, 115, 32, 37, 115]⟩ : ByteArray), .int .i64 31104000000000000, .int .i64 9223372036854775807, .string (⟨#[97, 32, 108, 111, 110, 103, 32, 119, 104, 105, 108, 101, 32, 37, 115]⟩ : ByteArray), .int .i64 1]) (ok := fun _ => True) (okp := fun _ => True) ?hr ?hp (fun _ hk => hk) trivial (Below.refl _ _) (Nat.le_refl _) (by simp) ?_; (case hd => rfl); (case hg => rfl); (case hr => first | (go_simp; done) | (go_simp; rfl)); (case hp => exact (Reps.c3 (show Kd.M k47 _ _ _ (⟨1000000000, (⟨#[110, 111, 119]⟩ : ByteArray), 1000000000⟩ : S47) [.int .i64 1000000000, .string (⟨#[110, 111, 119]⟩ : ByteArray), .int .i64 1000000000] from (k47_mkM _ _ _ (⟨1000000000, (⟨#[110, 111, 119]⟩ : ByteArray), 1000000000⟩ : S47) )) (Reps.c3 (show Kd.M k47 _ _ _ (⟨2000000000, (⟨#[49, 32, 115, 101, 99, 111, 110, 100, 32, 37, 115]⟩ : ByteArray), 1⟩ : S47) [.int .i64 2000000000, .string (⟨#[49, 32, 115, 101, 99, 111, 110, 100, 32, 37, 115]⟩ : ByteArray), .int .i64 1] from (k47_mkM _ _ _ (⟨2000000000, (⟨#[49, 32, 115, 101, 99, 111, 110, 100, 32, 37, 115]⟩ : ByteArray), 1⟩ : S47) )) (Reps.c3 (show Kd.M k47 _ _ _ (⟨60000000000, (⟨#[37, 100, 32, 115, 101, 99, 111, 110, 100, 115, 32, 37, 115]⟩ : ByteArray), 1000000000⟩ : S47) [.int .i64 60000000000, .string (⟨#[37, 100, 32, 115, 101, 99, 111, 110, 100, 115, 32, 37, 115]⟩ : ByteArray), .int .i64 1000000000] from (k47_mkM _ _ _ (⟨60000000000, (⟨#[37, 100, 32, 115, 101, 99, 111, 110, 100, 115, 32, 37, 115]⟩ : ByteArray), 1000000000⟩ : S47) )) (Reps.c3 (show Kd.M k47 _ _ _ (⟨120000000000, (⟨#[49, 32, 109, 105, 110, 117, 116, 101, 32, 37, 115]⟩ : ByteArray), 1⟩ : S47) [.int .i64 120000000000, .string (⟨#[49, 32, 109, 105, 110, 117, 116, 101, 32, 37, 115]⟩ : ByteArray), .int .i64 1] from (k47_mkM _ _ _ (⟨120000000000, (⟨#[49, 32, 109, 105, 110, 117, 116, 101, 32, 37, 115]⟩ : ByteArray), 1⟩ : S47) )) (Reps.c3 (show Kd.M k47 _ _ _ (⟨3600000000000, (⟨#[37, 100, 32, 109, 105, 110, 117, 116, 101, 115, 32, 37, 115]⟩ : ByteArray), 60000000000⟩ : S47) [.int .i64 3600000000000, .string (⟨#[37, 100, 32, 109, 105, 110, 117, 116, 101, 115, 32, 37, 115]⟩ : ByteArray), .int .i64 60000000000] from (k47_mkM _ _ _ (⟨3600000000000, (⟨#[37, 100, 32, 109, 105, 110, 117, 116, 101, 115, 32, 37, 115]⟩ : ByteArray), 60000000000⟩ : S47) )) (Reps.c3 (show Kd.M k47 _ _ _ (⟨7200000000000, (⟨#[49, 32, 104, 111, 117, 114, 32, 37, 115]⟩ : ByteArray), 1⟩ : S47) [.int .i64 7200000000000, .string (⟨#[49, 32, 104, 111, 117, 114, 32, 37, 115]⟩ : ByteArray), .int .i64 1] from (k47_mkM _ _ _ (⟨7200000000000, (⟨#[49, 32, 104, 111, 117, 114, 32, 37, 115]⟩ : ByteArray), 1⟩ : S47) )) (Reps.c3 (show Kd.M k47 _ _ _ (⟨86400000000000, (⟨#[37, 100, 32, 104, 111, 117, 114, 115, 32, 37, 115]⟩ : ByteArray), 3600000000000⟩ : S47) [.int .i64 86400000000000, .string (⟨#[37, 100, 32, 104, 111, 117, 114, 115, 32, 37, 115]⟩ : ByteArray), .int .i64 3600000000000] from (k47_mkM _ _ _ (⟨86400000000000, (⟨#[37, 100, 32, 104, 111, 117, 114, 115, 32, 37, 115]⟩ : ByteArray), 3600000000000⟩ : S47) )) (Reps.c3 (show Kd.M k47 _ _ _ (⟨172800000000000, (⟨#[49, 32, 100, 97, 121, 32, 37, 115]⟩ : ByteArray), 1⟩ : S47) [.int .i64 172800000000000, .string (⟨#[49, 32, 100, 97, 121, 32, 37, 115]⟩ : ByteArray), .int .i64 1] from (k47_mkM _ _ _ (⟨172800000000000, (⟨#[49, 32, 100, 97, 121, 32, 37, 115]⟩ : ByteArray), 1⟩ : S47) )) (Reps.c3 (show Kd.M k47 _ _ _ (⟨604800000000000, (⟨#[37, 100, 32, 100, 97, 121, 115, 32, 37, 115]⟩ : ByteArray), 86400000000000⟩ : S47) [.int .i64 604800000000000, .string (⟨#[37, 100, 32, 100, 97, 121, 115, 32, 37, 115]⟩ : ByteArray), .int .i64 86400000000000] from (k47_mkM _ _ _ (⟨604800000000000, (⟨#[37, 100, 32, 100, 97, 121, 115, 32, 37, 115]⟩ : ByteArray), 86400000000000⟩ : S47) )) (Reps.c3 (show Kd.M k47 _ _ _ (⟨1209600000000000, (⟨#[49, 32, 119, 101, 101, 107, 32, 37, 115]⟩ : ByteArray), 1⟩ : S47) [.int .i64 1209600000000000, .string (⟨#[49, 32, 119, 101, 101, 107, 32, 37, 115]⟩ : ByteArray), .int .i64 1] from (k47_mkM _ _ _ (⟨1209600000000000, (⟨#[49, 32, 119, 101, 101, 107, 32, 37, 115]⟩ : ByteArray), 1⟩ : S47) )) (Reps.c3 (show Kd.M k47 _ _ _ (⟨2592000000000000, (⟨#[37, 100, 32, 119, 101, 101, 107, 115, 32, 37, 115]⟩ : ByteArray), 604800000000000⟩ : S47) [.int .i64 2592000000000000, .string (⟨#[37, 100, 32, 119, 101, 101, 107, 115, 32, 37, 115]⟩ : ByteArray), .int .i64 604800000000000] from (k47_mkM _ _ _ (⟨2592000000000000, (⟨#[37, 100, 32, 119, 101, 101, 107, 115, 32, 37, 115]⟩ : ByteArray), 604800000000000⟩ : S47) )) (Reps.c3 (show Kd.M k47 _ _ _ (⟨5184000000000000, (⟨#[49, 32, 109, 111, 110, 116, 104, 32, 37, 115]⟩ : ByteArray), 1⟩ : S47) [.int .i64 5184000000000000, .string (⟨#[49, 32, 109, 111, 110, 116, 104, 32, 37, 115]⟩ : ByteArray), .int .i64 1] from (k47_mkM _ _ _ (⟨5184000000000000, (⟨#[49, 32, 109, 111, 110, 116, 104, 32, 37, 115]⟩ : ByteArray), 1⟩ : S47) )) (Reps.c3 (show Kd.M k47 _ _ _ (⟨31104000000000000, (⟨#[37, 100, 32, 109, 111, 110, 116, 104, 115, 32, 37, 115]⟩ : ByteArray), 2592000000000000⟩ : S47) [.int .i64 31104000000000000, .string (⟨#[37, 100, 32, 109, 111, 110, 116, 104, 115, 32, 37, 115]⟩ : ByteArray), .int .i64 2592000000000000] from (k47_mkM _ _ _ (⟨31104000000000000, (⟨#[37, 100, 32, 109, 111, 110, 116, 104, 115, 32, 37, 115]⟩ : ByteArray), 2592000000000000⟩ : S47) )) (Reps.c3 (show Kd.M k47 _ _ _ (⟨46656000000000000, (⟨#[49, 32, 121, 101, 97, 114, 32, 37, 115]⟩ : ByteArray), 1⟩ : S47) [.int .i64 46656000000000000, .string (⟨#[49, 32, 121, 101, 97, 114, 32, 37, 115]⟩ : ByteArray), .int .i64 1] from (k47_mkM _ _ _ (⟨46656000000000000, (⟨#[49, 32, 121, 101, 97, 114, 32, 37, 115]⟩ : ByteArray), 1⟩ : S47) )) (Reps.c3 (show Kd.M k47 _ _ _ (⟨62208000000000000, (⟨#[50, 32, 121, 101, 97, 114, 115, 32, 37, 115]⟩ : ByteArray), 1⟩ : S47) [.int .i64 62208000000000000, .string (⟨#[50, 32, 121, 101, 97, 114, 115, 32, 37, 115]⟩ : ByteArray), .int .i64 1] from (k47_mkM _ _ _ (⟨62208000000000000, (⟨#[50, 32, 121, 101, 97, 114, 115, 32, 37, 115]⟩ : ByteArray), 1⟩ : S47) )) (Reps.c3 (show Kd.M k47 _ _ _ (⟨1150848000000000000, (⟨#[37, 100, 32, 121, 101, 97, 114, 115, 32, 37, 115]⟩ : ByteArray), 31104000000000000⟩ : S47) [.int .i64 1150848000000000000, .string (⟨#[37, 100, 32, 121, 101, 97, 114, 115, 32, 37, 115]⟩ : ByteArray), .int .i64 31104000000000000] from (k47_mkM _ _ _ (⟨1150848000000000000, (⟨#[37, 100, 32, 121, 101, 97, 114, 115, 32, 37, 115]⟩ : ByteArray), 31104000000000000⟩ : S47) )) (Reps.c3 (show Kd.M k47 _ _ _ (⟨9223372036854775807, (⟨#[97, 32, 108, 111, 110, 103, 32, 119, 104, 105, 108, 101, 32, 37, 115]⟩ : ByteArray), 1⟩ : S47) [.int .i64 9223372036854775807, .string (⟨#[97, 32, 108, 111, 110, 103, 32, 119, 104, 105, 108, 101, 32, 37, 115]⟩ : ByteArray), .int .i64 1] from (k47_mkM _ _ _ (⟨9223372036854775807, (⟨#[97, 32, 108, 111, 110, 103, 32, 119, 104, 105, 108, 101, 32, 37, 115]⟩ : ByteArray), 1⟩ : S47) )) (Reps.none _ _))))))))))))))))))); intro v130 w1 ho2 hb hg_ hnew_; clear hg_ hnew_; (first | rw [← Ny129.out] at ho2 | (simp only [Int.reduceToNat] at ho2; rw [← Ny129.out] at ho2)); have n0_ := Aside0.mk (Kd.R_lower ho2 (below_size (by repeat (first | (with_reducible first | exact HB.out | apply below_alloc | apply pw_below_drewN | apply below_drew1) | exact HB.out)))); have n1_ := Aside0.mk (below_step (by repeat (first | (with_reducible first | exact HB.out | apply below_alloc | apply pw_below_drewN | apply below_drew1) | exact HB.out)) hb); clear HB; have HO131 := n0_; have HB := n1_; clear n0_ n1_; clear hb ho2))
  go_ret
  exact ⟨_, by first | rfl | (simp [errW_none, errW_some] <;> rfl) | (simp [*, errW_none, errW_some] <;> rfl), by (with_reducible repeat (first | apply Kd.R_alloc | apply Kd.R_drewN | apply Kd.R_drew)); exact HO131.out, by repeat (first | (with_reducible first | exact HB.out | apply below_alloc | apply pw_below_drewN | apply below_drew1) | exact HB.out)⟩

end Go.Proofs.YtmdgbbiipjmenaaDoor.PAll
