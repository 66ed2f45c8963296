-- written by a program of this work
import Derived.Test.YtmdgbbiipjmenaaDoorPCusx0
import Derived.Test.YtmdgbbiipjmenaaDoorPCusx2
namespace Go.Proofs.YtmdgbbiipjmenaaDoor.PCus
open Go.RowKit Go.Proofs.YtmdgbbiipjmenaaDoorW.PrintWords Go.Proofs.YtmdgbbiipjmenaaDoorW.PrintLast Go.Proofs.YtmdgbbiipjmenaaDoorW.PrintMore
attribute [local go_sem] max2_int min2_int max_two min_two max_three min_three max_four min_four   -- for this text's walks alone
set_option linter.unusedVariables false
set_option linter.unusedSimpArgs false

/-! ### spec_Filled: function 10 -/
mutual
def spec_Filled.l0 : Nat → ByteArray → Int → ByteArray → ByteArray → Int → Option (ByteArray)
  | 0, _, _, _, _, _ => none
  | k + 1, x0, x1, x2, x7, x8 => if x8 < (x0.size : Int) then (if 0 ≤ x8 then (if (bt x0 x8) = 37 then (spec_Filled.j1 k x0 x1 x2 x7 x8 ((wrap64 (x8 + 1)) == (x0.size : Int))) else (spec_Filled.j1 k x0 x1 x2 x7 x8 true)) else (none)) else (some x7)
def spec_Filled.j1 : Nat → ByteArray → Int → ByteArray → ByteArray → Int → Bool → Option (ByteArray)
  | 0, _, _, _, _, _, _ => none
  | k + 1, x0, x1, x2, x7, x8, x25 => if x25 = true then (if 0 ≤ x8 then (if x8 ≤ (wrap64 (x8 + 1)) then (if (wrap64 (x8 + 1)) ≤ (x0.size : Int) then (if x7.size + (x0.extract (x8 : Int).toNat ((wrap64 (x8 + 1)) : Int).toNat).size ≤ 9223372036854775807 then (spec_Filled.l0 k x0 x1 x2 (x7 ++ (x0.extract (x8 : Int).toNat ((wrap64 (x8 + 1)) : Int).toNat)) (wrap64 (x8 + 1))) else (none)) else (none)) else (none)) else (none)) else (if 0 ≤ (wrap64 (x8 + 1)) then (if (wrap64 (x8 + 1)) < (x0.size : Int) then (if (bt x0 (wrap64 (x8 + 1))) = 100 then ((spec_Decimal.f k x1).bind fun t136 => (if x7.size + t136.size ≤ 9223372036854775807 then (spec_Filled.l0 k x0 x1 x2 (x7 ++ t136) (wrap64 ((wrap64 (x8 + 1)) + 1))) else (none))) else (if (bt x0 (wrap64 (x8 + 1))) = 115 then (if x7.size + x2.size ≤ 9223372036854775807 then (spec_Filled.l0 k x0 x1 x2 (x7 ++ x2) (wrap64 ((wrap64 (x8 + 1)) + 1))) else (none)) else (if (wrap64 (x8 + 1)) ≤ (wrap64 ((wrap64 (x8 + 1)) + 1)) then (if (wrap64 ((wrap64 (x8 + 1)) + 1)) ≤ (x0.size : Int) then (if x7.size + (x0.extract ((wrap64 (x8 + 1)) : Int).toNat ((wrap64 ((wrap64 (x8 + 1)) + 1)) : Int).toNat).size ≤ 9223372036854775807 then (spec_Filled.l0 k x0 x1 x2 (x7 ++ (x0.extract ((wrap64 (x8 + 1)) : Int).toNat ((wrap64 ((wrap64 (x8 + 1)) + 1)) : Int).toNat)) (wrap64 ((wrap64 (x8 + 1)) + 1))) else (none)) else (none)) else (none)))) else (none)) else (none))
end
def spec_Filled.f (k : Nat) (a0 : ByteArray) (a1 : Int) (a2 : ByteArray) : Option (ByteArray) := spec_Filled.l0 k a0 a1 a2 (⟨#[]⟩ : ByteArray) 0
theorem spec_Filled.mono_l : ∀ k, (∀ y0 y1 y2 y3 y4, LeO (spec_Filled.l0 k y0 y1 y2 y3 y4) (spec_Filled.l0 (k + 1) y0 y1 y2 y3 y4)) ∧ (∀ y0 y1 y2 y3 y4 y5, LeO (spec_Filled.j1 k y0 y1 y2 y3 y4 y5) (spec_Filled.j1 (k + 1) y0 y1 y2 y3 y4 y5))
  | 0 => ⟨fun _ _ _ _ _ r h => by simp [spec_Filled.l0] at h, fun _ _ _ _ _ _ r h => by simp [spec_Filled.j1] at h⟩
  | k + 1 => by
    obtain ⟨ih0, ih1⟩ := spec_Filled.mono_l k
    refine ⟨?_, ?_⟩
    · intro y0 y1 y2 y3 y4
      unfold spec_Filled.l0
      repeat' first
      | (with_reducible exact ih0 _ _ _ _ _)
      | (with_reducible exact ih1 _ _ _ _ _ _)
      | (with_reducible exact spec_Decimal.mono _ _)
      | (with_reducible exact LeO.refl _)
      | (with_reducible exact LeO.none _)
      | (with_reducible refine LeO.ite ?_ ?_)
      | (with_reducible refine LeO.bind ?_ (fun _ => ?_))
      | exact ih0 _ _ _ _ _
      | exact ih1 _ _ _ _ _ _
      | exact spec_Decimal.mono _ _
      | exact LeO.none _
      | refine LeO.ite ?_ ?_
      | refine LeO.bind ?_ (fun _ => ?_)
    · intro y0 y1 y2 y3 y4 y5
      unfold spec_Filled.j1
      repeat' first
      | (with_reducible exact ih0 _ _ _ _ _)
      | (with_reducible exact ih1 _ _ _ _ _ _)
      | (with_reducible exact spec_Decimal.mono _ _)
      | (with_reducible exact LeO.refl _)
      | (with_reducible exact LeO.none _)
      | (with_reducible refine LeO.ite ?_ ?_)
      | (with_reducible refine LeO.bind ?_ (fun _ => ?_))
      | exact ih0 _ _ _ _ _
      | exact ih1 _ _ _ _ _ _
      | exact spec_Decimal.mono _ _
      | exact LeO.none _
      | refine LeO.ite ?_ ?_
      | refine LeO.bind ?_ (fun _ => ?_)
theorem spec_Filled.mono : ∀ a0 a1 a2 k, LeO (spec_Filled.f k a0 a1 a2) (spec_Filled.f (k + 1) a0 a1 a2) := by
  intro a0 a1 a2 k
  obtain ⟨ih0, ih1⟩ := spec_Filled.mono_l k
  unfold spec_Filled.f
  repeat' first
      | (with_reducible exact ih0 _ _ _ _ _)
      | (with_reducible exact ih1 _ _ _ _ _ _)
      | (with_reducible exact spec_Decimal.mono _ _)
      | (with_reducible exact LeO.refl _)
      | (with_reducible exact LeO.none _)
      | (with_reducible refine LeO.ite ?_ ?_)
      | (with_reducible refine LeO.bind ?_ (fun _ => ?_))
      | exact ih0 _ _ _ _ _
      | exact ih1 _ _ _ _ _ _
      | exact spec_Decimal.mono _ _
      | exact LeO.none _
      | refine LeO.ite ?_ ?_
      | refine LeO.bind ?_ (fun _ => ?_)
set_option maxHeartbeats 8000000 in
set_option maxRecDepth 100000 in
theorem spec_Filled.calls (k : Nat) (a0 : ByteArray) (a1 : Int) (a2 : ByteArray) (r : ByteArray) (w : World) (h : spec_Filled.f k a0 a1 a2 = some r) :
    Calls Tryd.prog 10 #[.string a0, .int .i64 a1, .string a2] w fun e w' => e = .returned (.string r) ∧ Drawn0 w w' := by
  have H : (spec_Filled.l0 k a0 a1 a2 (⟨#[]⟩ : ByteArray) 0) = some r := h
  clear h
  have H' := Aside0.mk H
  clear H
  go_enter Tryd.func10, Tryd.ntmps10
  go_wp2
  go_loopg [7, 8] k (fun kq v7 v8 w' => ∃ (x7_1 : ByteArray) (x8_1 : Int), v7 = .string x7_1 ∧ v8 = .int .i64 x8_1 ∧ Aside0 (spec_Filled.l0 kq a0 a1 a2 x7_1 x8_1 = some r) ∧ Aside0 (kq ≤ k) ∧ Drawn0 w w')
  case atStart => exact ⟨((⟨#[]⟩ : ByteArray)), (0), (by first | rfl | (simp; done) | (simp [*]; done)), (by first | rfl | (simp; done) | (simp [*]; done)), H', ⟨Nat.le_refl _⟩, by repeat (first | exact Drawn0.refl _ | apply Drawn0.step)⟩
  case round =>
    clear H'
    try clear c1
    try clear p2
    obtain ⟨x7_1, x8_1, rfl, rfl, HA, HK1, ⟨m1, rfl⟩⟩ := hrel
    cases gk with
    | zero => exact absurd HA.out (by simp [spec_Filled.l0])
    | succ k1 =>
      have H := HA.out
      clear HA
      simp only [spec_Filled.l0] at H
      by_cases c4 : x8_1 < (a0.size : Int)
      · rw [if_pos c4] at H
        have c4b0 : decide (x8_1 < (a0.size : Int)) = true := decide_eq_true c4
        clear c4
        have HC5 := Aside0.mk H
        clear H
        go_upto_region 5 with (fail)
        go_cut [25] (fun v25 wc => ∃ (kq : Nat) (x25_4 : Bool), v25 = .bool x25_4 ∧ Aside0 (spec_Filled.j1 kq a0 a1 a2 x7_1 x8_1 x25_4 = some r) ∧ Aside0 (kq ≤ k1) ∧ Drawn0 w wc)
        case first =>
          have H := HC5.out
          clear HC5
          by_cases c6 : 0 ≤ x8_1
          · rw [if_pos c6] at H
            have c6b0 : decide (0 ≤ x8_1) = true := decide_eq_true c6
            clear c6
            (first | rw [c6b0] | (simp only [i64_w, i32_w]; rw [c6b0]) | rw [c6b2] | skip)
            by_cases c8 : (bt a0 x8_1) = 37
            · rw [if_pos c8] at H
              have c8b0 : ((bt a0 x8_1) == 37) = true := beq_iff_eq.mpr c8
              have c8b1 : ((bt a0 x8_1) != 37) = false := bne_eq_false_iff_eq.mpr c8
              clear c8
              have H' := Aside0.mk H
              clear H
              have p7 : 0 ≤ (x8_1 : Int) := of_decide_eq_true (by first | (with_reducible assumption) | assumption)
              have q7 : x8_1 < (a0.size : Int) := of_decide_eq_true (by first | (with_reducible assumption) | assumption)
              have hx7 := bt_at a0 x8_1
              replace p7 := eq_true p7
              replace q7 := eq_true q7
              go_wp2
              go_meet
              case rel => exact ⟨_, (((wrap64 (x8_1 + 1)) == (a0.size : Int))), (by first | rfl | (simp; done) | (simp [*]; done)), H', ⟨by have := HK1.out; first | omega | exact Nat.le_refl _⟩, by repeat (first | exact Drawn0.refl _ | apply Drawn0.step)⟩
            · rw [if_neg c8] at H
              have c8b0 : ((bt a0 x8_1) == 37) = false := beq_eq_false_iff_ne.mpr c8
              have c8b1 : ((bt a0 x8_1) != 37) = true := bne_iff_ne.mpr c8
              have H' := Aside0.mk H
              clear H
              have p7 : 0 ≤ (x8_1 : Int) := of_decide_eq_true (by first | (with_reducible assumption) | assumption)
              have q7 : x8_1 < (a0.size : Int) := of_decide_eq_true (by first | (with_reducible assumption) | assumption)
              have hx7 := bt_at a0 x8_1
              replace p7 := eq_true p7
              replace q7 := eq_true q7
              go_wp2
              go_meet
              case rel => exact ⟨_, (true), (by first | rfl | (simp; done) | (simp [*]; done)), H', ⟨by have := HK1.out; first | omega | exact Nat.le_refl _⟩, by repeat (first | exact Drawn0.refl _ | apply Drawn0.step)⟩
          · rw [if_neg c6] at H
            exact absurd H (by simp)
        case rest =>
          clear HC5
          try clear c1
          try clear p2
          try clear c4
          try clear c4b0
          try clear c6
          try clear c6b0
          try clear c6b2
          try clear p6
          try clear p7
          try clear q7
          try clear hx7
          try clear c8
          try clear c8b0
          try clear c8b1
          try clear p2
          try clear p7
          try clear q7
          obtain ⟨kq, x25_4, rfl, HA, HJ4, ⟨mc4, rfl⟩⟩ := hcut
          cases kq with
          | zero => exact absurd HA.out (by simp [spec_Filled.j1])
          | succ kj4 =>
            have H := HA.out
            clear HA
            simp only [spec_Filled.j1] at H
            by_cases c9 : x25_4 = true
            · subst c9
              have H1 : (if 0 ≤ x8_1 then (if x8_1 ≤ (wrap64 (x8_1 + 1)) then (if (wrap64 (x8_1 + 1)) ≤ (a0.size : Int) then (if x7_1.size + (a0.extract (x8_1 : Int).toNat ((wrap64 (x8_1 + 1)) : Int).toNat).size ≤ 9223372036854775807 then (spec_Filled.l0 kj4 a0 a1 a2 (x7_1 ++ (a0.extract (x8_1 : Int).toNat ((wrap64 (x8_1 + 1)) : Int).toNat)) (wrap64 (x8_1 + 1))) else (none)) else (none)) else (none)) else (none)) = some r := by rw [if_pos rfl] at H; exact H
              clear H
              have H := H1
              clear H1
              by_cases c10 : 0 ≤ x8_1
              · rw [if_pos c10] at H
                have c10b0 := eq_true c10
                have c10b1 : decide (0 ≤ x8_1) = true := decide_eq_true c10
                clear c10
                by_cases c11 : x8_1 ≤ (wrap64 (x8_1 + 1))
                · rw [if_pos c11] at H
                  have c11b0 := eq_true c11
                  have c11b1 : decide (x8_1 ≤ (wrap64 (x8_1 + 1))) = true := decide_eq_true c11
                  by_cases c12 : (wrap64 (x8_1 + 1)) ≤ (a0.size : Int)
                  · rw [if_pos c12] at H
                    have c12b0 := eq_true c12
                    have c12b1 : decide ((wrap64 (x8_1 + 1)) ≤ (a0.size : Int)) = true := decide_eq_true c12
                    by_cases c13 : x7_1.size + (a0.extract (x8_1 : Int).toNat ((wrap64 (x8_1 + 1)) : Int).toNat).size ≤ 9223372036854775807
                    · rw [if_pos c13] at H
                      have c13b0 := eq_true c13
                      have c13b1 : decide (x7_1.size + (a0.extract (x8_1 : Int).toNat ((wrap64 (x8_1 + 1)) : Int).toNat).size ≤ 9223372036854775807) = true := decide_eq_true c13
                      try have c13b2 : (9223372036854775807 < x7_1.size + (a0.extract (x8_1 : Int).toNat ((wrap64 (x8_1 + 1)) : Int).toNat).size) = False := eq_false (Nat.not_lt.2 c13)
                      try have c13n0 : (9223372036854775807 < x7_1.size + ((a0.extract (x8_1 : Int).toNat ((wrap64 (x8_1 + 1)) : Int).toNat).size)) = False := eq_false (by have h_ := c13; (try simp only [ByteArray.size_append] at h_); omega)
                      have H' := Aside0.mk H
                      clear H
                      go_wp2
                      go_roundg kj4
                      case measure => have := HK1.out; have := HJ4.out; omega
                      case rel => exact ⟨(x7_1 ++ (a0.extract (x8_1 : Int).toNat ((wrap64 (x8_1 + 1)) : Int).toNat)), (wrap64 (x8_1 + 1)), (by first | rfl | (simp; done) | (simp [*]; done)), (by first | rfl | (simp; done) | (simp [*]; done)), H', ⟨by have := HK1.out; have := HJ4.out; omega⟩, by repeat (first | exact Drawn0.refl _ | apply Drawn0.step)⟩
                    · rw [if_neg c13] at H
                      exact absurd H (by simp)
                  · rw [if_neg c12] at H
                    exact absurd H (by simp)
                · rw [if_neg c11] at H
                  exact absurd H (by simp)
              · rw [if_neg c10] at H
                exact absurd H (by simp)
            · replace c9 := Bool.eq_false_iff.mpr c9
              subst c9
              have H1 : (if 0 ≤ (wrap64 (x8_1 + 1)) then (if (wrap64 (x8_1 + 1)) < (a0.size : Int) then (if (bt a0 (wrap64 (x8_1 + 1))) = 100 then ((spec_Decimal.f kj4 a1).bind fun t136 => (if x7_1.size + t136.size ≤ 9223372036854775807 then (spec_Filled.l0 kj4 a0 a1 a2 (x7_1 ++ t136) (wrap64 ((wrap64 (x8_1 + 1)) + 1))) else (none))) else (if (bt a0 (wrap64 (x8_1 + 1))) = 115 then (if x7_1.size + a2.size ≤ 9223372036854775807 then (spec_Filled.l0 kj4 a0 a1 a2 (x7_1 ++ a2) (wrap64 ((wrap64 (x8_1 + 1)) + 1))) else (none)) else (if (wrap64 (x8_1 + 1)) ≤ (wrap64 ((wrap64 (x8_1 + 1)) + 1)) then (if (wrap64 ((wrap64 (x8_1 + 1)) + 1)) ≤ (a0.size : Int) then (if x7_1.size + (a0.extract ((wrap64 (x8_1 + 1)) : Int).toNat ((wrap64 ((wrap64 (x8_1 + 1)) + 1)) : Int).toNat).size ≤ 9223372036854775807 then (spec_Filled.l0 kj4 a0 a1 a2 (x7_1 ++ (a0.extract ((wrap64 (x8_1 + 1)) : Int).toNat ((wrap64 ((wrap64 (x8_1 + 1)) + 1)) : Int).toNat)) (wrap64 ((wrap64 (x8_1 + 1)) + 1))) else (none)) else (none)) else (none)))) else (none)) else (none)) = some r := by rw [if_neg (show ¬ (false = true) by decide)] at H; exact H
              clear H
              have H := H1
              clear H1
              obtain ⟨ji14, hji14⟩ : ∃ j_ : Int, (wrap64 (x8_1 + 1)) = j_ := ⟨_, rfl⟩
              replace H : (if 0 ≤ (ji14) then (if (ji14) < (a0.size : Int) then (if (bt a0 (ji14)) = 100 then ((spec_Decimal.f kj4 a1).bind fun t136 => (if x7_1.size + t136.size ≤ 9223372036854775807 then (spec_Filled.l0 kj4 a0 a1 a2 (x7_1 ++ t136) (wrap64 ((ji14) + 1))) else (none))) else (if (bt a0 (ji14)) = 115 then (if x7_1.size + a2.size ≤ 9223372036854775807 then (spec_Filled.l0 kj4 a0 a1 a2 (x7_1 ++ a2) (wrap64 ((ji14) + 1))) else (none)) else (if (ji14) ≤ (wrap64 ((ji14) + 1)) then (if (wrap64 ((ji14) + 1)) ≤ (a0.size : Int) then (if x7_1.size + (a0.extract ((ji14) : Int).toNat ((wrap64 ((ji14) + 1)) : Int).toNat).size ≤ 9223372036854775807 then (spec_Filled.l0 kj4 a0 a1 a2 (x7_1 ++ (a0.extract ((ji14) : Int).toNat ((wrap64 ((ji14) + 1)) : Int).toNat)) (wrap64 ((ji14) + 1))) else (none)) else (none)) else (none)))) else (none)) else (none)) = some r := by first | (rw [hji14] at H; exact H) | (simp only [hji14] at H ⊢; exact H)
              have hji14w : (IntKind.i64.wrap (x8_1 + 1)) = ji14 := (i64_w _).trans hji14
              by_cases c15 : 0 ≤ (ji14)
              · rw [if_pos c15] at H
                have c15b0 : decide (0 ≤ (ji14)) = true := decide_eq_true c15
                clear c15
                by_cases c16 : (ji14) < (a0.size : Int)
                · rw [if_pos c16] at H
                  have c16b0 : decide ((ji14) < (a0.size : Int)) = true := decide_eq_true c16
                  clear c16
                  by_cases c18 : (bt a0 (ji14)) = 100
                  · rw [if_pos c18] at H
                    have c18b0 : ((bt a0 (ji14)) == 100) = true := beq_iff_eq.mpr c18
                    have c18b1 : ((bt a0 (ji14)) != 100) = false := bne_eq_false_iff_eq.mpr c18
                    clear c18
                    replace H := Option.bind_eq_some_iff.mp H
                    obtain ⟨t136, A190, H⟩ := H
                    replace H : (if x7_1.size + t136.size ≤ 9223372036854775807 then (spec_Filled.l0 kj4 a0 a1 a2 (x7_1 ++ t136) (wrap64 ((ji14) + 1))) else (none)) = some r := H
                    have A19 := Aside0.mk A190
                    clear A190
                    by_cases c20 : x7_1.size + t136.size ≤ 9223372036854775807
                    · rw [if_pos c20] at H
                      have c20b0 := eq_true c20
                      have c20b1 : decide (x7_1.size + t136.size ≤ 9223372036854775807) = true := decide_eq_true c20
                      try have c20b2 : (9223372036854775807 < x7_1.size + t136.size) = False := eq_false (Nat.not_lt.2 c20)
                      have H' := Aside0.mk H
                      clear H
                      have p17 : 0 ≤ ((ji14) : Int) := of_decide_eq_true (by first | (with_reducible assumption) | assumption)
                      have q17 : (ji14) < (a0.size : Int) := of_decide_eq_true (by first | (with_reducible assumption) | assumption)
                      have hx17 := bt_at a0 (ji14)
                      replace p17 := eq_true p17
                      replace q17 := eq_true q17
                      go_wp2_with (first | ((with_reducible refine gate_callee (f := 18) rfl ?_); refine goesL_ (some 49) rfl rfl Tryd.func18 (by kernel_rfl) rfl #[.int .i64 a1] rfl (by (try simp only [List.map_toArray, List.map_cons, List.map_nil]); first | done | rfl | (simp only [List.length_drop, List.length_take]; rfl)) ?_; (with_reducible refine (spec_Decimal.calls kj4 a1 t136 _ A19.out).mono ?_); rintro e w' ⟨rfl, ⟨nd, rfl⟩⟩; refine ⟨_, rfl, ?_⟩))
                      go_roundg kj4
                      case measure => have := HK1.out; have := HJ4.out; omega
                      case rel => exact ⟨(x7_1 ++ t136), (wrap64 ((ji14) + 1)), (by first | rfl | (simp; done) | (simp [*]; done)), (by first | rfl | (simp; done) | (simp only [← hji14] <;> (first | rfl | simp)) | (simp [*]; done)), H', ⟨by have := HK1.out; have := HJ4.out; omega⟩, by repeat (first | exact Drawn0.refl _ | apply Drawn0.step)⟩
                    · rw [if_neg c20] at H
                      exact absurd H (by simp)
                  · rw [if_neg c18] at H
                    have c18b0 : ((bt a0 (ji14)) == 100) = false := beq_eq_false_iff_ne.mpr c18
                    have c18b1 : ((bt a0 (ji14)) != 100) = true := bne_iff_ne.mpr c18
                    by_cases c21 : (bt a0 (ji14)) = 115
                    · rw [if_pos c21] at H
                      have c21b0 : ((bt a0 (ji14)) == 115) = true := beq_iff_eq.mpr c21
                      have c21b1 : ((bt a0 (ji14)) != 115) = false := bne_eq_false_iff_eq.mpr c21
                      clear c21
                      by_cases c22 : x7_1.size + a2.size ≤ 9223372036854775807
                      · rw [if_pos c22] at H
                        have c22b0 := eq_true c22
                        have c22b1 : decide (x7_1.size + a2.size ≤ 9223372036854775807) = true := decide_eq_true c22
                        try have c22b2 : (9223372036854775807 < x7_1.size + a2.size) = False := eq_false (Nat.not_lt.2 c22)
                        have H' := Aside0.mk H
                        clear H
                        have p17 : 0 ≤ ((ji14) : Int) := of_decide_eq_true (by first | (with_reducible assumption) | assumption)
                        have q17 : (ji14) < (a0.size : Int) := of_decide_eq_true (by first | (with_reducible assumption) | assumption)
                        have hx17 := bt_at a0 (ji14)
                        replace p17 := eq_true p17
                        replace q17 := eq_true q17
                        go_wp2
                        go_roundg kj4
                        case measure => have := HK1.out; have := HJ4.out; omega
                        case rel => exact ⟨(x7_1 ++ a2), (wrap64 ((ji14) + 1)), (by first | rfl | (simp; done) | (simp [*]; done)), (by first | rfl | (simp; done) | (simp only [← hji14] <;> (first | rfl | simp)) | (simp [*]; done)), H', ⟨by have := HK1.out; have := HJ4.out; omega⟩, by repeat (first | exact Drawn0.refl _ | apply Drawn0.step)⟩
                      · rw [if_neg c22] at H
                        exact absurd H (by simp)
                    · rw [if_neg c21] at H
                      have c21b0 : ((bt a0 (ji14)) == 115) = false := beq_eq_false_iff_ne.mpr c21
                      have c21b1 : ((bt a0 (ji14)) != 115) = true := bne_iff_ne.mpr c21
                      have c23b0 := eq_true (of_decide_eq_true (by first | (with_reducible assumption) | assumption) : 0 ≤ (ji14))
                      by_cases c24 : (ji14) ≤ (wrap64 ((ji14) + 1))
                      · rw [if_pos c24] at H
                        have c24b0 := eq_true c24
                        have c24b1 : decide ((ji14) ≤ (wrap64 ((ji14) + 1))) = true := decide_eq_true c24
                        by_cases c25 : (wrap64 ((ji14) + 1)) ≤ (a0.size : Int)
                        · rw [if_pos c25] at H
                          have c25b0 := eq_true c25
                          have c25b1 : decide ((wrap64 ((ji14) + 1)) ≤ (a0.size : Int)) = true := decide_eq_true c25
                          by_cases c26 : x7_1.size + (a0.extract ((ji14) : Int).toNat ((wrap64 ((ji14) + 1)) : Int).toNat).size ≤ 9223372036854775807
                          · rw [if_pos c26] at H
                            have c26b0 := eq_true c26
                            have c26b1 : decide (x7_1.size + (a0.extract ((ji14) : Int).toNat ((wrap64 ((ji14) + 1)) : Int).toNat).size ≤ 9223372036854775807) = true := decide_eq_true c26
                            try have c26b2 : (9223372036854775807 < x7_1.size + (a0.extract ((ji14) : Int).toNat ((wrap64 ((ji14) + 1)) : Int).toNat).size) = False := eq_false (Nat.not_lt.2 c26)
                            try have c26n0 : (9223372036854775807 < x7_1.size + ((a0.extract ((ji14) : Int).toNat ((wrap64 ((ji14) + 1)) : Int).toNat).size)) = False := eq_false (by have h_ := c26; (try simp only [ByteArray.size_append] at h_); omega)
                            have H' := Aside0.mk H
                            clear H
                            have p17 : 0 ≤ ((ji14) : Int) := of_decide_eq_true (by first | (with_reducible assumption) | assumption)
                            have q17 : (ji14) < (a0.size : Int) := of_decide_eq_true (by first | (with_reducible assumption) | assumption)
                            have hx17 := bt_at a0 (ji14)
                            replace p17 := eq_true p17
                            replace q17 := eq_true q17
                            go_wp2
                            go_roundg kj4
                            case measure => have := HK1.out; have := HJ4.out; omega
                            case rel => exact ⟨(x7_1 ++ (a0.extract ((ji14) : Int).toNat ((wrap64 ((ji14) + 1)) : Int).toNat)), (wrap64 ((ji14) + 1)), (by first | rfl | (simp; done) | (simp only [← hji14] <;> (first | rfl | simp)) | (simp [*]; done)), (by first | rfl | (simp; done) | (simp only [← hji14] <;> (first | rfl | simp)) | (simp [*]; done)), H', ⟨by have := HK1.out; have := HJ4.out; omega⟩, by repeat (first | exact Drawn0.refl _ | apply Drawn0.step)⟩
                          · rw [if_neg c26] at H
                            exact absurd H (by simp)
                        · rw [if_neg c25] at H
                          exact absurd H (by simp)
                      · rw [if_neg c24] at H
                        exact absurd H (by simp)
                · rw [if_neg c16] at H
                  exact absurd H (by simp)
              · rw [if_neg c15] at H
                exact absurd H (by simp)
      · rw [if_neg c4] at H
        have c4b0 : decide (x8_1 < (a0.size : Int)) = false := decide_eq_false c4
        clear c4
        obtain rfl := Option.some.inj H
        go_wp2
        go_ret
        exact ⟨by first | rfl | (simp; done) | (simp [*]; done), by repeat (first | exact Drawn0.refl _ | apply Drawn0.step)⟩

end Go.Proofs.YtmdgbbiipjmenaaDoor.PCus
