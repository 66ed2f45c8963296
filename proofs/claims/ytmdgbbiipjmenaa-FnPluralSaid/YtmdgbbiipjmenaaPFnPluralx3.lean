-- written by a program of this work
import Derived.Test.YtmdgbbiipjmenaaPFnPluralx0
import Derived.Test.YtmdgbbiipjmenaaPFnPluralx2
namespace Go.Proofs.Ytmdgbbiipjmenaa.PFnPlural
open Go.RowKit Go.Proofs.YtmdgbbiipjmenaaW.PrintWords Go.Proofs.YtmdgbbiipjmenaaW.PrintLast Go.Proofs.YtmdgbbiipjmenaaW.PrintMore
attribute [local go_sem] max2_int min2_int max_two min_two max_three min_three max_four min_four   -- for this text's walks alone
set_option linter.unusedVariables false
set_option linter.unusedSimpArgs false

/-! ### english_PluralWord: function 19 -/
mutual
def english_PluralWord.l0 : Nat → ByteArray → List ByteArray → Int → Int → Option (ByteArray)
  | 0, _, _, _, _ => none
  | k + 1, x1, x21, x22, x23 => if x23 < x22 then (if 0 ≤ x23 then (if x23 < (x21.length : Int) then ((english_zzEnds.f x1 (rdOf ByteArray.empty x21 x23)).bind fun t118 => (if t118 = true then (if x1.size + 2 ≤ 9223372036854775807 then (some (x1 ++ (⟨#[101, 115]⟩ : ByteArray))) else (none)) else (english_PluralWord.l0 k x1 x21 x22 (wrap64 (x23 + 1))))) else (none)) else (none)) else (if (x1.size : Int) ≥ 2 then (if 0 ≤ (wrap64 ((x1.size : Int) - 1)) then (if (wrap64 ((x1.size : Int) - 1)) < (x1.size : Int) then (if (bt x1 (wrap64 ((x1.size : Int) - 1))) = 111 then (if 0 ≤ (wrap64 ((x1.size : Int) - 2)) then (if (wrap64 ((x1.size : Int) - 2)) < (x1.size : Int) then ((english_isVowel.f (bt x1 (wrap64 ((x1.size : Int) - 2)))).bind fun t119 => (english_PluralWord.j1 k x1 (x1.size : Int) (!t119))) else (none)) else (none)) else (english_PluralWord.j1 k x1 (x1.size : Int) false)) else (none)) else (none)) else (english_PluralWord.j1 k x1 (x1.size : Int) false))
def english_PluralWord.j1 : Nat → ByteArray → Int → Bool → Option (ByteArray)
  | 0, _, _, _ => none
  | k + 1, x1, x9, x51 => if x51 = true then (if x1.size + 2 ≤ 9223372036854775807 then (some (x1 ++ (⟨#[101, 115]⟩ : ByteArray))) else (none)) else (if x9 ≥ 2 then (if 0 ≤ (wrap64 (x9 - 1)) then (if (wrap64 (x9 - 1)) < (x1.size : Int) then (if (bt x1 (wrap64 (x9 - 1))) = 121 then (if 0 ≤ (wrap64 (x9 - 2)) then (if (wrap64 (x9 - 2)) < (x1.size : Int) then ((english_isVowel.f (bt x1 (wrap64 (x9 - 2)))).bind fun t120 => (if t120 = true then (if x1.size + 1 ≤ 9223372036854775807 then (some (x1 ++ (⟨#[115]⟩ : ByteArray))) else (none)) else (if (wrap64 (x9 - 1)) ≤ (x1.size : Int) then (if (x1.extract 0 ((wrap64 (x9 - 1)) : Int).toNat).size + 3 ≤ 9223372036854775807 then (some ((x1.extract 0 ((wrap64 (x9 - 1)) : Int).toNat) ++ (⟨#[105, 101, 115]⟩ : ByteArray))) else (none)) else (none)))) else (none)) else (none)) else (if x1.size + 1 ≤ 9223372036854775807 then (some (x1 ++ (⟨#[115]⟩ : ByteArray))) else (none))) else (none)) else (none)) else (if x1.size + 1 ≤ 9223372036854775807 then (some (x1 ++ (⟨#[115]⟩ : ByteArray))) else (none)))
end
def english_PluralWord.f (k : Nat) (a0 : Int) (a1 : ByteArray) (a2 : ByteArray) : Option (ByteArray) := if a0 = 1 then (some a1) else (if a2.toList = ([] : List UInt8) then ((english_specialPlurals.f a1).bind fun t113 => (if t113.toList = ([] : List UInt8) then ((english_sibilantEndings.f).bind fun t114 => (english_PluralWord.l0 k a1 t114 (t114.length : Int) 0)) else (some t113))) else (some a2))
theorem english_PluralWord.mono_l : ∀ k, (∀ y0 y1 y2 y3, LeO (english_PluralWord.l0 k y0 y1 y2 y3) (english_PluralWord.l0 (k + 1) y0 y1 y2 y3)) ∧ (∀ y0 y1 y2, LeO (english_PluralWord.j1 k y0 y1 y2) (english_PluralWord.j1 (k + 1) y0 y1 y2))
  | 0 => ⟨fun _ _ _ _ r h => by simp [english_PluralWord.l0] at h, fun _ _ _ r h => by simp [english_PluralWord.j1] at h⟩
  | k + 1 => by
    obtain ⟨ih0, ih1⟩ := english_PluralWord.mono_l k
    refine ⟨?_, ?_⟩
    · intro y0 y1 y2 y3
      unfold english_PluralWord.l0
      repeat' first
      | (with_reducible exact ih0 _ _ _ _)
      | (with_reducible exact ih1 _ _ _)
      | (with_reducible exact LeO.refl _)
      | (with_reducible exact LeO.none _)
      | (with_reducible refine LeO.ite ?_ ?_)
      | (with_reducible refine LeO.bind ?_ (fun _ => ?_))
      | exact ih0 _ _ _ _
      | exact ih1 _ _ _
      | exact LeO.none _
      | refine LeO.ite ?_ ?_
      | refine LeO.bind ?_ (fun _ => ?_)
    · intro y0 y1 y2
      unfold english_PluralWord.j1
      repeat' first
      | (with_reducible exact ih0 _ _ _ _)
      | (with_reducible exact ih1 _ _ _)
      | (with_reducible exact LeO.refl _)
      | (with_reducible exact LeO.none _)
      | (with_reducible refine LeO.ite ?_ ?_)
      | (with_reducible refine LeO.bind ?_ (fun _ => ?_))
      | exact ih0 _ _ _ _
      | exact ih1 _ _ _
      | exact LeO.none _
      | refine LeO.ite ?_ ?_
      | refine LeO.bind ?_ (fun _ => ?_)
theorem english_PluralWord.mono : ∀ a0 a1 a2 k, LeO (english_PluralWord.f k a0 a1 a2) (english_PluralWord.f (k + 1) a0 a1 a2) := by
  intro a0 a1 a2 k
  obtain ⟨ih0, ih1⟩ := english_PluralWord.mono_l k
  unfold english_PluralWord.f
  repeat' first
      | (with_reducible exact ih0 _ _ _ _)
      | (with_reducible exact ih1 _ _ _)
      | (with_reducible exact LeO.refl _)
      | (with_reducible exact LeO.none _)
      | (with_reducible refine LeO.ite ?_ ?_)
      | (with_reducible refine LeO.bind ?_ (fun _ => ?_))
      | exact ih0 _ _ _ _
      | exact ih1 _ _ _
      | exact LeO.none _
      | refine LeO.ite ?_ ?_
      | refine LeO.bind ?_ (fun _ => ?_)
set_option maxHeartbeats 8000000 in
set_option maxRecDepth 100000 in
theorem english_PluralWord.calls (k : Nat) (a0 : Int) (a1 : ByteArray) (a2 : ByteArray) (r : ByteArray) (w : World) (h : english_PluralWord.f k a0 a1 a2 = some r) :
    Calls Try.prog 19 #[.int .i64 a0, .string a1, .string a2] w fun e w' => e = .returned (.string r) ∧ Below w.heap.size w w' := by
  have HB := Aside0.mk (Below.refl w.heap.size w)
  have H : (if a0 = 1 then (some a1) else (if a2.toList = ([] : List UInt8) then ((english_specialPlurals.f a1).bind fun t113 => (if t113.toList = ([] : List UInt8) then ((english_sibilantEndings.f).bind fun t114 => (english_PluralWord.l0 k a1 t114 (t114.length : Int) 0)) else (some t113))) else (some a2))) = some r := h
  clear h
  by_cases c4 : a0 = 1
  · rw [if_pos c4] at H
    have c4b0 : (a0 == 1) = true := beq_iff_eq.mpr c4
    have c4b1 : (a0 != 1) = false := bne_eq_false_iff_eq.mpr c4
    clear c4
    obtain rfl := Option.some.inj H
    go_enter Try.func19, Try.ntmps19
    go_wp2
    go_ret
    exact ⟨by first | rfl | (simp [errW_none, errW_some] <;> rfl) | (simp [*, errW_none, errW_some] <;> rfl), by repeat (first | (with_reducible first | exact HB.out | apply below_alloc | apply pw_below_drewN | apply below_drew1) | exact HB.out)⟩
  · rw [if_neg c4] at H
    have c4b0 : (a0 == 1) = false := beq_eq_false_iff_ne.mpr c4
    have c4b1 : (a0 != 1) = true := bne_iff_ne.mpr c4
    by_cases c5 : a2.toList = ([] : List UInt8)
    · rw [if_pos c5] at H
      have c5b0 : (a2.toList == ([] : List UInt8)) = true := beq_iff_eq.mpr c5
      have c5b1 : (a2.toList != ([] : List UInt8)) = false := bne_eq_false_iff_eq.mpr c5
      (try (have c5b2 : a2.toList.isEmpty = true := by simpa using c5))
      clear c5
      replace H := Option.bind_eq_some_iff.mp H
      obtain ⟨t113, A60, H⟩ := H
      replace H : (if t113.toList = ([] : List UInt8) then ((english_sibilantEndings.f).bind fun t114 => (english_PluralWord.l0 k a1 t114 (t114.length : Int) 0)) else (some t113)) = some r := H
      have A6 := Aside0.mk A60
      clear A60
      by_cases c7 : t113.toList = ([] : List UInt8)
      · rw [if_pos c7] at H
        have c7b0 : (t113.toList == ([] : List UInt8)) = true := beq_iff_eq.mpr c7
        have c7b1 : (t113.toList != ([] : List UInt8)) = false := bne_eq_false_iff_eq.mpr c7
        (try (have c7b2 : t113.toList.isEmpty = true := by simpa using c7))
        clear c7
        replace H := Option.bind_eq_some_iff.mp H
        obtain ⟨t114, A80, H⟩ := H
        replace H : (english_PluralWord.l0 k a1 t114 (t114.length : Int) 0) = some r := H
        have A8 := Aside0.mk A80
        clear A80
        have H' := Aside0.mk H
        clear H
        go_enter Try.func19, Try.ntmps19
        go_wp2_with (first | ((with_reducible refine gate_callee (f := 24) rfl ?_); refine goesL_ (some 17) rfl rfl Try.func24 (by kernel_rfl) rfl #[.string a1] rfl (by (try simp only [List.map_toArray, List.map_cons, List.map_nil]); first | done | rfl | (simp only [List.length_drop, List.length_take]; rfl)) ?_; (with_reducible refine (english_specialPlurals.calls a1 t113 _ A6.out).mono ?_); rintro e w' ⟨rfl, ⟨nd, rfl⟩⟩; refine ⟨_, rfl, ?_⟩) | ((with_reducible refine gate_callee (f := 25) rfl ?_); refine goesL_ (some 21) rfl rfl Try.func25 (by kernel_rfl) rfl #[] rfl (by (try simp only [List.map_toArray, List.map_cons, List.map_nil]); first | done | rfl | (simp only [List.length_drop, List.length_take]; rfl)) ?_; (with_reducible refine (english_sibilantEndings.calls  t114 _ A8.out).mono ?_); rintro e w9 ⟨v115, rfl, ho0, hb⟩; refine ⟨_, rfl, ?_⟩; have n0_ := Aside0.mk (Kd.R_lower ho0 (below_size (by repeat (first | (with_reducible first | exact HB.out | apply below_alloc | apply pw_below_drewN | apply below_drew1) | exact HB.out)))); have n1_ := Aside0.mk (below_step (by repeat (first | (with_reducible first | exact HB.out | apply below_alloc | apply pw_below_drewN | apply below_drew1) | exact HB.out)) hb); clear HB; have HO116 := n0_; have HB := n1_; clear n0_ n1_; (try clear hb); (try clear hb2); (try clear hk); (try clear hi); (try clear ho0); obtain ⟨Ao10, co10, eo10⟩ := Kd.R_slice HO116.out; subst eo10))
        go_loopg [23] k (fun kq v23 w' => ∃ (x23_1 : Int), v23 = .int .i64 x23_1 ∧ Aside0 (english_PluralWord.l0 kq a1 t114 (t114.length : Int) x23_1 = some r) ∧ Aside0 (kq ≤ k) ∧ Aside0 (Kd.R Kd.string 9 w' w.heap.size (fun _ => True) (.slice Ao10 t114.length co10) t114) ∧ Aside0 (Below w.heap.size w w'))
        case atStart => exact ⟨(0), (by first | rfl | (simp; done) | (simp [*]; done)), H', ⟨Nat.le_refl _⟩, ⟨by (with_reducible repeat (first | apply Kd.R_alloc | apply Kd.R_drewN | apply Kd.R_drew)); exact HO116.out⟩, ⟨by repeat (first | (with_reducible first | exact HB.out | apply below_alloc | apply pw_below_drewN | apply below_drew1) | exact HB.out)⟩⟩
        case round =>
          clear H'
          try clear c1
          try clear c2
          try clear p2
          try clear c4
          try clear c4b0
          try clear c4b1
          try clear c5
          try clear c5b0
          try clear c5b1
          try clear c5b2
          try clear c7
          try clear c7b0
          try clear c7b1
          try clear c7b2
          obtain ⟨x23_1, rfl, HA, HK1, HO_21, HB⟩ := hrel
          cases gk with
          | zero => exact absurd HA.out (by simp [english_PluralWord.l0])
          | succ k1 =>
            have H := HA.out
            clear HA
            simp only [english_PluralWord.l0] at H
            by_cases c11 : x23_1 < (t114.length : Int)
            · rw [if_pos c11] at H
              have c11b0 : decide (x23_1 < (t114.length : Int)) = true := decide_eq_true c11
              clear c11
              by_cases c12 : 0 ≤ x23_1
              · rw [if_pos c12] at H
                have c12b0 : decide (0 ≤ x23_1) = true := decide_eq_true c12
                clear c12
                by_cases c13 : x23_1 < (t114.length : Int)
                · rw [if_pos c13] at H
                  have c13b0 : decide (x23_1 < (t114.length : Int)) = true := decide_eq_true c13
                  clear c13
                  replace H := Option.bind_eq_some_iff.mp H
                  obtain ⟨t118, A140, H⟩ := H
                  replace H : (if t118 = true then (if a1.size + 2 ≤ 9223372036854775807 then (some (a1 ++ (⟨#[101, 115]⟩ : ByteArray))) else (none)) else (english_PluralWord.l0 k1 a1 t114 (t114.length : Int) (wrap64 (x23_1 + 1)))) = some r := H
                  have A14 := Aside0.mk A140
                  clear A140
                  by_cases c15 : t118 = true
                  · subst c15
                    have H1 : (if a1.size + 2 ≤ 9223372036854775807 then (some (a1 ++ (⟨#[101, 115]⟩ : ByteArray))) else (none)) = some r := by rw [if_pos rfl] at H; exact H
                    clear H
                    have H := H1
                    clear H1
                    by_cases c16 : a1.size + 2 ≤ 9223372036854775807
                    · rw [if_pos c16] at H
                      have c16b0 := eq_true c16
                      have c16b1 : decide (a1.size + 2 ≤ 9223372036854775807) = true := decide_eq_true c16
                      try have c16b2 : (9223372036854775807 < a1.size + 2) = False := eq_false (Nat.not_lt.2 c16)
                      obtain rfl := Option.some.inj H
                      have p117 : 0 ≤ (x23_1 : Int) := of_decide_eq_true (by first | (with_reducible assumption) | assumption)
                      have q117 : x23_1 < (t114.length : Int) := of_decide_eq_true (by first | (with_reducible assumption) | assumption)
                      obtain ⟨ad117, e117, hx117_0⟩ := Kd.at_string (Kd.R_reads' HO_21.out).2.2 x23_1 p117 q117
                      cases e117
                      replace p117 := eq_true p117
                      replace q117 := eq_true q117
                      go_wp2_with (first | ((with_reducible refine gate_callee (f := 26) rfl ?_); refine goesL_ (some 29) rfl rfl Try.func26 (by kernel_rfl) rfl #[.string a1, .string (rdOf ByteArray.empty t114 x23_1)] rfl (by (try simp only [List.map_toArray, List.map_cons, List.map_nil]); first | done | rfl | (simp only [List.length_drop, List.length_take]; rfl)) ?_; (with_reducible refine (english_zzEnds.calls a1 (rdOf ByteArray.empty t114 x23_1) true _ A14.out).mono ?_); rintro e w' ⟨rfl, ⟨nd, rfl⟩⟩; refine ⟨_, rfl, ?_⟩))
                      go_ret
                      exact ⟨by first | rfl | (simp [errW_none, errW_some] <;> rfl) | (simp [*, errW_none, errW_some] <;> rfl), by repeat (first | (with_reducible first | exact HB.out | apply below_alloc | apply pw_below_drewN | apply below_drew1) | exact HB.out)⟩
                    · rw [if_neg c16] at H
                      exact absurd H (by simp)
                  · replace c15 := Bool.eq_false_iff.mpr c15
                    subst c15
                    have H1 : (english_PluralWord.l0 k1 a1 t114 (t114.length : Int) (wrap64 (x23_1 + 1))) = some r := by rw [if_neg (show ¬ (false = true) by decide)] at H; exact H
                    clear H
                    have H := H1
                    clear H1
                    have H' := Aside0.mk H
                    clear H
                    have p117 : 0 ≤ (x23_1 : Int) := of_decide_eq_true (by first | (with_reducible assumption) | assumption)
                    have q117 : x23_1 < (t114.length : Int) := of_decide_eq_true (by first | (with_reducible assumption) | assumption)
                    obtain ⟨ad117, e117, hx117_0⟩ := Kd.at_string (Kd.R_reads' HO_21.out).2.2 x23_1 p117 q117
                    cases e117
                    replace p117 := eq_true p117
                    replace q117 := eq_true q117
                    go_wp2_with (first | ((with_reducible refine gate_callee (f := 26) rfl ?_); refine goesL_ (some 29) rfl rfl Try.func26 (by kernel_rfl) rfl #[.string a1, .string (rdOf ByteArray.empty t114 x23_1)] rfl (by (try simp only [List.map_toArray, List.map_cons, List.map_nil]); first | done | rfl | (simp only [List.length_drop, List.length_take]; rfl)) ?_; (with_reducible refine (english_zzEnds.calls a1 (rdOf ByteArray.empty t114 x23_1) false _ A14.out).mono ?_); rintro e w' ⟨rfl, ⟨nd, rfl⟩⟩; refine ⟨_, rfl, ?_⟩))
                    go_roundg k1
                    case measure => have := HK1.out; omega
                    case rel => exact ⟨(wrap64 (x23_1 + 1)), (by first | rfl | (simp; done) | (simp [*]; done)), H', ⟨by have := HK1.out; omega⟩, ⟨by (with_reducible repeat (first | apply Kd.R_alloc | apply Kd.R_drewN | apply Kd.R_drew)); exact HO_21.out⟩, ⟨by repeat (first | (with_reducible first | exact HB.out | apply below_alloc | apply pw_below_drewN | apply below_drew1) | exact HB.out)⟩⟩
                · rw [if_neg c13] at H
                  exact absurd H (by simp)
              · rw [if_neg c12] at H
                exact absurd H (by simp)
            · rw [if_neg c11] at H
              have c11b0 : decide (x23_1 < (t114.length : Int)) = false := decide_eq_false c11
              clear c11
              have HC17 := Aside0.mk H
              clear H
              go_upto_region 15 with (fail)
              go_cut [51] (fun v51 wc => ∃ (kq : Nat) (x51_16 : Bool), v51 = .bool x51_16 ∧ Aside0 (english_PluralWord.j1 kq a1 (a1.size : Int) x51_16 = some r) ∧ Aside0 (kq ≤ k1) ∧ Aside0 (Below w.heap.size w wc))
              case first =>
                have H := HC17.out
                clear HC17
                by_cases c18 : (a1.size : Int) ≥ 2
                · rw [if_pos c18] at H
                  have c18b0 : decide (2 ≤ (a1.size : Int)) = true := decide_eq_true c18
                  have c18b1 : decide (2 ≤ a1.size) = true := decide_eq_true (by omega)
                  clear c18
                  (first | rw [c18b0] | (simp only [i64_w, i32_w]; rw [c18b0]) | rw [c18b2] | skip)
                  obtain ⟨ji19, hji19⟩ : ∃ j_ : Int, (wrap64 ((a1.size : Int) - 1)) = j_ := ⟨_, rfl⟩
                  replace H : (if 0 ≤ (ji19) then (if (ji19) < (a1.size : Int) then (if (bt a1 (ji19)) = 111 then (if 0 ≤ (wrap64 ((a1.size : Int) - 2)) then (if (wrap64 ((a1.size : Int) - 2)) < (a1.size : Int) then ((english_isVowel.f (bt a1 (wrap64 ((a1.size : Int) - 2)))).bind fun t119 => (english_PluralWord.j1 k1 a1 (a1.size : Int) (!t119))) else (none)) else (none)) else (english_PluralWord.j1 k1 a1 (a1.size : Int) false)) else (none)) else (none)) = some r := by first | (rw [hji19] at H; exact H) | (simp only [hji19] at H ⊢; exact H)
                  have hji19w : (IntKind.i64.wrap ((a1.size : Int) - 1)) = ji19 := (i64_w _).trans hji19
                  by_cases c20 : 0 ≤ (ji19)
                  · rw [if_pos c20] at H
                    have c20b0 : decide (0 ≤ (ji19)) = true := decide_eq_true c20
                    clear c20
                    by_cases c21 : (ji19) < (a1.size : Int)
                    · rw [if_pos c21] at H
                      have c21b0 : decide ((ji19) < (a1.size : Int)) = true := decide_eq_true c21
                      clear c21
                      by_cases c23 : (bt a1 (ji19)) = 111
                      · rw [if_pos c23] at H
                        have c23b0 : ((bt a1 (ji19)) == 111) = true := beq_iff_eq.mpr c23
                        have c23b1 : ((bt a1 (ji19)) != 111) = false := bne_eq_false_iff_eq.mpr c23
                        clear c23
                        obtain ⟨ji24, hji24⟩ : ∃ j_ : Int, (wrap64 ((a1.size : Int) - 2)) = j_ := ⟨_, rfl⟩
                        replace H : (if 0 ≤ (ji24) then (if (ji24) < (a1.size : Int) then ((english_isVowel.f (bt a1 (ji24))).bind fun t119 => (english_PluralWord.j1 k1 a1 (a1.size : Int) (!t119))) else (none)) else (none)) = some r := by first | (rw [hji24] at H; exact H) | (simp only [hji24] at H ⊢; exact H)
                        have hji24w : (IntKind.i64.wrap ((a1.size : Int) - 2)) = ji24 := (i64_w _).trans hji24
                        by_cases c25 : 0 ≤ (ji24)
                        · rw [if_pos c25] at H
                          have c25b0 : decide (0 ≤ (ji24)) = true := decide_eq_true c25
                          clear c25
                          by_cases c26 : (ji24) < (a1.size : Int)
                          · rw [if_pos c26] at H
                            have c26b0 : decide ((ji24) < (a1.size : Int)) = true := decide_eq_true c26
                            clear c26
                            replace H := Option.bind_eq_some_iff.mp H
                            obtain ⟨t119, A280, H⟩ := H
                            replace H : (english_PluralWord.j1 k1 a1 (a1.size : Int) (!t119)) = some r := H
                            have A28 := Aside0.mk A280
                            clear A280
                            have H' := Aside0.mk H
                            clear H
                            have p22 : 0 ≤ ((ji19) : Int) := of_decide_eq_true (by first | (with_reducible assumption) | assumption)
                            have q22 : (ji19) < (a1.size : Int) := of_decide_eq_true (by first | (with_reducible assumption) | assumption)
                            have hx22 := bt_at a1 (ji19)
                            replace p22 := eq_true p22
                            replace q22 := eq_true q22
                            have p27 : 0 ≤ ((ji24) : Int) := of_decide_eq_true (by first | (with_reducible assumption) | assumption)
                            have q27 : (ji24) < (a1.size : Int) := of_decide_eq_true (by first | (with_reducible assumption) | assumption)
                            have hx27 := bt_at a1 (ji24)
                            replace p27 := eq_true p27
                            replace q27 := eq_true q27
                            go_wp2_with (first | (go_at_call 27; (with_reducible refine (english_isVowel.calls (bt a1 (ji24)) t119 _ A28.out).mono ?_); rintro e w' ⟨rfl, ⟨nd, rfl⟩⟩))
                            go_meet
                            case rel => exact ⟨_, (!t119), (by first | rfl | (simp; done) | (simp [*]; done)), H', ⟨by have := HK1.out; first | omega | exact Nat.le_refl _⟩, ⟨by repeat (first | (with_reducible first | exact HB.out | apply below_alloc | apply pw_below_drewN | apply below_drew1) | exact HB.out)⟩⟩
                          · rw [if_neg c26] at H
                            exact absurd H (by simp)
                        · rw [if_neg c25] at H
                          exact absurd H (by simp)
                      · rw [if_neg c23] at H
                        have c23b0 : ((bt a1 (ji19)) == 111) = false := beq_eq_false_iff_ne.mpr c23
                        have c23b1 : ((bt a1 (ji19)) != 111) = true := bne_iff_ne.mpr c23
                        have H' := Aside0.mk H
                        clear H
                        have p22 : 0 ≤ ((ji19) : Int) := of_decide_eq_true (by first | (with_reducible assumption) | assumption)
                        have q22 : (ji19) < (a1.size : Int) := of_decide_eq_true (by first | (with_reducible assumption) | assumption)
                        have hx22 := bt_at a1 (ji19)
                        replace p22 := eq_true p22
                        replace q22 := eq_true q22
                        go_wp2
                        go_meet
                        case rel => exact ⟨_, (false), (by first | rfl | (simp; done) | (simp [*]; done)), H', ⟨by have := HK1.out; first | omega | exact Nat.le_refl _⟩, ⟨by repeat (first | (with_reducible first | exact HB.out | apply below_alloc | apply pw_below_drewN | apply below_drew1) | exact HB.out)⟩⟩
                    · rw [if_neg c21] at H
                      exact absurd H (by simp)
                  · rw [if_neg c20] at H
                    exact absurd H (by simp)
                · rw [if_neg c18] at H
                  have c18b0 : decide (2 ≤ (a1.size : Int)) = false := decide_eq_false c18
                  have c18b1 : decide (2 ≤ a1.size) = false := decide_eq_false (by omega)
                  clear c18
                  (first | rw [c18b0] | (simp only [i64_w, i32_w]; rw [c18b0]) | rw [c18b2] | skip)
                  have H' := Aside0.mk H
                  clear H
                  go_wp2
                  go_meet
                  case rel => exact ⟨_, (false), (by first | rfl | (simp; done) | (simp [*]; done)), H', ⟨by have := HK1.out; first | omega | exact Nat.le_refl _⟩, ⟨by repeat (first | (with_reducible first | exact HB.out | apply below_alloc | apply pw_below_drewN | apply below_drew1) | exact HB.out)⟩⟩
              case rest =>
                clear HC17
                try clear c1
                try clear p1
                try clear q1
                try clear hx1
                try clear c2
                try clear p2
                try clear q2
                try clear hx2
                try clear c4
                try clear c4b0
                try clear c4b1
                try clear c5
                try clear c5b0
                try clear c5b1
                try clear c5b2
                try clear p6
                try clear c7
                try clear c7b0
                try clear c7b1
                try clear c7b2
                try clear c11
                try clear c11b0
                try clear p11
                try clear q11
                try clear hx11
                try clear c12
                try clear c12b0
                try clear c13
                try clear c13b0
                try clear c15
                try clear c16
                try clear c16b0
                try clear c16b1
                try clear c16b2
                try clear c18
                try clear c18b0
                try clear c18b1
                try clear c18b2
                try clear c19
                try clear c20
                try clear c20b0
                try clear c21
                try clear c21b0
                try clear p22
                try clear q22
                try clear hx22
                try clear c23
                try clear c23b0
                try clear c23b1
                try clear c24
                try clear c25
                try clear c25b0
                try clear c26
                try clear c26b0
                try clear p27
                try clear q27
                try clear hx27
                try clear hx117_0
                try clear p117
                try clear p2
                try clear p22
                try clear p27
                try clear q117
                try clear q22
                try clear q27
                obtain ⟨kq, x51_16, rfl, HA, HJ16, HB⟩ := hcut
                cases kq with
                | zero => exact absurd HA.out (by simp [english_PluralWord.j1])
                | succ kj16 =>
                  have H := HA.out
                  clear HA
                  simp only [english_PluralWord.j1] at H
                  by_cases c29 : x51_16 = true
                  · subst c29
                    have H1 : (if a1.size + 2 ≤ 9223372036854775807 then (some (a1 ++ (⟨#[101, 115]⟩ : ByteArray))) else (none)) = some r := by rw [if_pos rfl] at H; exact H
                    clear H
                    have H := H1
                    clear H1
                    by_cases c30 : a1.size + 2 ≤ 9223372036854775807
                    · rw [if_pos c30] at H
                      have c30b0 := eq_true c30
                      have c30b1 : decide (a1.size + 2 ≤ 9223372036854775807) = true := decide_eq_true c30
                      try have c30b2 : (9223372036854775807 < a1.size + 2) = False := eq_false (Nat.not_lt.2 c30)
                      obtain rfl := Option.some.inj H
                      go_wp2
                      go_ret
                      exact ⟨by first | rfl | (simp [errW_none, errW_some] <;> rfl) | (simp [*, errW_none, errW_some] <;> rfl), by repeat (first | (with_reducible first | exact HB.out | apply below_alloc | apply pw_below_drewN | apply below_drew1) | exact HB.out)⟩
                    · rw [if_neg c30] at H
                      exact absurd H (by simp)
                  · replace c29 := Bool.eq_false_iff.mpr c29
                    subst c29
                    have H1 : (if (a1.size : Int) ≥ 2 then (if 0 ≤ (wrap64 ((a1.size : Int) - 1)) then (if (wrap64 ((a1.size : Int) - 1)) < (a1.size : Int) then (if (bt a1 (wrap64 ((a1.size : Int) - 1))) = 121 then (if 0 ≤ (wrap64 ((a1.size : Int) - 2)) then (if (wrap64 ((a1.size : Int) - 2)) < (a1.size : Int) then ((english_isVowel.f (bt a1 (wrap64 ((a1.size : Int) - 2)))).bind fun t120 => (if t120 = true then (if a1.size + 1 ≤ 9223372036854775807 then (some (a1 ++ (⟨#[115]⟩ : ByteArray))) else (none)) else (if (wrap64 ((a1.size : Int) - 1)) ≤ (a1.size : Int) then (if (a1.extract 0 ((wrap64 ((a1.size : Int) - 1)) : Int).toNat).size + 3 ≤ 9223372036854775807 then (some ((a1.extract 0 ((wrap64 ((a1.size : Int) - 1)) : Int).toNat) ++ (⟨#[105, 101, 115]⟩ : ByteArray))) else (none)) else (none)))) else (none)) else (none)) else (if a1.size + 1 ≤ 9223372036854775807 then (some (a1 ++ (⟨#[115]⟩ : ByteArray))) else (none))) else (none)) else (none)) else (if a1.size + 1 ≤ 9223372036854775807 then (some (a1 ++ (⟨#[115]⟩ : ByteArray))) else (none))) = some r := by rw [if_neg (show ¬ (false = true) by decide)] at H; exact H
                    clear H
                    have H := H1
                    clear H1
                    by_cases c31 : (a1.size : Int) ≥ 2
                    · rw [if_pos c31] at H
                      have c31b0 : decide (2 ≤ (a1.size : Int)) = true := decide_eq_true c31
                      have c31b1 : decide (2 ≤ a1.size) = true := decide_eq_true (by omega)
                      clear c31
                      obtain ⟨ji32, hji32⟩ : ∃ j_ : Int, (wrap64 ((a1.size : Int) - 1)) = j_ := ⟨_, rfl⟩
                      replace H : (if 0 ≤ (ji32) then (if (ji32) < (a1.size : Int) then (if (bt a1 (ji32)) = 121 then (if 0 ≤ (wrap64 ((a1.size : Int) - 2)) then (if (wrap64 ((a1.size : Int) - 2)) < (a1.size : Int) then ((english_isVowel.f (bt a1 (wrap64 ((a1.size : Int) - 2)))).bind fun t120 => (if t120 = true then (if a1.size + 1 ≤ 9223372036854775807 then (some (a1 ++ (⟨#[115]⟩ : ByteArray))) else (none)) else (if (ji32) ≤ (a1.size : Int) then (if (a1.extract 0 ((ji32) : Int).toNat).size + 3 ≤ 9223372036854775807 then (some ((a1.extract 0 ((ji32) : Int).toNat) ++ (⟨#[105, 101, 115]⟩ : ByteArray))) else (none)) else (none)))) else (none)) else (none)) else (if a1.size + 1 ≤ 9223372036854775807 then (some (a1 ++ (⟨#[115]⟩ : ByteArray))) else (none))) else (none)) else (none)) = some r := by first | (rw [hji32] at H; exact H) | (simp only [hji32] at H ⊢; exact H)
                      have hji32w : (IntKind.i64.wrap ((a1.size : Int) - 1)) = ji32 := (i64_w _).trans hji32
                      by_cases c33 : 0 ≤ (ji32)
                      · rw [if_pos c33] at H
                        have c33b0 : decide (0 ≤ (ji32)) = true := decide_eq_true c33
                        clear c33
                        by_cases c34 : (ji32) < (a1.size : Int)
                        · rw [if_pos c34] at H
                          have c34b0 : decide ((ji32) < (a1.size : Int)) = true := decide_eq_true c34
                          clear c34
                          by_cases c36 : (bt a1 (ji32)) = 121
                          · rw [if_pos c36] at H
                            have c36b0 : ((bt a1 (ji32)) == 121) = true := beq_iff_eq.mpr c36
                            have c36b1 : ((bt a1 (ji32)) != 121) = false := bne_eq_false_iff_eq.mpr c36
                            clear c36
                            obtain ⟨ji37, hji37⟩ : ∃ j_ : Int, (wrap64 ((a1.size : Int) - 2)) = j_ := ⟨_, rfl⟩
                            replace H : (if 0 ≤ (ji37) then (if (ji37) < (a1.size : Int) then ((english_isVowel.f (bt a1 (ji37))).bind fun t120 => (if t120 = true then (if a1.size + 1 ≤ 9223372036854775807 then (some (a1 ++ (⟨#[115]⟩ : ByteArray))) else (none)) else (if (ji32) ≤ (a1.size : Int) then (if (a1.extract 0 ((ji32) : Int).toNat).size + 3 ≤ 9223372036854775807 then (some ((a1.extract 0 ((ji32) : Int).toNat) ++ (⟨#[105, 101, 115]⟩ : ByteArray))) else (none)) else (none)))) else (none)) else (none)) = some r := by first | (rw [hji37] at H; exact H) | (simp only [hji37] at H ⊢; exact H)
                            have hji37w : (IntKind.i64.wrap ((a1.size : Int) - 2)) = ji37 := (i64_w _).trans hji37
                            by_cases c38 : 0 ≤ (ji37)
                            · rw [if_pos c38] at H
                              have c38b0 : decide (0 ≤ (ji37)) = true := decide_eq_true c38
                              clear c38
                              by_cases c39 : (ji37) < (a1.size : Int)
                              · rw [if_pos c39] at H
                                have c39b0 : decide ((ji37) < (a1.size : Int)) = true := decide_eq_true c39
                                clear c39
                                replace H := Option.bind_eq_some_iff.mp H
                                obtain ⟨t120, A410, H⟩ := H
                                replace H : (if t120 = true then (if a1.size + 1 ≤ 9223372036854775807 then (some (a1 ++ (⟨#[115]⟩ : ByteArray))) else (none)) else (if (ji32) ≤ (a1.size : Int) then (if (a1.extract 0 ((ji32) : Int).toNat).size + 3 ≤ 9223372036854775807 then (some ((a1.extract 0 ((ji32) : Int).toNat) ++ (⟨#[105, 101, 115]⟩ : ByteArray))) else (none)) else (none))) = some r := H
                                have A41 := Aside0.mk A410
                                clear A410
                                by_cases c42 : t120 = true
                                · subst c42
                                  have H1 : (if a1.size + 1 ≤ 9223372036854775807 then (some (a1 ++ (⟨#[115]⟩ : ByteArray))) else (none)) = some r := by rw [if_pos rfl] at H; exact H
                                  clear H
                                  have H := H1
                                  clear H1
                                  by_cases c43 : a1.size + 1 ≤ 9223372036854775807
                                  · rw [if_pos c43] at H
                                    have c43b0 := eq_true c43
                                    have c43b1 : decide (a1.size + 1 ≤ 9223372036854775807) = true := decide_eq_true c43
                                    try have c43b2 : (9223372036854775807 < a1.size + 1) = False := eq_false (Nat.not_lt.2 c43)
                                    obtain rfl := Option.some.inj H
                                    have p35 : 0 ≤ ((ji32) : Int) := of_decide_eq_true (by first | (with_reducible assumption) | assumption)
                                    have q35 : (ji32) < (a1.size : Int) := of_decide_eq_true (by first | (with_reducible assumption) | assumption)
                                    have hx35 := bt_at a1 (ji32)
                                    replace p35 := eq_true p35
                                    replace q35 := eq_true q35
                                    have p40 : 0 ≤ ((ji37) : Int) := of_decide_eq_true (by first | (with_reducible assumption) | assumption)
                                    have q40 : (ji37) < (a1.size : Int) := of_decide_eq_true (by first | (with_reducible assumption) | assumption)
                                    have hx40 := bt_at a1 (ji37)
                                    replace p40 := eq_true p40
                                    replace q40 := eq_true q40
                                    go_wp2_with (first | (go_at_call 27; (with_reducible refine (english_isVowel.calls (bt a1 (ji37)) true _ A41.out).mono ?_); rintro e w' ⟨rfl, ⟨nd, rfl⟩⟩))
                                    go_ret
                                    exact ⟨by first | rfl | (simp [errW_none, errW_some] <;> rfl) | (simp only [← hji32, ← hji37]; first | rfl | (simp [errW_none, errW_some] <;> rfl)) | (simp [*, errW_none, errW_some] <;> rfl), by repeat (first | (with_reducible first | exact HB.out | apply below_alloc | apply pw_below_drewN | apply below_drew1) | exact HB.out)⟩
                                  · rw [if_neg c43] at H
                                    exact absurd H (by simp)
                                · replace c42 := Bool.eq_false_iff.mpr c42
                                  subst c42
                                  have H1 : (if (ji32) ≤ (a1.size : Int) then (if (a1.extract 0 ((ji32) : Int).toNat).size + 3 ≤ 9223372036854775807 then (some ((a1.extract 0 ((ji32) : Int).toNat) ++ (⟨#[105, 101, 115]⟩ : ByteArray))) else (none)) else (none)) = some r := by rw [if_neg (show ¬ (false = true) by decide)] at H; exact H
                                  clear H
                                  have H := H1
                                  clear H1
                                  have c44b0 := eq_true (of_decide_eq_true (by first | (with_reducible assumption) | assumption) : 0 ≤ (ji32))
                                  by_cases c45 : (ji32) ≤ (a1.size : Int)
                                  · rw [if_pos c45] at H
                                    have c45b0 := eq_true c45
                                    have c45b1 : decide ((ji32) ≤ (a1.size : Int)) = true := decide_eq_true c45
                                    clear c45
                                    by_cases c46 : (a1.extract 0 ((ji32) : Int).toNat).size + 3 ≤ 9223372036854775807
                                    · rw [if_pos c46] at H
                                      have c46b0 := eq_true c46
                                      have c46b1 : decide ((a1.extract 0 ((ji32) : Int).toNat).size + 3 ≤ 9223372036854775807) = true := decide_eq_true c46
                                      try have c46b2 : (9223372036854775807 < (a1.extract 0 ((ji32) : Int).toNat).size + 3) = False := eq_false (Nat.not_lt.2 c46)
                                      try have c46b3 : (9223372036854775807 < (ji32).toNat + 3) = False := eq_false (by have h1_ : 0 ≤ (ji32) := of_decide_eq_true (by assumption); have h2_ : (ji32) ≤ (a1.size : Int) := of_decide_eq_true (by assumption); have h3_ := c46; rw [ByteArray.size_extract] at h3_; omega)
                                      obtain rfl := Option.some.inj H
                                      have p35 : 0 ≤ ((ji32) : Int) := of_decide_eq_true (by first | (with_reducible assumption) | assumption)
                                      have q35 : (ji32) < (a1.size : Int) := of_decide_eq_true (by first | (with_reducible assumption) | assumption)
                                      have hx35 := bt_at a1 (ji32)
                                      replace p35 := eq_true p35
                                      replace q35 := eq_true q35
                                      have p40 : 0 ≤ ((ji37) : Int) := of_decide_eq_true (by first | (with_reducible assumption) | assumption)
                                      have q40 : (ji37) < (a1.size : Int) := of_decide_eq_true (by first | (with_reducible assumption) | assumption)
                                      have hx40 := bt_at a1 (ji37)
                                      replace p40 := eq_true p40
                                      replace q40 := eq_true q40
                                      go_wp2_with (first | (go_at_call 27; (with_reducible refine (english_isVowel.calls (bt a1 (ji37)) false _ A41.out).mono ?_); rintro e w' ⟨rfl, ⟨nd, rfl⟩⟩))
                                      go_ret
                                      exact ⟨by first | rfl | (simp [errW_none, errW_some] <;> rfl) | (simp only [← hji32, ← hji37]; first | rfl | (simp [errW_none, errW_some] <;> rfl)) | (simp [*, errW_none, errW_some] <;> rfl), by repeat (first | (with_reducible first | exact HB.out | apply below_alloc | apply pw_below_drewN | apply below_drew1) | exact HB.out)⟩
                                    · rw [if_neg c46] at H
                                      exact absurd H (by simp)
                                  · rw [if_neg c45] at H
                                    exact absurd H (by simp)
                              · rw [if_neg c39] at H
                                exact absurd H (by simp)
                            · rw [if_neg c38] at H
                              exact absurd H (by simp)
                          · rw [if_neg c36] at H
                            have c36b0 : ((bt a1 (ji32)) == 121) = false := beq_eq_false_iff_ne.mpr c36
                            have c36b1 : ((bt a1 (ji32)) != 121) = true := bne_iff_ne.mpr c36
                            by_cases c47 : a1.size + 1 ≤ 9223372036854775807
                            · rw [if_pos c47] at H
                              have c47b0 := eq_true c47
                              have c47b1 : decide (a1.size + 1 ≤ 9223372036854775807) = true := decide_eq_true c47
                              try have c47b2 : (9223372036854775807 < a1.size + 1) = False := eq_false (Nat.not_lt.2 c47)
                              obtain rfl := Option.some.inj H
                              have p35 : 0 ≤ ((ji32) : Int) := of_decide_eq_true (by first | (with_reducible assumption) | assumption)
                              have q35 : (ji32) < (a1.size : Int) := of_decide_eq_true (by first | (with_reducible assumption) | assumption)
                              have hx35 := bt_at a1 (ji32)
                              replace p35 := eq_true p35
                              replace q35 := eq_true q35
                              go_wp2
                              go_ret
                              exact ⟨by first | rfl | (simp [errW_none, errW_some] <;> rfl) | (simp only [← hji32]; first | rfl | (simp [errW_none, errW_some] <;> rfl)) | (simp [*, errW_none, errW_some] <;> rfl), by repeat (first | (with_reducible first | exact HB.out | apply below_alloc | apply pw_below_drewN | apply below_drew1) | exact HB.out)⟩
                            · rw [if_neg c47] at H
                              exact absurd H (by simp)
                        · rw [if_neg c34] at H
                          exact absurd H (by simp)
                      · rw [if_neg c33] at H
                        exact absurd H (by simp)
                    · rw [if_neg c31] at H
                      have c31b0 : decide (2 ≤ (a1.size : Int)) = false := decide_eq_false c31
                      have c31b1 : decide (2 ≤ a1.size) = false := decide_eq_false (by omega)
                      clear c31
                      by_cases c48 : a1.size + 1 ≤ 9223372036854775807
                      · rw [if_pos c48] at H
                        have c48b0 := eq_true c48
                        have c48b1 : decide (a1.size + 1 ≤ 9223372036854775807) = true := decide_eq_true c48
                        try have c48b2 : (9223372036854775807 < a1.size + 1) = False := eq_false (Nat.not_lt.2 c48)
                        obtain rfl := Option.some.inj H
                        go_wp2
                        go_ret
                        exact ⟨by first | rfl | (simp [errW_none, errW_some] <;> rfl) | (simp [*, errW_none, errW_some] <;> rfl), by repeat (first | (with_reducible first | exact HB.out | apply below_alloc | apply pw_below_drewN | apply below_drew1) | exact HB.out)⟩
                      · rw [if_neg c48] at H
                        exact absurd H (by simp)
      · rw [if_neg c7] at H
        have c7b0 : (t113.toList == ([] : List UInt8)) = false := beq_eq_false_iff_ne.mpr c7
        have c7b1 : (t113.toList != ([] : List UInt8)) = true := bne_iff_ne.mpr c7
        (try (have c7b2 : t113.toList.isEmpty = false := by simpa using c7))
        obtain rfl := Option.some.inj H
        go_enter Try.func19, Try.ntmps19
        go_wp2_with (first | ((with_reducible refine gate_callee (f := 24) rfl ?_); refine goesL_ (some 17) rfl rfl Try.func24 (by kernel_rfl) rfl #[.string a1] rfl (by (try simp only [List.map_toArray, List.map_cons, List.map_nil]); first | done | rfl | (simp only [List.length_drop, List.length_take]; rfl)) ?_; (with_reducible refine (english_specialPlurals.calls a1 t113 _ A6.out).mono ?_); rintro e w' ⟨rfl, ⟨nd, rfl⟩⟩; refine ⟨_, rfl, ?_⟩))
        go_ret
        exact ⟨by first | rfl | (simp [errW_none, errW_some] <;> rfl) | (simp [*, errW_none, errW_some] <;> rfl), by repeat (first | (with_reducible first | exact HB.out | apply below_alloc | apply pw_below_drewN | apply below_drew1) | exact HB.out)⟩
    · rw [if_neg c5] at H
      have c5b0 : (a2.toList == ([] : List UInt8)) = false := beq_eq_false_iff_ne.mpr c5
      have c5b1 : (a2.toList != ([] : List UInt8)) = true := bne_iff_ne.mpr c5
      (try (have c5b2 : a2.toList.isEmpty = false := by simpa using c5))
      obtain rfl := Option.some.inj H
      go_enter Try.func19, Try.ntmps19
      go_wp2
      go_ret
      exact ⟨by first | rfl | (simp [errW_none, errW_some] <;> rfl) | (simp [*, errW_none, errW_some] <;> rfl), by repeat (first | (with_reducible first | exact HB.out | apply below_alloc | apply pw_below_drewN | apply below_drew1) | exact HB.out)⟩

/-! ### impl_PluralWord: function 11 -/
def impl_PluralWord.f (k : Nat) (a0 : Int) (a1 : ByteArray) (a2 : ByteArray) : Option (ByteArray) := (impl_isText.f k true (([a1, a2] : List ByteArray))).bind fun t124 => (if t124 = true then ((english_PluralWord.f k a0 a1 a2).bind fun t125 => (some t125)) else (some (⟨#[]⟩ : ByteArray)))
theorem impl_PluralWord.mono : ∀ a0 a1 a2 k, LeO (impl_PluralWord.f k a0 a1 a2) (impl_PluralWord.f (k + 1) a0 a1 a2) := by
  intro a0 a1 a2 k
  unfold impl_PluralWord.f
  repeat' first
      | (with_reducible exact english_PluralWord.mono _ _ _ _)
      | (with_reducible exact impl_isText.mono _ _ _)
      | (with_reducible exact LeO.refl _)
      | (with_reducible exact LeO.none _)
      | (with_reducible refine LeO.ite ?_ ?_)
      | (with_reducible refine LeO.bind ?_ (fun _ => ?_))
      | exact english_PluralWord.mono _ _ _ _
      | exact impl_isText.mono _ _ _
      | exact LeO.none _
      | refine LeO.ite ?_ ?_
      | refine LeO.bind ?_ (fun _ => ?_)
set_option maxHeartbeats 8000000 in
set_option maxRecDepth 100000 in
theorem impl_PluralWord.calls (k : Nat) (a0 : Int) (a1 : ByteArray) (a2 : ByteArray) (r : ByteArray) (w : World) (h : impl_PluralWord.f k a0 a1 a2 = some r) :
    Calls Try.prog 11 #[.int .i64 a0, .string a1, .string a2] w fun e w' => e = .returned (.string r) ∧ Below w.heap.size w w' := by
  have HB := Aside0.mk (Below.refl w.heap.size w)
  have H : ((impl_isText.f k true (([a1, a2] : List ByteArray))).bind fun t124 => (if t124 = true then ((english_PluralWord.f k a0 a1 a2).bind fun t125 => (some t125)) else (some (⟨#[]⟩ : ByteArray)))) = some r := h
  clear h
  obtain ⟨y121, hy121⟩ : ∃ y_ : List ByteArray, y_ = (([a1, a2] : List ByteArray)) := ⟨_, rfl⟩
  replace H : ((impl_isText.f k true y121).bind fun t124 => (if t124 = true then ((english_PluralWord.f k a0 a1 a2).bind fun t125 => (some t125)) else (some (⟨#[]⟩ : ByteArray)))) = some r := by first | (rw [hy121]; with_reducible exact H) | (have H2_ := (Option.bind_some _ _).symm.trans H; rw [hy121]; with_reducible exact H2_) | (have H2_ := (Option.bind_some _ _).symm.trans H; with_reducible exact H2_) | with_reducible exact H | (rw [hy121]; exact H) | exact H
  have Ny121 := Aside0.mk hy121
  clear hy121
  replace H := Option.bind_eq_some_iff.mp H
  obtain ⟨t124, A40, H⟩ := H
  replace H : (if t124 = true then ((english_PluralWord.f k a0 a1 a2).bind fun t125 => (some t125)) else (some (⟨#[]⟩ : ByteArray))) = some r := H
  have A4 := Aside0.mk A40
  clear A40
  by_cases c5 : t124 = true
  · subst c5
    have H1 : ((english_PluralWord.f k a0 a1 a2).bind fun t125 => (some t125)) = some r := by rw [if_pos rfl] at H; exact H
    clear H
    have H := H1
    clear H1
    replace H := Option.bind_eq_some_iff.mp H
    obtain ⟨t125, A60, H⟩ := H
    replace H : (some t125) = some r := H
    have A6 := Aside0.mk A60
    clear A60
    obtain rfl := Option.some.inj H
    go_enter Try.func11, Try.ntmps11
    go_wp2_with (first | ((with_reducible refine gate_dst (N := 9) rfl ?_); refine Kd.R_lit Kd.string _ 9 ?hg (N := 9) ?hd (xs := ([a1, a2] : List ByteArray)) (inner := [.string a1, .string a2]) (ok := fun _ => True) (okp := fun _ => True) ?hr ?hp (fun _ hk => hk) trivial (Below.refl _ _) (Nat.le_refl _) (by simp) ?_; (case hd => rfl); (case hg => rfl); (case hr => first | (go_simp; done) | (go_simp; rfl)); (case hp => exact (Reps.one (show Kd.M Kd.string _ _ _ a1 [.string a1] from rfl) (Reps.one (show Kd.M Kd.string _ _ _ a2 [.string a2] from rfl) (Reps.none _ _)))); intro v122 w7 ho8 hb hg_ hnew_; clear hg_ hnew_; (first | rw [← Ny121.out] at ho8 | (simp only [Int.reduceToNat] at ho8; rw [← Ny121.out] at ho8)); have n0_ := Aside0.mk (Kd.R_lower ho8 (below_size (by repeat (first | (with_reducible first | exact HB.out | apply below_alloc | apply pw_below_drewN | apply below_drew1) | exact HB.out)))); have n1_ := Aside0.mk (below_step (by repeat (first | (with_reducible first | exact HB.out | apply below_alloc | apply pw_below_drewN | apply below_drew1) | exact HB.out)) hb); clear HB; have HO123 := n0_; have HB := n1_; clear n0_ n1_; clear hb ho8; obtain ⟨Ao9, co9, eo9⟩ := Kd.R_slice HO123.out; subst eo9) | ((with_reducible refine gate_callee (f := 14) rfl ?_); refine goesL_ (some 10) rfl rfl Try.func14 (by kernel_rfl) rfl #[.bool true, .slice Ao9 y121.length co9] rfl (by (try simp only [List.map_toArray, List.map_cons, List.map_nil]); first | done | rfl | (simp only [List.length_drop, List.length_take]; rfl)) ?_; (with_reducible refine (impl_isText.calls k true _ _ y121 true _ ?side1 ?side2 A4.out).mono ?_); (case side1 => repeat (first | exact (Kd.R_reads' HO123.out).2.2 | (with_reducible refine Kd.C_alloc ?_ _) | (with_reducible refine Kd.C_drewN ?_ _) | (with_reducible refine Kd.C_drew ?_))); (case side2 => exact (Kd.R_reads' HO123.out).2.1); rintro e w' ⟨rfl, ⟨nd, rfl⟩⟩; refine ⟨_, rfl, ?_⟩) | ((with_reducible refine gate_callee (f := 19) rfl ?_); refine goesL_ (some 15) rfl rfl Try.func19 (by kernel_rfl) rfl #[.int .i64 a0, .string a1, .string a2] rfl (by (try simp only [List.map_toArray, List.map_cons, List.map_nil]); first | done | rfl | (simp only [List.length_drop, List.length_take]; rfl)) ?_; (with_reducible refine (english_PluralWord.calls k a0 a1 a2 t125 _ A6.out).mono ?_); rintro e w10 ⟨rfl, hb⟩; refine ⟨_, rfl, ?_⟩; have n0_ := Aside0.mk (Kd.R_below (by (with_reducible repeat (first | apply Kd.R_alloc | apply Kd.R_drewN | apply Kd.R_drew)); exact HO123.out) hb); have n1_ := Aside0.mk (below_step (by repeat (first | (with_reducible first | exact HB.out | apply below_alloc | apply pw_below_drewN | apply below_drew1) | exact HB.out)) hb); clear HO123; clear HB; have HO123 := n0_; have HB := n1_; clear n0_ n1_; (try clear hb); (try clear hb2); (try clear hk); (try clear hi)))
    go_ret
    exact ⟨by first | rfl | (simp [errW_none, errW_some] <;> rfl) | (simp [*, errW_none, errW_some] <;> rfl), by repeat (first | (with_reducible first | exact HB.out | apply below_alloc | apply pw_below_drewN | apply below_drew1) | exact HB.out)⟩
  · replace c5 := Bool.eq_false_iff.mpr c5
    subst c5
    have H1 : (some (⟨#[]⟩ : ByteArray)) = some r := by rw [if_neg (show ¬ (false = true) by decide)] at H; exact H
    clear H
    have H := H1
    clear H1
    obtain rfl := Option.some.inj H
    go_enter Try.func11, Try.ntmps11
    go_wp2_with (first | ((with_reducible refine gate_dst (N := 9) rfl ?_); refine Kd.R_lit Kd.string _ 9 ?hg (N := 9) ?hd (xs := ([a1, a2] : List ByteArray)) (inner := [.string a1, .string a2]) (ok := fun _ => True) (okp := fun _ => True) ?hr ?hp (fun _ hk => hk) trivial (Below.refl _ _) (Nat.le_refl _) (by simp) ?_; (case hd => rfl); (case hg => rfl); (case hr => first | (go_simp; done) | (go_simp; rfl)); (case hp => exact (Reps.one (show Kd.M Kd.string _ _ _ a1 [.string a1] from rfl) (Reps.one (show Kd.M Kd.string _ _ _ a2 [.string a2] from rfl) (Reps.none _ _)))); intro v122 w11 ho12 hb hg_ hnew_; clear hg_ hnew_; (first | rw [← Ny121.out] at ho12 | (simp only [Int.reduceToNat] at ho12; rw [← Ny121.out] at ho12)); have n0_ := Aside0.mk (Kd.R_lower ho12 (below_size (by repeat (first | (with_reducible first | exact HB.out | apply below_alloc | apply pw_below_drewN | apply below_drew1) | exact HB.out)))); have n1_ := Aside0.mk (below_step (by repeat (first | (with_reducible first | exact HB.out | apply below_alloc | apply pw_below_drewN | apply below_drew1) | exact HB.out)) hb); clear HB; have HO123 := n0_; have HB := n1_; clear n0_ n1_; clear hb ho12; obtain ⟨Ao13, co13, eo13⟩ := Kd.R_slice HO123.out; subst eo13) | ((with_reducible refine gate_callee (f := 14) rfl ?_); refine goesL_ (some 10) rfl rfl Try.func14 (by kernel_rfl) rfl #[.bool true, .slice Ao13 y121.length co13] rfl (by (try simp only [List.map_toArray, List.map_cons, List.map_nil]); first | done | rfl | (simp only [List.length_drop, List.length_take]; rfl)) ?_; (with_reducible refine (impl_isText.calls k true _ _ y121 false _ ?side1 ?side2 A4.out).mono ?_); (case side1 => repeat (first | exact (Kd.R_reads' HO123.out).2.2 | (with_reducible refine Kd.C_alloc ?_ _) | (with_reducible refine Kd.C_drewN ?_ _) | (with_reducible refine Kd.C_drew ?_))); (case side2 => exact (Kd.R_reads' HO123.out).2.1); rintro e w' ⟨rfl, ⟨nd, rfl⟩⟩; refine ⟨_, rfl, ?_⟩))
    go_ret
    exact ⟨by first | rfl | (simp [errW_none, errW_some] <;> rfl) | (simp [*, errW_none, errW_some] <;> rfl), by repeat (first | (with_reducible first | exact HB.out | apply below_alloc | apply pw_below_drewN | apply below_drew1) | exact HB.out)⟩

end Go.Proofs.Ytmdgbbiipjmenaa.PFnPlural
