-- written by a program of this work
import Derived.Test.YtmdgbbiipjmenaaPFnPluralx0
namespace Go.Proofs.Ytmdgbbiipjmenaa.PFnPlural
open Go.RowKit Go.Proofs.YtmdgbbiipjmenaaW.PrintWords Go.Proofs.YtmdgbbiipjmenaaW.PrintLast Go.Proofs.YtmdgbbiipjmenaaW.PrintMore
attribute [local go_sem] max2_int min2_int max_two min_two max_three min_three max_four min_four   -- for this text's walks alone
set_option linter.unusedVariables false
set_option linter.unusedSimpArgs false

/-! ### laws_wordOf: function 6 -/
def wordL (zs : List Int) : List UInt8 := zs.map (fun z => UInt8.ofNat (97 + z % 26).toNat)
theorem wordL_len (zs : List Int) (k : Nat) : (wordL (zs.take k)).length ≤ k := by
  unfold wordL; simp; omega
theorem enc_small (r : Int) (h0 : 0 ≤ r) (h1 : r < 128) : Utf8.encode r = ⟨#[UInt8.ofNat r.toNat]⟩ := by
  have hv : Utf8.valid r = true := by unfold Utf8.valid; simp; omega
  unfold Utf8.encode
  simp only [hv, if_true]
  rw [if_pos (by omega)]
theorem word_step (zs : List Int) (k : Nat) (hk : k < zs.length) (z : Int) (hz : zs.getD k 0 = z) (h0 : 0 ≤ z) :
    (⟨(wordL (zs.take k)).toArray⟩ : ByteArray) ++ Utf8.encode (97 + z % 26) = ⟨(wordL (zs.take (k + 1))).toArray⟩ := by
  have hz : zs[k] = z := by rw [← hz]; simp [hk]
  rw [enc_small _ (by omega) (by omega)]
  unfold wordL
  rw [List.take_succ_eq_append_getElem hk, List.map_append, hz]
  apply ByteArray.ext
  simp
theorem ret_strE {a b : ByteArray} (h : a = b) : Ending.returned (.string a) = .returned (.string b) := by rw [h]
def laws_wordOf.f (_k : Nat) (l0 : List Int) : Option ByteArray :=
  if ∀ z ∈ l0, 0 ≤ z ∧ z ≤ 255 then some ⟨(wordL (l0.take 8)).toArray⟩ else none
theorem laws_wordOf.mono : ∀ a0 k, LeO (laws_wordOf.f k a0) (laws_wordOf.f (k + 1) a0) := fun _ _ => LeO.refl _
set_option maxHeartbeats 1000000 in
theorem laws_wordOf.calls (k : Nat) (A0 : Option Addr) (c0 : Nat) (l0 : List Int) (r : ByteArray) (w : World) (hr0 : Kd.C (Kd.int .u8) w A0 l0.length l0) (hc0 : l0.length ≤ c0) (h : laws_wordOf.f k l0 = some r) :
    Calls Try.prog 6 #[.slice A0 l0.length c0] w fun e w' => e = .returned (.string r) ∧ Drawn0 w w' := by
  unfold laws_wordOf.f at h
  by_cases hb : ∀ z ∈ l0, 0 ≤ z ∧ z ≤ 255
  case neg => rw [if_neg hb] at h; cases h
  rw [if_pos hb] at h
  have hr : r = ⟨(wordL (l0.take 8)).toArray⟩ := (Option.some.inj h).symm
  have HR := Lib.hid hr
  have HC := Lib.hid hr0
  have HB := Lib.hid hb
  have hlen : l0.length ≤ 9223372036854775807 := hr0.2.1
  clear h hr hr0 hb
  go_enter Try.func6, Try.ntmps6
  go_wp2
  all_goals
    go_loop [3, 12] (fun o i => ∃ k : Nat, k ≤ min l0.length 8 ∧ i = .int .i64 k ∧ o = .string ⟨(wordL (l0.take k)).toArray⟩) (fun _ i => 8 - (intOf i).toNat)
    case atStart => exact ⟨0, Nat.zero_le _, rfl, rfl⟩
    case round =>
      obtain ⟨k, hk, rfl, rfl⟩ := hrel
      by_cases hlt : k < min l0.length 8
      · obtain ⟨ad, he, hcell⟩ := Kd.at_int HC.out (k : Int) (by omega) (by omega)
        subst he
        have hk8 : k < 8 := by omega
        have hkl : k < l0.length := by omega
        have hwk : 0 ≤ l0.getD k 0 ∧ l0.getD k 0 ≤ 255 := by
          have := HB.out l0[k] (by simp)
          simpa [hkl] using this
        obtain ⟨z, hz⟩ : ∃ z, l0.getD k 0 = z := ⟨_, rfl⟩
        rw [hz] at hwk
        have b1 := wordL_len l0 k
        have b2 := encode_size_le (97 + z % 26)
        have hst := Lib.hid (word_step l0 k (by omega) z hz hwk.1)
        have hcell2 : w.cell? (ad.add k) = some (.int .u8 z) := by rw [← hz]; exact hcell
        clear hz
        clear hlt hk hcell
        go_wp2
        go_round
        case rel => exact ⟨k + 1, by omega, by go_num, by rw [hst.out]⟩
        case measure => simp [intOf]; omega
      · have hk8 : k = min l0.length 8 := by omega
        have H : Hid (l0.take k = l0.take 8) := by
          show l0.take k = l0.take 8
          rw [hk8]
          by_cases h8 : l0.length ≤ 8
          · rw [Nat.min_eq_left h8, List.take_of_length_le (Nat.le_refl _), List.take_of_length_le h8]
          · rw [Nat.min_eq_right (by omega)]
        clear hk8
        go_wp2
        go_ret
        exact ⟨ret_strE (by rw [HR.out, H.out]), Drawn0.refl _⟩


/-! ### spec_ends: function 17 -/
def spec_ends.f (a0 : ByteArray) (a1 : ByteArray) : Option (Bool) := if (a0.size : Int) ≥ (a1.size : Int) then (if 0 ≤ (wrap64 ((a0.size : Int) - (a1.size : Int))) then (if (wrap64 ((a0.size : Int) - (a1.size : Int))) ≤ (a0.size : Int) then (some ((a0.extract ((wrap64 ((a0.size : Int) - (a1.size : Int))) : Int).toNat a0.size).toList == a1.toList)) else (none)) else (none)) else (some false)
set_option maxHeartbeats 8000000 in
set_option maxRecDepth 100000 in
theorem spec_ends.calls (a0 : ByteArray) (a1 : ByteArray) (r : Bool) (w : World) (h : spec_ends.f a0 a1 = some r) :
    Calls Try.prog 17 #[.string a0, .string a1] w fun e w' => e = .returned (.bool r) ∧ Drawn0 w w' := by
  have H : (if (a0.size : Int) ≥ (a1.size : Int) then (if 0 ≤ (wrap64 ((a0.size : Int) - (a1.size : Int))) then (if (wrap64 ((a0.size : Int) - (a1.size : Int))) ≤ (a0.size : Int) then (some ((a0.extract ((wrap64 ((a0.size : Int) - (a1.size : Int))) : Int).toNat a0.size).toList == a1.toList)) else (none)) else (none)) else (some false)) = some r := h
  clear h
  by_cases c3 : (a0.size : Int) ≥ (a1.size : Int)
  · rw [if_pos c3] at H
    have c3b0 : decide ((a1.size : Int) ≤ (a0.size : Int)) = true := decide_eq_true c3
    have c3b1 : decide (a1.size ≤ a0.size) = true := decide_eq_true (Int.ofNat_le.mp c3)
    clear c3
    obtain ⟨ji4, hji4⟩ : ∃ j_ : Int, (wrap64 ((a0.size : Int) - (a1.size : Int))) = j_ := ⟨_, rfl⟩
    replace H : (if 0 ≤ (ji4) then (if (ji4) ≤ (a0.size : Int) then (some ((a0.extract ((ji4) : Int).toNat a0.size).toList == a1.toList)) else (none)) else (none)) = some r := by first | (rw [hji4] at H; exact H) | (simp only [hji4] at H ⊢; exact H)
    have hji4w : (IntKind.i64.wrap ((a0.size : Int) - (a1.size : Int))) = ji4 := (i64_w _).trans hji4
    by_cases c5 : 0 ≤ (ji4)
    · rw [if_pos c5] at H
      have c5b0 := eq_true c5
      have c5b1 : decide (0 ≤ (ji4)) = true := decide_eq_true c5
      clear c5
      by_cases c6 : (ji4) ≤ (a0.size : Int)
      · rw [if_pos c6] at H
        have c6b0 := eq_true c6
        have c6b1 : decide ((ji4) ≤ (a0.size : Int)) = true := decide_eq_true c6
        clear c6
        obtain rfl := Option.some.inj H
        go_enter Try.func17, Try.ntmps17
        go_wp2
        go_ret
        exact ⟨by first | rfl | (simp; done) | (simp only [← hji4] <;> (first | rfl | simp)) | (simp [*]; done), by repeat (first | exact Drawn0.refl _ | apply Drawn0.step)⟩
      · rw [if_neg c6] at H
        exact absurd H (by simp)
    · rw [if_neg c5] at H
      exact absurd H (by simp)
  · rw [if_neg c3] at H
    have c3b0 : decide ((a1.size : Int) ≤ (a0.size : Int)) = false := decide_eq_false c3
    have c3b1 : decide (a1.size ≤ a0.size) = false := decide_eq_false (fun h => c3 (Int.ofNat_le.mpr h))
    clear c3
    obtain rfl := Option.some.inj H
    go_enter Try.func17, Try.ntmps17
    go_wp2
    go_ret
    exact ⟨by first | rfl | (simp; done) | (simp [*]; done), by repeat (first | exact Drawn0.refl _ | apply Drawn0.step)⟩

/-! ### spec_vowel: function 18 -/
def spec_vowel.f (a0 : ByteArray) (a1 : Int) : Option (Bool) := if (a0.size : Int) < a1 then (some false) else (if 0 ≤ (wrap64 ((a0.size : Int) - a1)) then (if (wrap64 ((a0.size : Int) - a1)) < (a0.size : Int) then (if (bt a0 (wrap64 ((a0.size : Int) - a1))) = 97 then (some true) else (if (bt a0 (wrap64 ((a0.size : Int) - a1))) = 101 then (some true) else (if (bt a0 (wrap64 ((a0.size : Int) - a1))) = 105 then (some true) else (if (bt a0 (wrap64 ((a0.size : Int) - a1))) = 111 then (some true) else (if (bt a0 (wrap64 ((a0.size : Int) - a1))) = 117 then (some true) else (if (bt a0 (wrap64 ((a0.size : Int) - a1))) = 65 then (some true) else (if (bt a0 (wrap64 ((a0.size : Int) - a1))) = 69 then (some true) else (if (bt a0 (wrap64 ((a0.size : Int) - a1))) = 73 then (some true) else (if (bt a0 (wrap64 ((a0.size : Int) - a1))) = 79 then (some true) else (if (bt a0 (wrap64 ((a0.size : Int) - a1))) = 85 then (some true) else (some false))))))))))) else (none)) else (none))
set_option maxHeartbeats 8000000 in
set_option maxRecDepth 100000 in
theorem spec_vowel.calls (a0 : ByteArray) (a1 : Int) (r : Bool) (w : World) (h : spec_vowel.f a0 a1 = some r) :
    Calls Try.prog 18 #[.string a0, .int .i64 a1] w fun e w' => e = .returned (.bool r) ∧ Drawn0 w w' := by
  have H : (if (a0.size : Int) < a1 then (some false) else (if 0 ≤ (wrap64 ((a0.size : Int) - a1)) then (if (wrap64 ((a0.size : Int) - a1)) < (a0.size : Int) then (if (bt a0 (wrap64 ((a0.size : Int) - a1))) = 97 then (some true) else (if (bt a0 (wrap64 ((a0.size : Int) - a1))) = 101 then (some true) else (if (bt a0 (wrap64 ((a0.size : Int) - a1))) = 105 then (some true) else (if (bt a0 (wrap64 ((a0.size : Int) - a1))) = 111 then (some true) else (if (bt a0 (wrap64 ((a0.size : Int) - a1))) = 117 then (some true) else (if (bt a0 (wrap64 ((a0.size : Int) - a1))) = 65 then (some true) else (if (bt a0 (wrap64 ((a0.size : Int) - a1))) = 69 then (some true) else (if (bt a0 (wrap64 ((a0.size : Int) - a1))) = 73 then (some true) else (if (bt a0 (wrap64 ((a0.size : Int) - a1))) = 79 then (some true) else (if (bt a0 (wrap64 ((a0.size : Int) - a1))) = 85 then (some true) else (some false))))))))))) else (none)) else (none))) = some r := h
  clear h
  by_cases c3 : (a0.size : Int) < a1
  · rw [if_pos c3] at H
    have c3b0 : decide ((a0.size : Int) < a1) = true := decide_eq_true c3
    clear c3
    obtain rfl := Option.some.inj H
    go_enter Try.func18, Try.ntmps18
    go_wp2
    go_ret
    exact ⟨by first | rfl | (simp; done) | (simp [*]; done), by repeat (first | exact Drawn0.refl _ | apply Drawn0.step)⟩
  · rw [if_neg c3] at H
    have c3b0 : decide ((a0.size : Int) < a1) = false := decide_eq_false c3
    clear c3
    obtain ⟨ji4, hji4⟩ : ∃ j_ : Int, (wrap64 ((a0.size : Int) - a1)) = j_ := ⟨_, rfl⟩
    replace H : (if 0 ≤ (ji4) then (if (ji4) < (a0.size : Int) then (if (bt a0 (ji4)) = 97 then (some true) else (if (bt a0 (ji4)) = 101 then (some true) else (if (bt a0 (ji4)) = 105 then (some true) else (if (bt a0 (ji4)) = 111 then (some true) else (if (bt a0 (ji4)) = 117 then (some true) else (if (bt a0 (ji4)) = 65 then (some true) else (if (bt a0 (ji4)) = 69 then (some true) else (if (bt a0 (ji4)) = 73 then (some true) else (if (bt a0 (ji4)) = 79 then (some true) else (if (bt a0 (ji4)) = 85 then (some true) else (some false))))))))))) else (none)) else (none)) = some r := by first | (rw [hji4] at H; exact H) | (simp only [hji4] at H ⊢; exact H)
    have hji4w : (IntKind.i64.wrap ((a0.size : Int) - a1)) = ji4 := (i64_w _).trans hji4
    by_cases c5 : 0 ≤ (ji4)
    · rw [if_pos c5] at H
      have c5b0 : decide (0 ≤ (ji4)) = true := decide_eq_true c5
      clear c5
      by_cases c6 : (ji4) < (a0.size : Int)
      · rw [if_pos c6] at H
        have c6b0 : decide ((ji4) < (a0.size : Int)) = true := decide_eq_true c6
        clear c6
        by_cases c8 : (bt a0 (ji4)) = 97
        · rw [if_pos c8] at H
          have c8b0 : ((bt a0 (ji4)) == 97) = true := beq_iff_eq.mpr c8
          have c8b1 : ((bt a0 (ji4)) != 97) = false := bne_eq_false_iff_eq.mpr c8
          clear c8
          obtain rfl := Option.some.inj H
          have p7 : 0 ≤ ((ji4) : Int) := of_decide_eq_true (by first | (with_reducible assumption) | assumption)
          have q7 : (ji4) < (a0.size : Int) := of_decide_eq_true (by first | (with_reducible assumption) | assumption)
          have hx7 := bt_at a0 (ji4)
          replace p7 := eq_true p7
          replace q7 := eq_true q7
          go_enter Try.func18, Try.ntmps18
          go_wp2
          go_ret
          exact ⟨by first | rfl | (simp; done) | (simp only [← hji4] <;> (first | rfl | simp)) | (simp [*]; done), by repeat (first | exact Drawn0.refl _ | apply Drawn0.step)⟩
        · rw [if_neg c8] at H
          have c8b0 : ((bt a0 (ji4)) == 97) = false := beq_eq_false_iff_ne.mpr c8
          have c8b1 : ((bt a0 (ji4)) != 97) = true := bne_iff_ne.mpr c8
          by_cases c9 : (bt a0 (ji4)) = 101
          · rw [if_pos c9] at H
            have c9b0 : ((bt a0 (ji4)) == 101) = true := beq_iff_eq.mpr c9
            have c9b1 : ((bt a0 (ji4)) != 101) = false := bne_eq_false_iff_eq.mpr c9
            clear c9
            obtain rfl := Option.some.inj H
            have p7 : 0 ≤ ((ji4) : Int) := of_decide_eq_true (by first | (with_reducible assumption) | assumption)
            have q7 : (ji4) < (a0.size : Int) := of_decide_eq_true (by first | (with_reducible assumption) | assumption)
            have hx7 := bt_at a0 (ji4)
            replace p7 := eq_true p7
            replace q7 := eq_true q7
            go_enter Try.func18, Try.ntmps18
            go_wp2
            go_ret
            exact ⟨by first | rfl | (simp; done) | (simp only [← hji4] <;> (first | rfl | simp)) | (simp [*]; done), by repeat (first | exact Drawn0.refl _ | apply Drawn0.step)⟩
          · rw [if_neg c9] at H
            have c9b0 : ((bt a0 (ji4)) == 101) = false := beq_eq_false_iff_ne.mpr c9
            have c9b1 : ((bt a0 (ji4)) != 101) = true := bne_iff_ne.mpr c9
            by_cases c10 : (bt a0 (ji4)) = 105
            · rw [if_pos c10] at H
              have c10b0 : ((bt a0 (ji4)) == 105) = true := beq_iff_eq.mpr c10
              have c10b1 : ((bt a0 (ji4)) != 105) = false := bne_eq_false_iff_eq.mpr c10
              clear c10
              obtain rfl := Option.some.inj H
              have p7 : 0 ≤ ((ji4) : Int) := of_decide_eq_true (by first | (with_reducible assumption) | assumption)
              have q7 : (ji4) < (a0.size : Int) := of_decide_eq_true (by first | (with_reducible assumption) | assumption)
              have hx7 := bt_at a0 (ji4)
              replace p7 := eq_true p7
              replace q7 := eq_true q7
              go_enter Try.func18, Try.ntmps18
              go_wp2
              go_ret
              exact ⟨by first | rfl | (simp; done) | (simp only [← hji4] <;> (first | rfl | simp)) | (simp [*]; done), by repeat (first | exact Drawn0.refl _ | apply Drawn0.step)⟩
            · rw [if_neg c10] at H
              have c10b0 : ((bt a0 (ji4)) == 105) = false := beq_eq_false_iff_ne.mpr c10
              have c10b1 : ((bt a0 (ji4)) != 105) = true := bne_iff_ne.mpr c10
              by_cases c11 : (bt a0 (ji4)) = 111
              · rw [if_pos c11] at H
                have c11b0 : ((bt a0 (ji4)) == 111) = true := beq_iff_eq.mpr c11
                have c11b1 : ((bt a0 (ji4)) != 111) = false := bne_eq_false_iff_eq.mpr c11
                clear c11
                obtain rfl := Option.some.inj H
                have p7 : 0 ≤ ((ji4) : Int) := of_decide_eq_true (by first | (with_reducible assumption) | assumption)
                have q7 : (ji4) < (a0.size : Int) := of_decide_eq_true (by first | (with_reducible assumption) | assumption)
                have hx7 := bt_at a0 (ji4)
                replace p7 := eq_true p7
                replace q7 := eq_true q7
                go_enter Try.func18, Try.ntmps18
                go_wp2
                go_ret
                exact ⟨by first | rfl | (simp; done) | (simp only [← hji4] <;> (first | rfl | simp)) | (simp [*]; done), by repeat (first | exact Drawn0.refl _ | apply Drawn0.step)⟩
              · rw [if_neg c11] at H
                have c11b0 : ((bt a0 (ji4)) == 111) = false := beq_eq_false_iff_ne.mpr c11
                have c11b1 : ((bt a0 (ji4)) != 111) = true := bne_iff_ne.mpr c11
                by_cases c12 : (bt a0 (ji4)) = 117
                · rw [if_pos c12] at H
                  have c12b0 : ((bt a0 (ji4)) == 117) = true := beq_iff_eq.mpr c12
                  have c12b1 : ((bt a0 (ji4)) != 117) = false := bne_eq_false_iff_eq.mpr c12
                  clear c12
                  obtain rfl := Option.some.inj H
                  have p7 : 0 ≤ ((ji4) : Int) := of_decide_eq_true (by first | (with_reducible assumption) | assumption)
                  have q7 : (ji4) < (a0.size : Int) := of_decide_eq_true (by first | (with_reducible assumption) | assumption)
                  have hx7 := bt_at a0 (ji4)
                  replace p7 := eq_true p7
                  replace q7 := eq_true q7
                  go_enter Try.func18, Try.ntmps18
                  go_wp2
                  go_ret
                  exact ⟨by first | rfl | (simp; done) | (simp only [← hji4] <;> (first | rfl | simp)) | (simp [*]; done), by repeat (first | exact Drawn0.refl _ | apply Drawn0.step)⟩
                · rw [if_neg c12] at H
                  have c12b0 : ((bt a0 (ji4)) == 117) = false := beq_eq_false_iff_ne.mpr c12
                  have c12b1 : ((bt a0 (ji4)) != 117) = true := bne_iff_ne.mpr c12
                  by_cases c13 : (bt a0 (ji4)) = 65
                  · rw [if_pos c13] at H
                    have c13b0 : ((bt a0 (ji4)) == 65) = true := beq_iff_eq.mpr c13
                    have c13b1 : ((bt a0 (ji4)) != 65) = false := bne_eq_false_iff_eq.mpr c13
                    clear c13
                    obtain rfl := Option.some.inj H
                    have p7 : 0 ≤ ((ji4) : Int) := of_decide_eq_true (by first | (with_reducible assumption) | assumption)
                    have q7 : (ji4) < (a0.size : Int) := of_decide_eq_true (by first | (with_reducible assumption) | assumption)
                    have hx7 := bt_at a0 (ji4)
                    replace p7 := eq_true p7
                    replace q7 := eq_true q7
                    go_enter Try.func18, Try.ntmps18
                    go_wp2
                    go_ret
                    exact ⟨by first | rfl | (simp; done) | (simp only [← hji4] <;> (first | rfl | simp)) | (simp [*]; done), by repeat (first | exact Drawn0.refl _ | apply Drawn0.step)⟩
                  · rw [if_neg c13] at H
                    have c13b0 : ((bt a0 (ji4)) == 65) = false := beq_eq_false_iff_ne.mpr c13
                    have c13b1 : ((bt a0 (ji4)) != 65) = true := bne_iff_ne.mpr c13
                    by_cases c14 : (bt a0 (ji4)) = 69
                    · rw [if_pos c14] at H
                      have c14b0 : ((bt a0 (ji4)) == 69) = true := beq_iff_eq.mpr c14
                      have c14b1 : ((bt a0 (ji4)) != 69) = false := bne_eq_false_iff_eq.mpr c14
                      clear c14
                      obtain rfl := Option.some.inj H
                      have p7 : 0 ≤ ((ji4) : Int) := of_decide_eq_true (by first | (with_reducible assumption) | assumption)
                      have q7 : (ji4) < (a0.size : Int) := of_decide_eq_true (by first | (with_reducible assumption) | assumption)
                      have hx7 := bt_at a0 (ji4)
                      replace p7 := eq_true p7
                      replace q7 := eq_true q7
                      go_enter Try.func18, Try.ntmps18
                      go_wp2
                      go_ret
                      exact ⟨by first | rfl | (simp; done) | (simp only [← hji4] <;> (first | rfl | simp)) | (simp [*]; done), by repeat (first | exact Drawn0.refl _ | apply Drawn0.step)⟩
                    · rw [if_neg c14] at H
                      have c14b0 : ((bt a0 (ji4)) == 69) = false := beq_eq_false_iff_ne.mpr c14
                      have c14b1 : ((bt a0 (ji4)) != 69) = true := bne_iff_ne.mpr c14
                      by_cases c15 : (bt a0 (ji4)) = 73
                      · rw [if_pos c15] at H
                        have c15b0 : ((bt a0 (ji4)) == 73) = true := beq_iff_eq.mpr c15
                        have c15b1 : ((bt a0 (ji4)) != 73) = false := bne_eq_false_iff_eq.mpr c15
                        clear c15
                        obtain rfl := Option.some.inj H
                        have p7 : 0 ≤ ((ji4) : Int) := of_decide_eq_true (by first | (with_reducible assumption) | assumption)
                        have q7 : (ji4) < (a0.size : Int) := of_decide_eq_true (by first | (with_reducible assumption) | assumption)
                        have hx7 := bt_at a0 (ji4)
                        replace p7 := eq_true p7
                        replace q7 := eq_true q7
                        go_enter Try.func18, Try.ntmps18
                        go_wp2
                        go_ret
                        exact ⟨by first | rfl | (simp; done) | (simp only [← hji4] <;> (first | rfl | simp)) | (simp [*]; done), by repeat (first | exact Drawn0.refl _ | apply Drawn0.step)⟩
                      · rw [if_neg c15] at H
                        have c15b0 : ((bt a0 (ji4)) == 73) = false := beq_eq_false_iff_ne.mpr c15
                        have c15b1 : ((bt a0 (ji4)) != 73) = true := bne_iff_ne.mpr c15
                        by_cases c16 : (bt a0 (ji4)) = 79
                        · rw [if_pos c16] at H
                          have c16b0 : ((bt a0 (ji4)) == 79) = true := beq_iff_eq.mpr c16
                          have c16b1 : ((bt a0 (ji4)) != 79) = false := bne_eq_false_iff_eq.mpr c16
                          clear c16
                          obtain rfl := Option.some.inj H
                          have p7 : 0 ≤ ((ji4) : Int) := of_decide_eq_true (by first | (with_reducible assumption) | assumption)
                          have q7 : (ji4) < (a0.size : Int) := of_decide_eq_true (by first | (with_reducible assumption) | assumption)
                          have hx7 := bt_at a0 (ji4)
                          replace p7 := eq_true p7
                          replace q7 := eq_true q7
                          go_enter Try.func18, Try.ntmps18
                          go_wp2
                          go_ret
                          exact ⟨by first | rfl | (simp; done) | (simp only [← hji4] <;> (first | rfl | simp)) | (simp [*]; done), by repeat (first | exact Drawn0.refl _ | apply Drawn0.step)⟩
                        · rw [if_neg c16] at H
                          have c16b0 : ((bt a0 (ji4)) == 79) = false := beq_eq_false_iff_ne.mpr c16
                          have c16b1 : ((bt a0 (ji4)) != 79) = true := bne_iff_ne.mpr c16
                          by_cases c17 : (bt a0 (ji4)) = 85
                          · rw [if_pos c17] at H
                            have c17b0 : ((bt a0 (ji4)) == 85) = true := beq_iff_eq.mpr c17
                            have c17b1 : ((bt a0 (ji4)) != 85) = false := bne_eq_false_iff_eq.mpr c17
                            clear c17
                            obtain rfl := Option.some.inj H
                            have p7 : 0 ≤ ((ji4) : Int) := of_decide_eq_true (by first | (with_reducible assumption) | assumption)
                            have q7 : (ji4) < (a0.size : Int) := of_decide_eq_true (by first | (with_reducible assumption) | assumption)
                            have hx7 := bt_at a0 (ji4)
                            replace p7 := eq_true p7
                            replace q7 := eq_true q7
                            go_enter Try.func18, Try.ntmps18
                            go_wp2
                            go_ret
                            exact ⟨by first | rfl | (simp; done) | (simp only [← hji4] <;> (first | rfl | simp)) | (simp [*]; done), by repeat (first | exact Drawn0.refl _ | apply Drawn0.step)⟩
                          · rw [if_neg c17] at H
                            have c17b0 : ((bt a0 (ji4)) == 85) = false := beq_eq_false_iff_ne.mpr c17
                            have c17b1 : ((bt a0 (ji4)) != 85) = true := bne_iff_ne.mpr c17
                            obtain rfl := Option.some.inj H
                            have p7 : 0 ≤ ((ji4) : Int) := of_decide_eq_true (by first | (with_reducible assumption) | assumption)
                            have q7 : (ji4) < (a0.size : Int) := of_decide_eq_true (by first | (with_reducible assumption) | assumption)
                            have hx7 := bt_at a0 (ji4)
                            replace p7 := eq_true p7
                            replace q7 := eq_true q7
                            go_enter Try.func18, Try.ntmps18
                            go_wp2
                            go_ret
                            exact ⟨by first | rfl | (simp; done) | (simp only [← hji4] <;> (first | rfl | simp)) | (simp [*]; done), by repeat (first | exact Drawn0.refl _ | apply Drawn0.step)⟩
      · rw [if_neg c6] at H
        exact absurd H (by simp)
    · rw [if_neg c5] at H
      exact absurd H (by simp)

/-! ### spec_Many: function 10 -/
def spec_Many.j0 : Nat → ByteArray → Bool → Option (ByteArray)
  | 0, _, _ => none
  | k + 1, x0, x6 => if x6 = true then (if x0.size + 2 ≤ 9223372036854775807 then (some (x0 ++ (⟨#[101, 115]⟩ : ByteArray))) else (none)) else ((spec_ends.f x0 (⟨#[121]⟩ : ByteArray)).bind fun t107 => (if t107 = true then (if (x0.size : Int) > 1 then ((spec_vowel.f x0 2).bind fun t108 => (if t108 = true then (if x0.size + 1 ≤ 9223372036854775807 then (some (x0 ++ (⟨#[115]⟩ : ByteArray))) else (none)) else (if 0 ≤ (wrap64 ((x0.size : Int) - 1)) then (if (wrap64 ((x0.size : Int) - 1)) ≤ (x0.size : Int) then (if (x0.extract 0 ((wrap64 ((x0.size : Int) - 1)) : Int).toNat).size + 3 ≤ 9223372036854775807 then (some ((x0.extract 0 ((wrap64 ((x0.size : Int) - 1)) : Int).toNat) ++ (⟨#[105, 101, 115]⟩ : ByteArray))) else (none)) else (none)) else (none)))) else (if x0.size + 1 ≤ 9223372036854775807 then (some (x0 ++ (⟨#[115]⟩ : ByteArray))) else (none))) else (if x0.size + 1 ≤ 9223372036854775807 then (some (x0 ++ (⟨#[115]⟩ : ByteArray))) else (none))))
def spec_Many.f (k : Nat) (a0 : ByteArray) : Option (ByteArray) := if a0.toList = ([] : List UInt8) then (some (⟨#[]⟩ : ByteArray)) else ((spec_ends.f a0 (⟨#[115]⟩ : ByteArray)).bind fun t101 => (if t101 = true then (spec_Many.j0 k a0 t101) else ((spec_ends.f a0 (⟨#[115, 104]⟩ : ByteArray)).bind fun t102 => (if t102 = true then (spec_Many.j0 k a0 t102) else ((spec_ends.f a0 (⟨#[116, 99, 104]⟩ : ByteArray)).bind fun t103 => (if t103 = true then (spec_Many.j0 k a0 t103) else ((spec_ends.f a0 (⟨#[120]⟩ : ByteArray)).bind fun t104 => (if t104 = true then (spec_Many.j0 k a0 t104) else ((spec_ends.f a0 (⟨#[111]⟩ : ByteArray)).bind fun t105 => (if t105 = true then (if (a0.size : Int) > 1 then ((spec_vowel.f a0 2).bind fun t106 => (spec_Many.j0 k a0 (!t106))) else (spec_Many.j0 k a0 false)) else (spec_Many.j0 k a0 false)))))))))))
theorem spec_Many.mono_l : ∀ k, (∀ y0 y1, LeO (spec_Many.j0 k y0 y1) (spec_Many.j0 (k + 1) y0 y1))
  | 0 => fun _ _ r h => by simp [spec_Many.j0] at h
  | k + 1 => by
    have ih0 := spec_Many.mono_l k
    · intro y0 y1
      unfold spec_Many.j0
      repeat' first
      | (with_reducible exact ih0 _ _)
      | (with_reducible exact LeO.refl _)
      | (with_reducible exact LeO.none _)
      | (with_reducible refine LeO.ite ?_ ?_)
      | (with_reducible refine LeO.bind ?_ (fun _ => ?_))
      | exact ih0 _ _
      | exact LeO.none _
      | refine LeO.ite ?_ ?_
      | refine LeO.bind ?_ (fun _ => ?_)
theorem spec_Many.mono : ∀ a0 k, LeO (spec_Many.f k a0) (spec_Many.f (k + 1) a0) := by
  intro a0 k
  have ih0 := spec_Many.mono_l k
  unfold spec_Many.f
  repeat' first
      | (with_reducible exact ih0 _ _)
      | (with_reducible exact LeO.refl _)
      | (with_reducible exact LeO.none _)
      | (with_reducible refine LeO.ite ?_ ?_)
      | (with_reducible refine LeO.bind ?_ (fun _ => ?_))
      | exact ih0 _ _
      | exact LeO.none _
      | refine LeO.ite ?_ ?_
      | refine LeO.bind ?_ (fun _ => ?_)
set_option maxHeartbeats 8000000 in
set_option maxRecDepth 100000 in
theorem spec_Many.calls (k : Nat) (a0 : ByteArray) (r : ByteArray) (w : World) (h : spec_Many.f k a0 = some r) :
    Calls Try.prog 10 #[.string a0] w fun e w' => e = .returned (.string r) ∧ Drawn0 w w' := by
  have H : (if a0.toList = ([] : List UInt8) then (some (⟨#[]⟩ : ByteArray)) else ((spec_ends.f a0 (⟨#[115]⟩ : ByteArray)).bind fun t101 => (if t101 = true then (spec_Many.j0 k a0 t101) else ((spec_ends.f a0 (⟨#[115, 104]⟩ : ByteArray)).bind fun t102 => (if t102 = true then (spec_Many.j0 k a0 t102) else ((spec_ends.f a0 (⟨#[116, 99, 104]⟩ : ByteArray)).bind fun t103 => (if t103 = true then (spec_Many.j0 k a0 t103) else ((spec_ends.f a0 (⟨#[120]⟩ : ByteArray)).bind fun t104 => (if t104 = true then (spec_Many.j0 k a0 t104) else ((spec_ends.f a0 (⟨#[111]⟩ : ByteArray)).bind fun t105 => (if t105 = true then (if (a0.size : Int) > 1 then ((spec_vowel.f a0 2).bind fun t106 => (spec_Many.j0 k a0 (!t106))) else (spec_Many.j0 k a0 false)) else (spec_Many.j0 k a0 false)))))))))))) = some r := h
  clear h
  by_cases c2 : a0.toList = ([] : List UInt8)
  · rw [if_pos c2] at H
    have c2b0 : (a0.toList == ([] : List UInt8)) = true := beq_iff_eq.mpr c2
    have c2b1 : (a0.toList != ([] : List UInt8)) = false := bne_eq_false_iff_eq.mpr c2
    (try (have c2b2 : a0.toList.isEmpty = true := by simpa using c2))
    clear c2
    obtain rfl := Option.some.inj H
    go_enter Try.func10, Try.ntmps10
    go_wp2
    go_ret
    exact ⟨by first | rfl | (simp; done) | (simp [*]; done), by repeat (first | exact Drawn0.refl _ | apply Drawn0.step)⟩
  · rw [if_neg c2] at H
    have c2b0 : (a0.toList == ([] : List UInt8)) = false := beq_eq_false_iff_ne.mpr c2
    have c2b1 : (a0.toList != ([] : List UInt8)) = true := bne_iff_ne.mpr c2
    (try (have c2b2 : a0.toList.isEmpty = false := by simpa using c2))
    replace H := Option.bind_eq_some_iff.mp H
    obtain ⟨t101, A30, H⟩ := H
    replace H : (if t101 = true then (spec_Many.j0 k a0 t101) else ((spec_ends.f a0 (⟨#[115, 104]⟩ : ByteArray)).bind fun t102 => (if t102 = true then (spec_Many.j0 k a0 t102) else ((spec_ends.f a0 (⟨#[116, 99, 104]⟩ : ByteArray)).bind fun t103 => (if t103 = true then (spec_Many.j0 k a0 t103) else ((spec_ends.f a0 (⟨#[120]⟩ : ByteArray)).bind fun t104 => (if t104 = true then (spec_Many.j0 k a0 t104) else ((spec_ends.f a0 (⟨#[111]⟩ : ByteArray)).bind fun t105 => (if t105 = true then (if (a0.size : Int) > 1 then ((spec_vowel.f a0 2).bind fun t106 => (spec_Many.j0 k a0 (!t106))) else (spec_Many.j0 k a0 false)) else (spec_Many.j0 k a0 false)))))))))) = some r := H
    have A3 := Aside0.mk A30
    clear A30
    have HC4 := Aside0.mk H
    clear H
    go_enter Try.func10, Try.ntmps10
    go_upto_if 6 with (first | ((with_reducible refine gate_callee (f := 17) rfl ?_); refine goesL_ (some 8) rfl rfl Try.func17 (by kernel_rfl) rfl #[.string a0, .string (⟨#[115]⟩ : ByteArray)] rfl (by (try simp only [List.map_toArray, List.map_cons, List.map_nil]); first | done | rfl | (simp only [List.length_drop, List.length_take]; rfl)) ?_; (with_reducible refine (spec_ends.calls a0 (⟨#[115]⟩ : ByteArray) t101 _ A3.out).mono ?_); rintro e w' ⟨rfl, ⟨nd, rfl⟩⟩; refine ⟨_, rfl, ?_⟩))
    (try simp only [Act.put, List.setIfInBounds_toArray, List.set_cons_zero, List.set_cons_succ])
    go_cut [6] (fun v6 wc => ∃ (kq : Nat) (x6_3 : Bool), v6 = .bool x6_3 ∧ Aside0 (spec_Many.j0 kq a0 x6_3 = some r) ∧ Aside0 (kq ≤ k) ∧ Drawn0 w wc)
    case first =>
      have H := HC4.out
      clear HC4
      by_cases c5 : t101 = true
      · subst c5
        have H1 : (spec_Many.j0 k a0 true) = some r := by rw [if_pos rfl] at H; exact H
        clear H
        have H := H1
        clear H1
        have H' := Aside0.mk H
        clear H
        go_wp2
        go_meet
        case rel => exact ⟨_, (true), (by first | rfl | (simp; done) | (simp [*]; done)), H', ⟨by first | omega | exact Nat.le_refl _⟩, by repeat (first | exact Drawn0.refl _ | apply Drawn0.step)⟩
      · replace c5 := Bool.eq_false_iff.mpr c5
        subst c5
        have H1 : ((spec_ends.f a0 (⟨#[115, 104]⟩ : ByteArray)).bind fun t102 => (if t102 = true then (spec_Many.j0 k a0 t102) else ((spec_ends.f a0 (⟨#[116, 99, 104]⟩ : ByteArray)).bind fun t103 => (if t103 = true then (spec_Many.j0 k a0 t103) else ((spec_ends.f a0 (⟨#[120]⟩ : ByteArray)).bind fun t104 => (if t104 = true then (spec_Many.j0 k a0 t104) else ((spec_ends.f a0 (⟨#[111]⟩ : ByteArray)).bind fun t105 => (if t105 = true then (if (a0.size : Int) > 1 then ((spec_vowel.f a0 2).bind fun t106 => (spec_Many.j0 k a0 (!t106))) else (spec_Many.j0 k a0 false)) else (spec_Many.j0 k a0 false))))))))) = some r := by rw [if_neg (show ¬ (false = true) by decide)] at H; exact H
        clear H
        have H := H1
        clear H1
        replace H := Option.bind_eq_some_iff.mp H
        obtain ⟨t102, A60, H⟩ := H
        replace H : (if t102 = true then (spec_Many.j0 k a0 t102) else ((spec_ends.f a0 (⟨#[116, 99, 104]⟩ : ByteArray)).bind fun t103 => (if t103 = true then (spec_Many.j0 k a0 t103) else ((spec_ends.f a0 (⟨#[120]⟩ : ByteArray)).bind fun t104 => (if t104 = true then (spec_Many.j0 k a0 t104) else ((spec_ends.f a0 (⟨#[111]⟩ : ByteArray)).bind fun t105 => (if t105 = true then (if (a0.size : Int) > 1 then ((spec_vowel.f a0 2).bind fun t106 => (spec_Many.j0 k a0 (!t106))) else (spec_Many.j0 k a0 false)) else (spec_Many.j0 k a0 false)))))))) = some r := H
        have A6 := Aside0.mk A60
        clear A60
        by_cases c7 : t102 = true
        · subst c7
          have H1 : (spec_Many.j0 k a0 true) = some r := by rw [if_pos rfl] at H; exact H
          clear H
          have H := H1
          clear H1
          have H' := Aside0.mk H
          clear H
          go_wp2_with (first | ((with_reducible refine gate_callee (f := 17) rfl ?_); refine goesL_ (some 10) rfl rfl Try.func17 (by kernel_rfl) rfl #[.string a0, .string (⟨#[115, 104]⟩ : ByteArray)] rfl (by (try simp only [List.map_toArray, List.map_cons, List.map_nil]); first | done | rfl | (simp only [List.length_drop, List.length_take]; rfl)) ?_; (with_reducible refine (spec_ends.calls a0 (⟨#[115, 104]⟩ : ByteArray) true _ A6.out).mono ?_); rintro e w' ⟨rfl, ⟨nd, rfl⟩⟩; refine ⟨_, rfl, ?_⟩))
          go_meet
          case rel => exact ⟨_, (true), (by first | rfl | (simp; done) | (simp [*]; done)), H', ⟨by first | omega | exact Nat.le_refl _⟩, by repeat (first | exact Drawn0.refl _ | apply Drawn0.step)⟩
        · replace c7 := Bool.eq_false_iff.mpr c7
          subst c7
          have H1 : ((spec_ends.f a0 (⟨#[116, 99, 104]⟩ : ByteArray)).bind fun t103 => (if t103 = true then (spec_Many.j0 k a0 t103) else ((spec_ends.f a0 (⟨#[120]⟩ : ByteArray)).bind fun t104 => (if t104 = true then (spec_Many.j0 k a0 t104) else ((spec_ends.f a0 (⟨#[111]⟩ : ByteArray)).bind fun t105 => (if t105 = true then (if (a0.size : Int) > 1 then ((spec_vowel.f a0 2).bind fun t106 => (spec_Many.j0 k a0 (!t106))) else (spec_Many.j0 k a0 false)) else (spec_Many.j0 k a0 false))))))) = some r := by rw [if_neg (show ¬ (false = true) by decide)] at H; exact H
          clear H
          have H := H1
          clear H1
          replace H := Option.bind_eq_some_iff.mp H
          obtain ⟨t103, A80, H⟩ := H
          replace H : (if t103 = true then (spec_Many.j0 k a0 t103) else ((spec_ends.f a0 (⟨#[120]⟩ : ByteArray)).bind fun t104 => (if t104 = true then (spec_Many.j0 k a0 t104) else ((spec_ends.f a0 (⟨#[111]⟩ : ByteArray)).bind fun t105 => (if t105 = true then (if (a0.size : Int) > 1 then ((spec_vowel.f a0 2).bind fun t106 => (spec_Many.j0 k a0 (!t106))) else (spec_Many.j0 k a0 false)) else (spec_Many.j0 k a0 false)))))) = some r := H
          have A8 := Aside0.mk A80
          clear A80
          by_cases c9 : t103 = true
          · subst c9
            have H1 : (spec_Many.j0 k a0 true) = some r := by rw [if_pos rfl] at H; exact H
            clear H
            have H := H1
            clear H1
            have H' := Aside0.mk H
            clear H
            go_wp2_with (first | ((with_reducible refine gate_callee (f := 17) rfl ?_); refine goesL_ (some 10) rfl rfl Try.func17 (by kernel_rfl) rfl #[.string a0, .string (⟨#[115, 104]⟩ : ByteArray)] rfl (by (try simp only [List.map_toArray, List.map_cons, List.map_nil]); first | done | rfl | (simp only [List.length_drop, List.length_take]; rfl)) ?_; (with_reducible refine (spec_ends.calls a0 (⟨#[115, 104]⟩ : ByteArray) false _ A6.out).mono ?_); rintro e w' ⟨rfl, ⟨nd, rfl⟩⟩; refine ⟨_, rfl, ?_⟩) | ((with_reducible refine gate_callee (f := 17) rfl ?_); refine goesL_ (some 12) rfl rfl Try.func17 (by kernel_rfl) rfl #[.string a0, .string (⟨#[116, 99, 104]⟩ : ByteArray)] rfl (by (try simp only [List.map_toArray, List.map_cons, List.map_nil]); first | done | rfl | (simp only [List.length_drop, List.length_take]; rfl)) ?_; (with_reducible refine (spec_ends.calls a0 (⟨#[116, 99, 104]⟩ : ByteArray) true _ A8.out).mono ?_); rintro e w' ⟨rfl, ⟨nd, rfl⟩⟩; refine ⟨_, rfl, ?_⟩))
            go_meet
            case rel => exact ⟨_, (true), (by first | rfl | (simp; done) | (simp [*]; done)), H', ⟨by first | omega | exact Nat.le_refl _⟩, by repeat (first | exact Drawn0.refl _ | apply Drawn0.step)⟩
          · replace c9 := Bool.eq_false_iff.mpr c9
            subst c9
            have H1 : ((spec_ends.f a0 (⟨#[120]⟩ : ByteArray)).bind fun t104 => (if t104 = true then (spec_Many.j0 k a0 t104) else ((spec_ends.f a0 (⟨#[111]⟩ : ByteArray)).bind fun t105 => (if t105 = true then (if (a0.size : Int) > 1 then ((spec_vowel.f a0 2).bind fun t106 => (spec_Many.j0 k a0 (!t106))) else (spec_Many.j0 k a0 false)) else (spec_Many.j0 k a0 false))))) = some r := by rw [if_neg (show ¬ (false = true) by decide)] at H; exact H
            clear H
            have H := H1
            clear H1
            replace H := Option.bind_eq_some_iff.mp H
            obtain ⟨t104, A100, H⟩ := H
            replace H : (if t104 = true then (spec_Many.j0 k a0 t104) else ((spec_ends.f a0 (⟨#[111]⟩ : ByteArray)).bind fun t105 => (if t105 = true then (if (a0.size : Int) > 1 then ((spec_vowel.f a0 2).bind fun t106 => (spec_Many.j0 k a0 (!t106))) else (spec_Many.j0 k a0 false)) else (spec_Many.j0 k a0 false)))) = some r := H
            have A10 := Aside0.mk A100
            clear A100
            by_cases c11 : t104 = true
            · subst c11
              have H1 : (spec_Many.j0 k a0 true) = some r := by rw [if_pos rfl] at H; exact H
              clear H
              have H := H1
              clear H1
              have H' := Aside0.mk H
              clear H
              go_wp2_with (first | ((with_reducible refine gate_callee (f := 17) rfl ?_); refine goesL_ (some 10) rfl rfl Try.func17 (by kernel_rfl) rfl #[.string a0, .string (⟨#[115, 104]⟩ : ByteArray)] rfl (by (try simp only [List.map_toArray, List.map_cons, List.map_nil]); first | done | rfl | (simp only [List.length_drop, List.length_take]; rfl)) ?_; (with_reducible refine (spec_ends.calls a0 (⟨#[115, 104]⟩ : ByteArray) false _ A6.out).mono ?_); rintro e w' ⟨rfl, ⟨nd, rfl⟩⟩; refine ⟨_, rfl, ?_⟩) | ((with_reducible refine gate_callee (f := 17) rfl ?_); refine goesL_ (some 12) rfl rfl Try.func17 (by kernel_rfl) rfl #[.string a0, .string (⟨#[116, 99, 104]⟩ : ByteArray)] rfl (by (try simp only [List.map_toArray, List.map_cons, List.map_nil]); first | done | rfl | (simp only [List.length_drop, List.length_take]; rfl)) ?_; (with_reducible refine (spec_ends.calls a0 (⟨#[116, 99, 104]⟩ : ByteArray) false _ A8.out).mono ?_); rintro e w' ⟨rfl, ⟨nd, rfl⟩⟩; refine ⟨_, rfl, ?_⟩) | ((with_reducible refine gate_callee (f := 17) rfl ?_); refine goesL_ (some 14) rfl rfl Try.func17 (by kernel_rfl) rfl #[.string a0, .string (⟨#[120]⟩ : ByteArray)] rfl (by (try simp only [List.map_toArray, List.map_cons, List.map_nil]); first | done | rfl | (simp only [List.length_drop, List.length_take]; rfl)) ?_; (with_reducible refine (spec_ends.calls a0 (⟨#[120]⟩ : ByteArray) true _ A10.out).mono ?_); rintro e w' ⟨rfl, ⟨nd, rfl⟩⟩; refine ⟨_, rfl, ?_⟩))
              go_meet
              case rel => exact ⟨_, (true), (by first | rfl | (simp; done) | (simp [*]; done)), H', ⟨by first | omega | exact Nat.le_refl _⟩, by repeat (first | exact Drawn0.refl _ | apply Drawn0.step)⟩
            · replace c11 := Bool.eq_false_iff.mpr c11
              subst c11
              have H1 : ((spec_ends.f a0 (⟨#[111]⟩ : ByteArray)).bind fun t105 => (if t105 = true then (if (a0.size : Int) > 1 then ((spec_vowel.f a0 2).bind fun t106 => (spec_Many.j0 k a0 (!t106))) else (spec_Many.j0 k a0 false)) else (spec_Many.j0 k a0 false))) = some r := by rw [if_neg (show ¬ (false = true) by decide)] at H; exact H
              clear H
              have H := H1
              clear H1
              replace H := Option.bind_eq_some_iff.mp H
              obtain ⟨t105, A120, H⟩ := H
              replace H : (if t105 = true then (if (a0.size : Int) > 1 then ((spec_vowel.f a0 2).bind fun t106 => (spec_Many.j0 k a0 (!t106))) else (spec_Many.j0 k a0 false)) else (spec_Many.j0 k a0 false)) = some r := H
              have A12 := Aside0.mk A120
              clear A120
              by_cases c13 : t105 = true
              · subst c13
                have H1 : (if (a0.size : Int) > 1 then ((spec_vowel.f a0 2).bind fun t106 => (spec_Many.j0 k a0 (!t106))) else (spec_Many.j0 k a0 false)) = some r := by rw [if_pos rfl] at H; exact H
                clear H
                have H := H1
                clear H1
                by_cases c14 : (a0.size : Int) > 1
                · rw [if_pos c14] at H
                  have c14b0 : decide (1 < (a0.size : Int)) = true := decide_eq_true c14
                  have c14b1 : decide (1 < a0.size) = true := decide_eq_true (by omega)
                  clear c14
                  (first | rw [c14b0] | (simp only [i64_w, i32_w]; rw [c14b0]) | rw [c14b2] | skip)
                  replace H := Option.bind_eq_some_iff.mp H
                  obtain ⟨t106, A150, H⟩ := H
                  replace H : (spec_Many.j0 k a0 (!t106)) = some r := H
                  have A15 := Aside0.mk A150
                  clear A150
                  have H' := Aside0.mk H
                  clear H
                  go_wp2_with (first | ((with_reducible refine gate_callee (f := 17) rfl ?_); refine goesL_ (some 10) rfl rfl Try.func17 (by kernel_rfl) rfl #[.string a0, .string (⟨#[115, 104]⟩ : ByteArray)] rfl (by (try simp only [List.map_toArray, List.map_cons, List.map_nil]); first | done | rfl | (simp only [List.length_drop, List.length_take]; rfl)) ?_; (with_reducible refine (spec_ends.calls a0 (⟨#[115, 104]⟩ : ByteArray) false _ A6.out).mono ?_); rintro e w' ⟨rfl, ⟨nd, rfl⟩⟩; refine ⟨_, rfl, ?_⟩) | ((with_reducible refine gate_callee (f := 17) rfl ?_); refine goesL_ (some 12) rfl rfl Try.func17 (by kernel_rfl) rfl #[.string a0, .string (⟨#[116, 99, 104]⟩ : ByteArray)] rfl (by (try simp only [List.map_toArray, List.map_cons, List.map_nil]); first | done | rfl | (simp only [List.length_drop, List.length_take]; rfl)) ?_; (with_reducible refine (spec_ends.calls a0 (⟨#[116, 99, 104]⟩ : ByteArray) false _ A8.out).mono ?_); rintro e w' ⟨rfl, ⟨nd, rfl⟩⟩; refine ⟨_, rfl, ?_⟩) | ((with_reducible refine gate_callee (f := 17) rfl ?_); refine goesL_ (some 14) rfl rfl Try.func17 (by kernel_rfl) rfl #[.string a0, .string (⟨#[120]⟩ : ByteArray)] rfl (by (try simp only [List.map_toArray, List.map_cons, List.map_nil]); first | done | rfl | (simp only [List.length_drop, List.length_take]; rfl)) ?_; (with_reducible refine (spec_ends.calls a0 (⟨#[120]⟩ : ByteArray) false _ A10.out).mono ?_); rintro e w' ⟨rfl, ⟨nd, rfl⟩⟩; refine ⟨_, rfl, ?_⟩) | ((with_reducible refine gate_callee (f := 17) rfl ?_); refine goesL_ (some 16) rfl rfl Try.func17 (by kernel_rfl) rfl #[.string a0, .string (⟨#[111]⟩ : ByteArray)] rfl (by (try simp only [List.map_toArray, List.map_cons, List.map_nil]); first | done | rfl | (simp only [List.length_drop, List.length_take]; rfl)) ?_; (with_reducible refine (spec_ends.calls a0 (⟨#[111]⟩ : ByteArray) true _ A12.out).mono ?_); rintro e w' ⟨rfl, ⟨nd, rfl⟩⟩; refine ⟨_, rfl, ?_⟩) | (go_at_call 18; (with_reducible refine (spec_vowel.calls a0 2 t106 _ A15.out).mono ?_); rintro e w' ⟨rfl, ⟨nd, rfl⟩⟩))
                  go_meet
                  case rel => exact ⟨_, (!t106), (by first | rfl | (simp; done) | (simp [*]; done)), H', ⟨by first | omega | exact Nat.le_refl _⟩, by repeat (first | exact Drawn0.refl _ | apply Drawn0.step)⟩
                · rw [if_neg c14] at H
                  have c14b0 : decide (1 < (a0.size : Int)) = false := decide_eq_false c14
                  have c14b1 : decide (1 < a0.size) = false := decide_eq_false (by omega)
                  clear c14
                  (first | rw [c14b0] | (simp only [i64_w, i32_w]; rw [c14b0]) | rw [c14b2] | skip)
                  have H' := Aside0.mk H
                  clear H
                  go_wp2_with (first | ((with_reducible refine gate_callee (f := 17) rfl ?_); refine goesL_ (some 10) rfl rfl Try.func17 (by kernel_rfl) rfl #[.string a0, .string (⟨#[115, 104]⟩ : ByteArray)] rfl (by (try simp only [List.map_toArray, List.map_cons, List.map_nil]); first | done | rfl | (simp only [List.length_drop, List.length_take]; rfl)) ?_; (with_reducible refine (spec_ends.calls a0 (⟨#[115, 104]⟩ : ByteArray) false _ A6.out).mono ?_); rintro e w' ⟨rfl, ⟨nd, rfl⟩⟩; refine ⟨_, rfl, ?_⟩) | ((with_reducible refine gate_callee (f := 17) rfl ?_); refine goesL_ (some 12) rfl rfl Try.func17 (by kernel_rfl) rfl #[.string a0, .string (⟨#[116, 99, 104]⟩ : ByteArray)] rfl (by (try simp only [List.map_toArray, List.map_cons, List.map_nil]); first | done | rfl | (simp only [List.length_drop, List.length_take]; rfl)) ?_; (with_reducible refine (spec_ends.calls a0 (⟨#[116, 99, 104]⟩ : ByteArray) false _ A8.out).mono ?_); rintro e w' ⟨rfl, ⟨nd, rfl⟩⟩; refine ⟨_, rfl, ?_⟩) | ((with_reducible refine gate_callee (f := 17) rfl ?_); refine goesL_ (some 14) rfl rfl Try.func17 (by kernel_rfl) rfl #[.string a0, .string (⟨#[120]⟩ : ByteArray)] rfl (by (try simp only [List.map_toArray, List.map_cons, List.map_nil]); first | done | rfl | (simp only [List.length_drop, List.length_take]; rfl)) ?_; (with_reducible refine (spec_ends.calls a0 (⟨#[120]⟩ : ByteArray) false _ A10.out).mono ?_); rintro e w' ⟨rfl, ⟨nd, rfl⟩⟩; refine ⟨_, rfl, ?_⟩) | ((with_reducible refine gate_callee (f := 17) rfl ?_); refine goesL_ (some 16) rfl rfl Try.func17 (by kernel_rfl) rfl #[.string a0, .string (⟨#[111]⟩ : ByteArray)] rfl (by (try simp only [List.map_toArray, List.map_cons, List.map_nil]); first | done | rfl | (simp only [List.length_drop, List.length_take]; rfl)) ?_; (with_reducible refine (spec_ends.calls a0 (⟨#[111]⟩ : ByteArray) true _ A12.out).mono ?_); rintro e w' ⟨rfl, ⟨nd, rfl⟩⟩; refine ⟨_, rfl, ?_⟩))
                  go_meet
                  case rel => exact ⟨_, (false), (by first | rfl | (simp; done) | (simp [*]; done)), H', ⟨by first | omega | exact Nat.le_refl _⟩, by repeat (first | exact Drawn0.refl _ | apply Drawn0.step)⟩
              · replace c13 := Bool.eq_false_iff.mpr c13
                subst c13
                have H1 : (spec_Many.j0 k a0 false) = some r := by rw [if_neg (show ¬ (false = true) by decide)] at H; exact H
                clear H
                have H := H1
                clear H1
                have H' := Aside0.mk H
                clear H
                go_wp2_with (first | ((with_reducible refine gate_callee (f := 17) rfl ?_); refine goesL_ (some 10) rfl rfl Try.func17 (by kernel_rfl) rfl #[.string a0, .string (⟨#[115, 104]⟩ : ByteArray)] rfl (by (try simp only [List.map_toArray, List.map_cons, List.map_nil]); first | done | rfl | (simp only [List.length_drop, List.length_take]; rfl)) ?_; (with_reducible refine (spec_ends.calls a0 (⟨#[115, 104]⟩ : ByteArray) false _ A6.out).mono ?_); rintro e w' ⟨rfl, ⟨nd, rfl⟩⟩; refine ⟨_, rfl, ?_⟩) | ((with_reducible refine gate_callee (f := 17) rfl ?_); refine goesL_ (some 12) rfl rfl Try.func17 (by kernel_rfl) rfl #[.string a0, .string (⟨#[116, 99, 104]⟩ : ByteArray)] rfl (by (try simp only [List.map_toArray, List.map_cons, List.map_nil]); first | done | rfl | (simp only [List.length_drop, List.length_take]; rfl)) ?_; (with_reducible refine (spec_ends.calls a0 (⟨#[116, 99, 104]⟩ : ByteArray) false _ A8.out).mono ?_); rintro e w' ⟨rfl, ⟨nd, rfl⟩⟩; refine ⟨_, rfl, ?_⟩) | ((with_reducible refine gate_callee (f := 17) rfl ?_); refine goesL_ (some 14) rfl rfl Try.func17 (by kernel_rfl) rfl #[.string a0, .string (⟨#[120]⟩ : ByteArray)] rfl (by (try simp only [List.map_toArray, List.map_cons, List.map_nil]); first | done | rfl | (simp only [List.length_drop, List.length_take]; rfl)) ?_; (with_reducible refine (spec_ends.calls a0 (⟨#[120]⟩ : ByteArray) false _ A10.out).mono ?_); rintro e w' ⟨rfl, ⟨nd, rfl⟩⟩; refine ⟨_, rfl, ?_⟩) | ((with_reducible refine gate_callee (f := 17) rfl ?_); refine goesL_ (some 16) rfl rfl Try.func17 (by kernel_rfl) rfl #[.string a0, .string (⟨#[111]⟩ : ByteArray)] rfl (by (try simp only [List.map_toArray, List.map_cons, List.map_nil]); first | done | rfl | (simp only [List.length_drop, List.length_take]; rfl)) ?_; (with_reducible refine (spec_ends.calls a0 (⟨#[111]⟩ : ByteArray) false _ A12.out).mono ?_); rintro e w' ⟨rfl, ⟨nd, rfl⟩⟩; refine ⟨_, rfl, ?_⟩))
                go_meet
                case rel => exact ⟨_, (false), (by first | rfl | (simp; done) | (simp [*]; done)), H', ⟨by first | omega | exact Nat.le_refl _⟩, by repeat (first | exact Drawn0.refl _ | apply Drawn0.step)⟩
    case rest =>
      clear HC4
      try clear c1
      try clear c2
      try clear c2b0
      try clear c2b1
      try clear c2b2
      try clear p2
      try clear c5
      try clear c7
      try clear c9
      try clear c10
      try clear c11
      try clear c13
      try clear c14
      try clear c14b0
      try clear c14b1
      try clear c14b2
      obtain ⟨kq, x6_3, rfl, HA, HJ3, ⟨mc3, rfl⟩⟩ := hcut
      cases kq with
      | zero => exact absurd HA.out (by simp [spec_Many.j0])
      | succ kj3 =>
        have H := HA.out
        clear HA
        simp only [spec_Many.j0] at H
        by_cases c16 : x6_3 = true
        · subst c16
          have H1 : (if a0.size + 2 ≤ 9223372036854775807 then (some (a0 ++ (⟨#[101, 115]⟩ : ByteArray))) else (none)) = some r := by rw [if_pos rfl] at H; exact H
          clear H
          have H := H1
          clear H1
          by_cases c17 : a0.size + 2 ≤ 9223372036854775807
          · rw [if_pos c17] at H
            have c17b0 := eq_true c17
            have c17b1 : decide (a0.size + 2 ≤ 9223372036854775807) = true := decide_eq_true c17
            try have c17b2 : (9223372036854775807 < a0.size + 2) = False := eq_false (Nat.not_lt.2 c17)
            obtain rfl := Option.some.inj H
            go_wp2
            go_ret
            exact ⟨by first | rfl | (simp; done) | (simp [*]; done), by repeat (first | exact Drawn0.refl _ | apply Drawn0.step)⟩
          · rw [if_neg c17] at H
            exact absurd H (by simp)
        · replace c16 := Bool.eq_false_iff.mpr c16
          subst c16
          have H1 : ((spec_ends.f a0 (⟨#[121]⟩ : ByteArray)).bind fun t107 => (if t107 = true then (if (a0.size : Int) > 1 then ((spec_vowel.f a0 2).bind fun t108 => (if t108 = true then (if a0.size + 1 ≤ 9223372036854775807 then (some (a0 ++ (⟨#[115]⟩ : ByteArray))) else (none)) else (if 0 ≤ (wrap64 ((a0.size : Int) - 1)) then (if (wrap64 ((a0.size : Int) - 1)) ≤ (a0.size : Int) then (if (a0.extract 0 ((wrap64 ((a0.size : Int) - 1)) : Int).toNat).size + 3 ≤ 9223372036854775807 then (some ((a0.extract 0 ((wrap64 ((a0.size : Int) - 1)) : Int).toNat) ++ (⟨#[105, 101, 115]⟩ : ByteArray))) else (none)) else (none)) else (none)))) else (if a0.size + 1 ≤ 9223372036854775807 then (some (a0 ++ (⟨#[115]⟩ : ByteArray))) else (none))) else (if a0.size + 1 ≤ 9223372036854775807 then (some (a0 ++ (⟨#[115]⟩ : ByteArray))) else (none)))) = some r := by rw [if_neg (show ¬ (false = true) by decide)] at H; exact H
          clear H
          have H := H1
          clear H1
          replace H := Option.bind_eq_some_iff.mp H
          obtain ⟨t107, A180, H⟩ := H
          replace H : (if t107 = true then (if (a0.size : Int) > 1 then ((spec_vowel.f a0 2).bind fun t108 => (if t108 = true then (if a0.size + 1 ≤ 9223372036854775807 then (some (a0 ++ (⟨#[115]⟩ : ByteArray))) else (none)) else (if 0 ≤ (wrap64 ((a0.size : Int) - 1)) then (if (wrap64 ((a0.size : Int) - 1)) ≤ (a0.size : Int) then (if (a0.extract 0 ((wrap64 ((a0.size : Int) - 1)) : Int).toNat).size + 3 ≤ 9223372036854775807 then (some ((a0.extract 0 ((wrap64 ((a0.size : Int) - 1)) : Int).toNat) ++ (⟨#[105, 101, 115]⟩ : ByteArray))) else (none)) else (none)) else (none)))) else (if a0.size + 1 ≤ 9223372036854775807 then (some (a0 ++ (⟨#[115]⟩ : ByteArray))) else (none))) else (if a0.size + 1 ≤ 9223372036854775807 then (some (a0 ++ (⟨#[115]⟩ : ByteArray))) else (none))) = some r := H
          have A18 := Aside0.mk A180
          clear A180
          by_cases c19 : t107 = true
          · subst c19
            have H1 : (if (a0.size : Int) > 1 then ((spec_vowel.f a0 2).bind fun t108 => (if t108 = true then (if a0.size + 1 ≤ 9223372036854775807 then (some (a0 ++ (⟨#[115]⟩ : ByteArray))) else (none)) else (if 0 ≤ (wrap64 ((a0.size : Int) - 1)) then (if (wrap64 ((a0.size : Int) - 1)) ≤ (a0.size : Int) then (if (a0.extract 0 ((wrap64 ((a0.size : Int) - 1)) : Int).toNat).size + 3 ≤ 9223372036854775807 then (some ((a0.extract 0 ((wrap64 ((a0.size : Int) - 1)) : Int).toNat) ++ (⟨#[105, 101, 115]⟩ : ByteArray))) else (none)) else (none)) else (none)))) else (if a0.size + 1 ≤ 9223372036854775807 then (some (a0 ++ (⟨#[115]⟩ : ByteArray))) else (none))) = some r := by rw [if_pos rfl] at H; exact H
            clear H
            have H := H1
            clear H1
            by_cases c20 : (a0.size : Int) > 1
            · rw [if_pos c20] at H
              have c20b0 : decide (1 < (a0.size : Int)) = true := decide_eq_true c20
              have c20b1 : decide (1 < a0.size) = true := decide_eq_true (by omega)
              clear c20
              replace H := Option.bind_eq_some_iff.mp H
              obtain ⟨t108, A210, H⟩ := H
              replace H : (if t108 = true then (if a0.size + 1 ≤ 9223372036854775807 then (some (a0 ++ (⟨#[115]⟩ : ByteArray))) else (none)) else (if 0 ≤ (wrap64 ((a0.size : Int) - 1)) then (if (wrap64 ((a0.size : Int) - 1)) ≤ (a0.size : Int) then (if (a0.extract 0 ((wrap64 ((a0.size : Int) - 1)) : Int).toNat).size + 3 ≤ 9223372036854775807 then (some ((a0.extract 0 ((wrap64 ((a0.size : Int) - 1)) : Int).toNat) ++ (⟨#[105, 101, 115]⟩ : ByteArray))) else (none)) else (none)) else (none))) = some r := H
              have A21 := Aside0.mk A210
              clear A210
              by_cases c22 : t108 = true
              · subst c22
                have H1 : (if a0.size + 1 ≤ 9223372036854775807 then (some (a0 ++ (⟨#[115]⟩ : ByteArray))) else (none)) = some r := by rw [if_pos rfl] at H; exact H
                clear H
                have H := H1
                clear H1
                by_cases c23 : a0.size + 1 ≤ 9223372036854775807
                · rw [if_pos c23] at H
                  have c23b0 := eq_true c23
                  have c23b1 : decide (a0.size + 1 ≤ 9223372036854775807) = true := decide_eq_true c23
                  try have c23b2 : (9223372036854775807 < a0.size + 1) = False := eq_false (Nat.not_lt.2 c23)
                  obtain rfl := Option.some.inj H
                  go_wp2_with (first | ((with_reducible refine gate_callee (f := 17) rfl ?_); refine goesL_ (some 31) rfl rfl Try.func17 (by kernel_rfl) rfl #[.string a0, .string (⟨#[121]⟩ : ByteArray)] rfl (by (try simp only [List.map_toArray, List.map_cons, List.map_nil]); first | done | rfl | (simp only [List.length_drop, List.length_take]; rfl)) ?_; (with_reducible refine (spec_ends.calls a0 (⟨#[121]⟩ : ByteArray) true _ A18.out).mono ?_); rintro e w' ⟨rfl, ⟨nd, rfl⟩⟩; refine ⟨_, rfl, ?_⟩) | (go_at_call 18; (with_reducible refine (spec_vowel.calls a0 2 true _ A21.out).mono ?_); rintro e w' ⟨rfl, ⟨nd, rfl⟩⟩))
                  go_ret
                  exact ⟨by first | rfl | (simp; done) | (simp [*]; done), by repeat (first | exact Drawn0.refl _ | apply Drawn0.step)⟩
                · rw [if_neg c23] at H
                  exact absurd H (by simp)
              · replace c22 := Bool.eq_false_iff.mpr c22
                subst c22
                have H1 : (if 0 ≤ (wrap64 ((a0.size : Int) - 1)) then (if (wrap64 ((a0.size : Int) - 1)) ≤ (a0.size : Int) then (if (a0.extract 0 ((wrap64 ((a0.size : Int) - 1)) : Int).toNat).size + 3 ≤ 9223372036854775807 then (some ((a0.extract 0 ((wrap64 ((a0.size : Int) - 1)) : Int).toNat) ++ (⟨#[105, 101, 115]⟩ : ByteArray))) else (none)) else (none)) else (none)) = some r := by rw [if_neg (show ¬ (false = true) by decide)] at H; exact H
                clear H
                have H := H1
                clear H1
                obtain ⟨ji24, hji24⟩ : ∃ j_ : Int, (wrap64 ((a0.size : Int) - 1)) = j_ := ⟨_, rfl⟩
                replace H : (if 0 ≤ (ji24) then (if (ji24) ≤ (a0.size : Int) then (if (a0.extract 0 ((ji24) : Int).toNat).size + 3 ≤ 9223372036854775807 then (some ((a0.extract 0 ((ji24) : Int).toNat) ++ (⟨#[105, 101, 115]⟩ : ByteArray))) else (none)) else (none)) else (none)) = some r := by first | (rw [hji24] at H; exact H) | (simp only [hji24] at H ⊢; exact H)
                (try rw [hji24] at A18)
                (try rw [hji24] at A21)
                have hji24w : (IntKind.i64.wrap ((a0.size : Int) - 1)) = ji24 := (i64_w _).trans hji24
                by_cases c25 : 0 ≤ (ji24)
                · rw [if_pos c25] at H
                  have c25b0 := eq_true c25
                  have c25b1 : decide (0 ≤ (ji24)) = true := decide_eq_true c25
                  clear c25
                  by_cases c26 : (ji24) ≤ (a0.size : Int)
                  · rw [if_pos c26] at H
                    have c26b0 := eq_true c26
                    have c26b1 : decide ((ji24) ≤ (a0.size : Int)) = true := decide_eq_true c26
                    clear c26
                    by_cases c27 : (a0.extract 0 ((ji24) : Int).toNat).size + 3 ≤ 9223372036854775807
                    · rw [if_pos c27] at H
                      have c27b0 := eq_true c27
                      have c27b1 : decide ((a0.extract 0 ((ji24) : Int).toNat).size + 3 ≤ 9223372036854775807) = true := decide_eq_true c27
                      try have c27b2 : (9223372036854775807 < (a0.extract 0 ((ji24) : Int).toNat).size + 3) = False := eq_false (Nat.not_lt.2 c27)
                      try have c27b3 : (9223372036854775807 < (ji24).toNat + 3) = False := eq_false (by have h1_ : 0 ≤ (ji24) := of_decide_eq_true (by assumption); have h2_ : (ji24) ≤ (a0.size : Int) := of_decide_eq_true (by assumption); have h3_ := c27; rw [ByteArray.size_extract] at h3_; omega)
                      obtain rfl := Option.some.inj H
                      go_wp2_with (first | ((with_reducible refine gate_callee (f := 17) rfl ?_); refine goesL_ (some 31) rfl rfl Try.func17 (by kernel_rfl) rfl #[.string a0, .string (⟨#[121]⟩ : ByteArray)] rfl (by (try simp only [List.map_toArray, List.map_cons, List.map_nil]); first | done | rfl | (simp only [List.length_drop, List.length_take]; rfl)) ?_; (with_reducible refine (spec_ends.calls a0 (⟨#[121]⟩ : ByteArray) true _ A18.out).mono ?_); rintro e w' ⟨rfl, ⟨nd, rfl⟩⟩; refine ⟨_, rfl, ?_⟩) | (go_at_call 18; (with_reducible refine (spec_vowel.calls a0 2 false _ A21.out).mono ?_); rintro e w' ⟨rfl, ⟨nd, rfl⟩⟩))
                      go_ret
                      exact ⟨by first | rfl | (simp; done) | (simp only [← hji24] <;> (first | rfl | simp)) | (simp [*]; done), by repeat (first | exact Drawn0.refl _ | apply Drawn0.step)⟩
                    · rw [if_neg c27] at H
                      exact absurd H (by simp)
                  · rw [if_neg c26] at H
                    exact absurd H (by simp)
                · rw [if_neg c25] at H
                  exact absurd H (by simp)
            · rw [if_neg c20] at H
              have c20b0 : decide (1 < (a0.size : Int)) = false := decide_eq_false c20
              have c20b1 : decide (1 < a0.size) = false := decide_eq_false (by omega)
              clear c20
              by_cases c28 : a0.size + 1 ≤ 9223372036854775807
              · rw [if_pos c28] at H
                have c28b0 := eq_true c28
                have c28b1 : decide (a0.size + 1 ≤ 9223372036854775807) = true := decide_eq_true c28
                try have c28b2 : (9223372036854775807 < a0.size + 1) = False := eq_false (Nat.not_lt.2 c28)
                obtain rfl := Option.some.inj H
                go_wp2_with (first | ((with_reducible refine gate_callee (f := 17) rfl ?_); refine goesL_ (some 31) rfl rfl Try.func17 (by kernel_rfl) rfl #[.string a0, .string (⟨#[121]⟩ : ByteArray)] rfl (by (try simp only [List.map_toArray, List.map_cons, List.map_nil]); first | done | rfl | (simp only [List.length_drop, List.length_take]; rfl)) ?_; (with_reducible refine (spec_ends.calls a0 (⟨#[121]⟩ : ByteArray) true _ A18.out).mono ?_); rintro e w' ⟨rfl, ⟨nd, rfl⟩⟩; refine ⟨_, rfl, ?_⟩))
                go_ret
                exact ⟨by first | rfl | (simp; done) | (simp [*]; done), by repeat (first | exact Drawn0.refl _ | apply Drawn0.step)⟩
              · rw [if_neg c28] at H
                exact absurd H (by simp)
          · replace c19 := Bool.eq_false_iff.mpr c19
            subst c19
            have H1 : (if a0.size + 1 ≤ 9223372036854775807 then (some (a0 ++ (⟨#[115]⟩ : ByteArray))) else (none)) = some r := by rw [if_neg (show ¬ (false = true) by decide)] at H; exact H
            clear H
            have H := H1
            clear H1
            by_cases c29 : a0.size + 1 ≤ 9223372036854775807
            · rw [if_pos c29] at H
              have c29b0 := eq_true c29
              have c29b1 : decide (a0.size + 1 ≤ 9223372036854775807) = true := decide_eq_true c29
              try have c29b2 : (9223372036854775807 < a0.size + 1) = False := eq_false (Nat.not_lt.2 c29)
              obtain rfl := Option.some.inj H
              go_wp2_with (first | ((with_reducible refine gate_callee (f := 17) rfl ?_); refine goesL_ (some 31) rfl rfl Try.func17 (by kernel_rfl) rfl #[.string a0, .string (⟨#[121]⟩ : ByteArray)] rfl (by (try simp only [List.map_toArray, List.map_cons, List.map_nil]); first | done | rfl | (simp only [List.length_drop, List.length_take]; rfl)) ?_; (with_reducible refine (spec_ends.calls a0 (⟨#[121]⟩ : ByteArray) false _ A18.out).mono ?_); rintro e w' ⟨rfl, ⟨nd, rfl⟩⟩; refine ⟨_, rfl, ?_⟩))
              go_ret
              exact ⟨by first | rfl | (simp; done) | (simp [*]; done), by repeat (first | exact Drawn0.refl _ | apply Drawn0.step)⟩
            · rw [if_neg c29] at H
              exact absurd H (by simp)

end Go.Proofs.Ytmdgbbiipjmenaa.PFnPlural
