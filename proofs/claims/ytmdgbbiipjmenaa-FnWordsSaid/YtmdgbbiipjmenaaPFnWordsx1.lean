-- written by a program of this work
import Derived.Test.YtmdgbbiipjmenaaPFnWordsx0
namespace Go.Proofs.Ytmdgbbiipjmenaa.PFnWords
open Go.RowKit Go.Proofs.YtmdgbbiipjmenaaW.PrintWords Go.Proofs.YtmdgbbiipjmenaaW.PrintLast Go.Proofs.YtmdgbbiipjmenaaW.PrintMore
attribute [local go_sem] max2_int min2_int max_two min_two max_three min_three max_four min_four   -- for this text's walks alone
set_option linter.unusedVariables false
set_option linter.unusedSimpArgs false

/-! ### laws_zzFits1: function 5 -/
def laws_zzFits1.l0 : Nat → List (List Int) → Int → Int → Option (Bool)
  | 0, _, _, _ => none
  | k + 1, x8, x9, x10 => if x10 < x9 then (if 0 ≤ x10 then (if x10 < (x8.length : Int) then (if ((rd_L1 x8 x10).length : Int) > 2147483647 then (some false) else (laws_zzFits1.l0 k x8 x9 (wrap64 (x10 + 1)))) else (none)) else (none)) else (some true)
def laws_zzFits1.f (k : Nat) (l0 : List (List Int)) : Option (Bool) := if (l0.length : Int) > 2147483647 then (some false) else (laws_zzFits1.l0 k l0 (l0.length : Int) 0)
theorem laws_zzFits1.mono_l : ∀ k, (∀ y0 y1 y2, LeO (laws_zzFits1.l0 k y0 y1 y2) (laws_zzFits1.l0 (k + 1) y0 y1 y2))
  | 0 => fun _ _ _ r h => by simp [laws_zzFits1.l0] at h
  | k + 1 => by
    have ih0 := laws_zzFits1.mono_l k
    · intro y0 y1 y2
      unfold laws_zzFits1.l0
      repeat' first
      | (with_reducible exact ih0 _ _ _)
      | (with_reducible exact LeO.refl _)
      | (with_reducible exact LeO.none _)
      | (with_reducible refine LeO.ite ?_ ?_)
      | (with_reducible refine LeO.bind ?_ (fun _ => ?_))
      | exact ih0 _ _ _
      | exact LeO.none _
      | refine LeO.ite ?_ ?_
      | refine LeO.bind ?_ (fun _ => ?_)
theorem laws_zzFits1.mono : ∀ a0 k, LeO (laws_zzFits1.f k a0) (laws_zzFits1.f (k + 1) a0) := by
  intro a0 k
  have ih0 := laws_zzFits1.mono_l k
  unfold laws_zzFits1.f
  repeat' first
      | (with_reducible exact ih0 _ _ _)
      | (with_reducible exact LeO.refl _)
      | (with_reducible exact LeO.none _)
      | (with_reducible refine LeO.ite ?_ ?_)
      | (with_reducible refine LeO.bind ?_ (fun _ => ?_))
      | exact ih0 _ _ _
      | exact LeO.none _
      | refine LeO.ite ?_ ?_
      | refine LeO.bind ?_ (fun _ => ?_)
set_option maxHeartbeats 8000000 in
set_option maxRecDepth 100000 in
theorem laws_zzFits1.calls (k : Nat) (A0 : Option Addr) (c0 : Nat) (l0 : List (List Int)) (r : Bool) (w : World) (hr0 : Kd.C (Kd.slice 5 (Kd.int .u8)) w A0 l0.length l0) (hc0 : l0.length ≤ c0) (h : laws_zzFits1.f k l0 = some r) :
    Calls Try.prog 5 #[.slice A0 l0.length c0] w fun e w' => e = .returned (.bool r) ∧ Drawn0 w w' := by
  have HR0 := Aside0.mk hr0
  have HC0 := Aside0.mk hc0
  clear hr0 hc0
  have H : (if (l0.length : Int) > 2147483647 then (some false) else (laws_zzFits1.l0 k l0 (l0.length : Int) 0)) = some r := h
  clear h
  by_cases c2 : (l0.length : Int) > 2147483647
  · rw [if_pos c2] at H
    have c2b0 : decide (2147483647 < (l0.length : Int)) = true := decide_eq_true c2
    have c2b1 : decide (2147483647 < l0.length) = true := decide_eq_true (by omega)
    clear c2
    obtain rfl := Option.some.inj H
    go_enter Try.func5, Try.ntmps5
    go_wp2
    go_ret
    exact ⟨by first | rfl | (simp; done) | (simp [*]; done), by repeat (first | exact Drawn0.refl _ | apply Drawn0.step)⟩
  · rw [if_neg c2] at H
    have c2b0 : decide (2147483647 < (l0.length : Int)) = false := decide_eq_false c2
    have c2b1 : decide (2147483647 < l0.length) = false := decide_eq_false (by omega)
    clear c2
    have H' := Aside0.mk H
    clear H
    go_enter Try.func5, Try.ntmps5
    go_wp2
    go_loopg [10] k (fun kq v10 w' => ∃ (x10_1 : Int), v10 = .int .i64 x10_1 ∧ Aside0 (laws_zzFits1.l0 kq l0 (l0.length : Int) x10_1 = some r) ∧ Aside0 (kq ≤ k) ∧ Drawn0 w w')
    case atStart => exact ⟨(0), (by first | rfl | (simp; done) | (simp [*]; done)), H', ⟨Nat.le_refl _⟩, by repeat (first | exact Drawn0.refl _ | apply Drawn0.step)⟩
    case round =>
      clear H'
      try clear c2
      try clear c2b0
      try clear c2b1
      try clear p2
      obtain ⟨x10_1, rfl, HA, HK1, ⟨m1, rfl⟩⟩ := hrel
      cases gk with
      | zero => exact absurd HA.out (by simp [laws_zzFits1.l0])
      | succ k1 =>
        have H := HA.out
        clear HA
        simp only [laws_zzFits1.l0] at H
        by_cases c3 : x10_1 < (l0.length : Int)
        · rw [if_pos c3] at H
          have c3b0 : decide (x10_1 < (l0.length : Int)) = true := decide_eq_true c3
          clear c3
          by_cases c4 : 0 ≤ x10_1
          · rw [if_pos c4] at H
            have c4b0 : decide (0 ≤ x10_1) = true := decide_eq_true c4
            clear c4
            by_cases c5 : x10_1 < (l0.length : Int)
            · rw [if_pos c5] at H
              have c5b0 : decide (x10_1 < (l0.length : Int)) = true := decide_eq_true c5
              clear c5
              by_cases c6 : ((rd_L1 l0 x10_1).length : Int) > 2147483647
              · rw [if_pos c6] at H
                have c6b0 : decide (2147483647 < ((rd_L1 l0 x10_1).length : Int)) = true := decide_eq_true c6
                have c6b1 : decide (2147483647 < (rd_L1 l0 x10_1).length) = true := decide_eq_true (by omega)
                clear c6
                obtain rfl := Option.some.inj H
                have p101 : 0 ≤ (x10_1 : Int) := of_decide_eq_true (by first | (with_reducible assumption) | assumption)
                have q101 : x10_1 < (l0.length : Int) := of_decide_eq_true (by first | (with_reducible assumption) | assumption)
                obtain ⟨ad101, A101_0, c101_0, e101, hx101_0, hl101_0, hi101_0⟩ := at_L1 HR0.out x10_1 p101 q101
                cases e101
                have HR101_0 := Aside0.mk hi101_0
                have HC101_0 := Aside0.mk hl101_0
                clear hi101_0 hl101_0
                replace p101 := eq_true p101
                replace q101 := eq_true q101
                go_wp2
                go_ret
                exact ⟨by first | rfl | (simp; done) | (simp [*]; done), by repeat (first | exact Drawn0.refl _ | apply Drawn0.step)⟩
              · rw [if_neg c6] at H
                have c6b0 : decide (2147483647 < ((rd_L1 l0 x10_1).length : Int)) = false := decide_eq_false c6
                have c6b1 : decide (2147483647 < (rd_L1 l0 x10_1).length) = false := decide_eq_false (by omega)
                clear c6
                have H' := Aside0.mk H
                clear H
                have p101 : 0 ≤ (x10_1 : Int) := of_decide_eq_true (by first | (with_reducible assumption) | assumption)
                have q101 : x10_1 < (l0.length : Int) := of_decide_eq_true (by first | (with_reducible assumption) | assumption)
                obtain ⟨ad101, A101_0, c101_0, e101, hx101_0, hl101_0, hi101_0⟩ := at_L1 HR0.out x10_1 p101 q101
                cases e101
                have HR101_0 := Aside0.mk hi101_0
                have HC101_0 := Aside0.mk hl101_0
                clear hi101_0 hl101_0
                replace p101 := eq_true p101
                replace q101 := eq_true q101
                go_wp2
                go_roundg k1
                case measure => have := HK1.out; omega
                case rel => exact ⟨(wrap64 (x10_1 + 1)), (by first | rfl | (simp; done) | (simp [*]; done)), H', ⟨by have := HK1.out; omega⟩, by repeat (first | exact Drawn0.refl _ | apply Drawn0.step)⟩
            · rw [if_neg c5] at H
              exact absurd H (by simp)
          · rw [if_neg c4] at H
            exact absurd H (by simp)
        · rw [if_neg c3] at H
          have c3b0 : decide (x10_1 < (l0.length : Int)) = false := decide_eq_false c3
          clear c3
          obtain rfl := Option.some.inj H
          go_wp2
          go_ret
          exact ⟨by first | rfl | (simp; done) | (simp [*]; done), by repeat (first | exact Drawn0.refl _ | apply Drawn0.step)⟩

/-! ### laws_wordOf: function 6 -/
def wordL (zs : List Int) : List UInt8 := zs.map (fun z => UInt8.ofNat (97 + z % 26).toNat)
theorem wordL_len (zs : List Int) (k : Nat) : (wordL (zs.take k)).length ≤ k := by
  unfold wordL; simp; omega
theorem enc_small (r : Int) (h0 : 0 ≤ r) (h1 : r < 128) : Utf8.encode r = ⟨#[UInt8.ofNat r.toNat]⟩ := by
  have hv : Utf8.valid r = true := by unfold Utf8.valid; simp; omega
  unfold Utf8.encode
  simp only [hv, if_true]
  rw [if_pos (by omega)]
theorem word_step (zs : List Int) (k : Nat) (hk : k < zs.length) (z : Int) (hz : zs.getD k 0 = z) (h0 : 0 ≤ z) :
    (⟨(wordL (zs.take k)).toArray⟩ : ByteArray) ++ Utf8.encode (97 + z % 26) = ⟨(wordL (zs.take (k + 1))).toArray⟩ := by
  have hz : zs[k] = z := by rw [← hz]; simp [hk]
  rw [enc_small _ (by omega) (by omega)]
  unfold wordL
  rw [List.take_succ_eq_append_getElem hk, List.map_append, hz]
  apply ByteArray.ext
  simp
theorem ret_strE {a b : ByteArray} (h : a = b) : Ending.returned (.string a) = .returned (.string b) := by rw [h]
def laws_wordOf.f (_k : Nat) (l0 : List Int) : Option ByteArray :=
  if ∀ z ∈ l0, 0 ≤ z ∧ z ≤ 255 then some ⟨(wordL (l0.take 8)).toArray⟩ else none
theorem laws_wordOf.mono : ∀ a0 k, LeO (laws_wordOf.f k a0) (laws_wordOf.f (k + 1) a0) := fun _ _ => LeO.refl _
set_option maxHeartbeats 1000000 in
theorem laws_wordOf.calls (k : Nat) (A0 : Option Addr) (c0 : Nat) (l0 : List Int) (r : ByteArray) (w : World) (hr0 : Kd.C (Kd.int .u8) w A0 l0.length l0) (hc0 : l0.length ≤ c0) (h : laws_wordOf.f k l0 = some r) :
    Calls Try.prog 6 #[.slice A0 l0.length c0] w fun e w' => e = .returned (.string r) ∧ Drawn0 w w' := by
  unfold laws_wordOf.f at h
  by_cases hb : ∀ z ∈ l0, 0 ≤ z ∧ z ≤ 255
  case neg => rw [if_neg hb] at h; cases h
  rw [if_pos hb] at h
  have hr : r = ⟨(wordL (l0.take 8)).toArray⟩ := (Option.some.inj h).symm
  have HR := Lib.hid hr
  have HC := Lib.hid hr0
  have HB := Lib.hid hb
  have hlen : l0.length ≤ 9223372036854775807 := hr0.2.1
  clear h hr hr0 hb
  go_enter Try.func6, Try.ntmps6
  go_wp2
  all_goals
    go_loop [3, 12] (fun o i => ∃ k : Nat, k ≤ min l0.length 8 ∧ i = .int .i64 k ∧ o = .string ⟨(wordL (l0.take k)).toArray⟩) (fun _ i => 8 - (intOf i).toNat)
    case atStart => exact ⟨0, Nat.zero_le _, rfl, rfl⟩
    case round =>
      obtain ⟨k, hk, rfl, rfl⟩ := hrel
      by_cases hlt : k < min l0.length 8
      · obtain ⟨ad, he, hcell⟩ := Kd.at_int HC.out (k : Int) (by omega) (by omega)
        subst he
        have hk8 : k < 8 := by omega
        have hkl : k < l0.length := by omega
        have hwk : 0 ≤ l0.getD k 0 ∧ l0.getD k 0 ≤ 255 := by
          have := HB.out l0[k] (by simp)
          simpa [hkl] using this
        obtain ⟨z, hz⟩ : ∃ z, l0.getD k 0 = z := ⟨_, rfl⟩
        rw [hz] at hwk
        have b1 := wordL_len l0 k
        have b2 := encode_size_le (97 + z % 26)
        have hst := Lib.hid (word_step l0 k (by omega) z hz hwk.1)
        have hcell2 : w.cell? (ad.add k) = some (.int .u8 z) := by rw [← hz]; exact hcell
        clear hz
        clear hlt hk hcell
        go_wp2
        go_round
        case rel => exact ⟨k + 1, by omega, by go_num, by rw [hst.out]⟩
        case measure => simp [intOf]; omega
      · have hk8 : k = min l0.length 8 := by omega
        have H : Hid (l0.take k = l0.take 8) := by
          show l0.take k = l0.take 8
          rw [hk8]
          by_cases h8 : l0.length ≤ 8
          · rw [Nat.min_eq_left h8, List.take_of_length_le (Nat.le_refl _), List.take_of_length_le h8]
          · rw [Nat.min_eq_right (by omega)]
        clear hk8
        go_wp2
        go_ret
        exact ⟨ret_strE (by rw [HR.out, H.out]), Drawn0.refl _⟩


/-! ### impl_isText: function 14 -/
mutual
def impl_isText.l0 : Nat → Bool → List ByteArray → List ByteArray → Int → Int → Option (Bool)
  | 0, _, _, _, _, _ => none
  | k + 1, x0, x1, x8, x9, x10 => if x10 < x9 then (if 0 ≤ x10 then (if x10 < (x8.length : Int) then (impl_isText.l1 k x0 x1 (rdOf ByteArray.empty x8 x10) 0 x8 x9 x10) else (none)) else (none)) else (some (decide ((x1.length : Int) ≤ 20)))
def impl_isText.l1 : Nat → Bool → List ByteArray → ByteArray → Int → List ByteArray → Int → Int → Option (Bool)
  | 0, _, _, _, _, _, _, _ => none
  | k + 1, x0, x1, x6, x7, x8, x9, x10 => if x7 < (x6.size : Int) then (if x0 = true then (if 0 ≤ x7 then (if (bt x6 x7) > 127 then (some false) else (impl_isText.l1 k x0 x1 x6 (wrap64 (x7 + 1)) x8 x9 x10)) else (none)) else (impl_isText.l1 k x0 x1 x6 (wrap64 (x7 + 1)) x8 x9 x10)) else (if (x6.size : Int) > 200 then (some false) else (impl_isText.l0 k x0 x1 x8 x9 (wrap64 (x10 + 1))))
end
def impl_isText.f (k : Nat) (a0 : Bool) (l1 : List ByteArray) : Option (Bool) := impl_isText.l0 k a0 l1 l1 (l1.length : Int) 0
theorem impl_isText.mono_l : ∀ k, (∀ y0 y1 y2 y3 y4, LeO (impl_isText.l0 k y0 y1 y2 y3 y4) (impl_isText.l0 (k + 1) y0 y1 y2 y3 y4)) ∧ (∀ y0 y1 y2 y3 y4 y5 y6, LeO (impl_isText.l1 k y0 y1 y2 y3 y4 y5 y6) (impl_isText.l1 (k + 1) y0 y1 y2 y3 y4 y5 y6))
  | 0 => ⟨fun _ _ _ _ _ r h => by simp [impl_isText.l0] at h, fun _ _ _ _ _ _ _ r h => by simp [impl_isText.l1] at h⟩
  | k + 1 => by
    obtain ⟨ih0, ih1⟩ := impl_isText.mono_l k
    refine ⟨?_, ?_⟩
    · intro y0 y1 y2 y3 y4
      unfold impl_isText.l0
      repeat' first
      | (with_reducible exact ih0 _ _ _ _ _)
      | (with_reducible exact ih1 _ _ _ _ _ _ _)
      | (with_reducible exact LeO.refl _)
      | (with_reducible exact LeO.none _)
      | (with_reducible refine LeO.ite ?_ ?_)
      | (with_reducible refine LeO.bind ?_ (fun _ => ?_))
      | exact ih0 _ _ _ _ _
      | exact ih1 _ _ _ _ _ _ _
      | exact LeO.none _
      | refine LeO.ite ?_ ?_
      | refine LeO.bind ?_ (fun _ => ?_)
    · intro y0 y1 y2 y3 y4 y5 y6
      unfold impl_isText.l1
      repeat' first
      | (with_reducible exact ih0 _ _ _ _ _)
      | (with_reducible exact ih1 _ _ _ _ _ _ _)
      | (with_reducible exact LeO.refl _)
      | (with_reducible exact LeO.none _)
      | (with_reducible refine LeO.ite ?_ ?_)
      | (with_reducible refine LeO.bind ?_ (fun _ => ?_))
      | exact ih0 _ _ _ _ _
      | exact ih1 _ _ _ _ _ _ _
      | exact LeO.none _
      | refine LeO.ite ?_ ?_
      | refine LeO.bind ?_ (fun _ => ?_)
theorem impl_isText.mono : ∀ a0 a1 k, LeO (impl_isText.f k a0 a1) (impl_isText.f (k + 1) a0 a1) := by
  intro a0 a1 k
  obtain ⟨ih0, ih1⟩ := impl_isText.mono_l k
  unfold impl_isText.f
  repeat' first
      | (with_reducible exact ih0 _ _ _ _ _)
      | (with_reducible exact ih1 _ _ _ _ _ _ _)
      | (with_reducible exact LeO.refl _)
      | (with_reducible exact LeO.none _)
      | (with_reducible refine LeO.ite ?_ ?_)
      | (with_reducible refine LeO.bind ?_ (fun _ => ?_))
      | exact ih0 _ _ _ _ _
      | exact ih1 _ _ _ _ _ _ _
      | exact LeO.none _
      | refine LeO.ite ?_ ?_
      | refine LeO.bind ?_ (fun _ => ?_)
set_option maxHeartbeats 8000000 in
set_option maxRecDepth 100000 in
theorem impl_isText.calls (k : Nat) (a0 : Bool) (A1 : Option Addr) (c1 : Nat) (l1 : List ByteArray) (r : Bool) (w : World) (hr1 : Kd.C Kd.string w A1 l1.length l1) (hc1 : l1.length ≤ c1) (h : impl_isText.f k a0 l1 = some r) :
    Calls Try.prog 14 #[.bool a0, .slice A1 l1.length c1] w fun e w' => e = .returned (.bool r) ∧ Drawn0 w w' := by
  have HR1 := Aside0.mk hr1
  have HC1 := Aside0.mk hc1
  clear hr1 hc1
  have H : (impl_isText.l0 k a0 l1 l1 (l1.length : Int) 0) = some r := h
  clear h
  have H' := Aside0.mk H
  clear H
  go_enter Try.func14, Try.ntmps14
  go_wp2
  go_loopg [10] k (fun kq v10 w' => ∃ (x10_1 : Int), v10 = .int .i64 x10_1 ∧ Aside0 (impl_isText.l0 kq a0 l1 l1 (l1.length : Int) x10_1 = some r) ∧ Aside0 (kq ≤ k) ∧ Drawn0 w w')
  case atStart => exact ⟨(0), (by first | rfl | (simp; done) | (simp [*]; done)), H', ⟨Nat.le_refl _⟩, by repeat (first | exact Drawn0.refl _ | apply Drawn0.step)⟩
  case round =>
    clear H'
    try clear c1
    try clear p2
    obtain ⟨x10_1, rfl, HA, HK1, ⟨m1, rfl⟩⟩ := hrel
    cases gk with
    | zero => exact absurd HA.out (by simp [impl_isText.l0])
    | succ k1 =>
      have H := HA.out
      clear HA
      simp only [impl_isText.l0] at H
      by_cases c3 : x10_1 < (l1.length : Int)
      · rw [if_pos c3] at H
        have c3b0 : decide (x10_1 < (l1.length : Int)) = true := decide_eq_true c3
        clear c3
        by_cases c4 : 0 ≤ x10_1
        · rw [if_pos c4] at H
          have c4b0 : decide (0 ≤ x10_1) = true := decide_eq_true c4
          clear c4
          by_cases c5 : x10_1 < (l1.length : Int)
          · rw [if_pos c5] at H
            have c5b0 : decide (x10_1 < (l1.length : Int)) = true := decide_eq_true c5
            clear c5
            have H' := Aside0.mk H
            clear H
            have p102 : 0 ≤ (x10_1 : Int) := of_decide_eq_true (by first | (with_reducible assumption) | assumption)
            have q102 : x10_1 < (l1.length : Int) := of_decide_eq_true (by first | (with_reducible assumption) | assumption)
            obtain ⟨ad102, e102, hx102_0⟩ := Kd.at_string HR1.out x10_1 p102 q102
            cases e102
            replace p102 := eq_true p102
            replace q102 := eq_true q102
            go_wp2
            go_loopg [7] k1 (fun kq v7 w' => ∃ (x7_2 : Int), v7 = .int .i64 x7_2 ∧ Aside0 (impl_isText.l1 kq a0 l1 (rdOf ByteArray.empty l1 x10_1) x7_2 l1 (l1.length : Int) x10_1 = some r) ∧ Aside0 (kq ≤ k1) ∧ Drawn0 w w')
            case atStart => exact ⟨(0), (by first | rfl | (simp; done) | (simp [*]; done)), H', ⟨Nat.le_refl _⟩, by repeat (first | exact Drawn0.refl _ | apply Drawn0.step)⟩
            case round =>
              clear H'
              try clear c1
              try clear p1
              try clear q1
              try clear hx1
              try clear p2
              try clear c3
              try clear c3b0
              try clear c4
              try clear c4b0
              try clear c5
              try clear c5b0
              try clear hx102_0
              try clear p102
              try clear p2
              try clear q102
              obtain ⟨x7_2, rfl, HA, HK2, ⟨m2, rfl⟩⟩ := hrel
              cases gk with
              | zero => exact absurd HA.out (by simp [impl_isText.l1])
              | succ k2 =>
                have H := HA.out
                clear HA
                simp only [impl_isText.l1] at H
                by_cases c6 : x7_2 < ((rdOf ByteArray.empty l1 x10_1).size : Int)
                · rw [if_pos c6] at H
                  have c6b0 : decide (x7_2 < ((rdOf ByteArray.empty l1 x10_1).size : Int)) = true := decide_eq_true c6
                  clear c6
                  by_cases c7 : a0 = true
                  · subst c7
                    have H1 : (if 0 ≤ x7_2 then (if (bt (rdOf ByteArray.empty l1 x10_1) x7_2) > 127 then (some false) else (impl_isText.l1 k2 true l1 (rdOf ByteArray.empty l1 x10_1) (wrap64 (x7_2 + 1)) l1 (l1.length : Int) x10_1)) else (none)) = some r := by rw [if_pos rfl] at H; exact H
                    clear H
                    have H := H1
                    clear H1
                    by_cases c8 : 0 ≤ x7_2
                    · rw [if_pos c8] at H
                      have c8b0 : decide (0 ≤ x7_2) = true := decide_eq_true c8
                      clear c8
                      by_cases c10 : (bt (rdOf ByteArray.empty l1 x10_1) x7_2) > 127
                      · rw [if_pos c10] at H
                        have c10b0 : decide (127 < (bt (rdOf ByteArray.empty l1 x10_1) x7_2)) = true := decide_eq_true c10
                        clear c10
                        obtain rfl := Option.some.inj H
                        have p9 : 0 ≤ (x7_2 : Int) := of_decide_eq_true (by first | (with_reducible assumption) | assumption)
                        have q9 : x7_2 < ((rdOf ByteArray.empty l1 x10_1).size : Int) := of_decide_eq_true (by first | (with_reducible assumption) | assumption)
                        have hx9 := bt_at (rdOf ByteArray.empty l1 x10_1) x7_2
                        replace p9 := eq_true p9
                        replace q9 := eq_true q9
                        go_wp2
                        go_ret
                        exact ⟨by first | rfl | (simp; done) | (simp [*]; done), by repeat (first | exact Drawn0.refl _ | apply Drawn0.step)⟩
                      · rw [if_neg c10] at H
                        have c10b0 : decide (127 < (bt (rdOf ByteArray.empty l1 x10_1) x7_2)) = false := decide_eq_false c10
                        clear c10
                        have H' := Aside0.mk H
                        clear H
                        have p9 : 0 ≤ (x7_2 : Int) := of_decide_eq_true (by first | (with_reducible assumption) | assumption)
                        have q9 : x7_2 < ((rdOf ByteArray.empty l1 x10_1).size : Int) := of_decide_eq_true (by first | (with_reducible assumption) | assumption)
                        have hx9 := bt_at (rdOf ByteArray.empty l1 x10_1) x7_2
                        replace p9 := eq_true p9
                        replace q9 := eq_true q9
                        go_wp2
                        go_roundg k2
                        case measure => have := HK1.out; have := HK2.out; omega
                        case rel => exact ⟨(wrap64 (x7_2 + 1)), (by first | rfl | (simp; done) | (simp [*]; done)), H', ⟨by have := HK1.out; have := HK2.out; omega⟩, by repeat (first | exact Drawn0.refl _ | apply Drawn0.step)⟩
                    · rw [if_neg c8] at H
                      exact absurd H (by simp)
                  · replace c7 := Bool.eq_false_iff.mpr c7
                    subst c7
                    have H1 : (impl_isText.l1 k2 false l1 (rdOf ByteArray.empty l1 x10_1) (wrap64 (x7_2 + 1)) l1 (l1.length : Int) x10_1) = some r := by rw [if_neg (show ¬ (false = true) by decide)] at H; exact H
                    clear H
                    have H := H1
                    clear H1
                    have H' := Aside0.mk H
                    clear H
                    go_wp2
                    go_roundg k2
                    case measure => have := HK1.out; have := HK2.out; omega
                    case rel => exact ⟨(wrap64 (x7_2 + 1)), (by first | rfl | (simp; done) | (simp [*]; done)), H', ⟨by have := HK1.out; have := HK2.out; omega⟩, by repeat (first | exact Drawn0.refl _ | apply Drawn0.step)⟩
                · rw [if_neg c6] at H
                  have c6b0 : decide (x7_2 < ((rdOf ByteArray.empty l1 x10_1).size : Int)) = false := decide_eq_false c6
                  clear c6
                  by_cases c11 : ((rdOf ByteArray.empty l1 x10_1).size : Int) > 200
                  · rw [if_pos c11] at H
                    have c11b0 : decide (200 < ((rdOf ByteArray.empty l1 x10_1).size : Int)) = true := decide_eq_true c11
                    have c11b1 : decide (200 < (rdOf ByteArray.empty l1 x10_1).size) = true := decide_eq_true (by omega)
                    clear c11
                    obtain rfl := Option.some.inj H
                    go_wp2
                    go_ret
                    exact ⟨by first | rfl | (simp; done) | (simp [*]; done), by repeat (first | exact Drawn0.refl _ | apply Drawn0.step)⟩
                  · rw [if_neg c11] at H
                    have c11b0 : decide (200 < ((rdOf ByteArray.empty l1 x10_1).size : Int)) = false := decide_eq_false c11
                    have c11b1 : decide (200 < (rdOf ByteArray.empty l1 x10_1).size) = false := decide_eq_false (by omega)
                    clear c11
                    have H' := Aside0.mk H
                    clear H
                    go_wp2
                    go_roundg k2
                    case measure => have := HK1.out; have := HK2.out; omega
                    case rel => exact ⟨(wrap64 (x10_1 + 1)), (by first | rfl | (simp; done) | (simp [*]; done)), H', ⟨by have := HK1.out; have := HK2.out; omega⟩, by repeat (first | exact Drawn0.refl _ | apply Drawn0.step)⟩
          · rw [if_neg c5] at H
            exact absurd H (by simp)
        · rw [if_neg c4] at H
          exact absurd H (by simp)
      · rw [if_neg c3] at H
        have c3b0 : decide (x10_1 < (l1.length : Int)) = false := decide_eq_false c3
        clear c3
        obtain rfl := Option.some.inj H
        go_wp2
        go_ret
        exact ⟨by first | rfl | (simp; done) | (simp [*]; done), by repeat (first | exact Drawn0.refl _ | apply Drawn0.step)⟩

/-! ### english_zzJoin: function 23 -/
def english_zzJoin.l0 : Nat → ByteArray → ByteArray → List ByteArray → Int → Int → Option (ByteArray)
  | 0, _, _, _, _, _ => none
  | k + 1, x1, x5, x8, x9, x10 => if x10 < x9 then (if 0 ≤ x10 then (if x10 < (x8.length : Int) then (if x10 > 0 then (if x5.size + x1.size ≤ 9223372036854775807 then (if (x5 ++ x1).size + (rdOf ByteArray.empty x8 x10).size ≤ 9223372036854775807 then (english_zzJoin.l0 k x1 ((x5 ++ x1) ++ (rdOf ByteArray.empty x8 x10)) x8 x9 (wrap64 (x10 + 1))) else (none)) else (none)) else (if x5.size + (rdOf ByteArray.empty x8 x10).size ≤ 9223372036854775807 then (english_zzJoin.l0 k x1 (x5 ++ (rdOf ByteArray.empty x8 x10)) x8 x9 (wrap64 (x10 + 1))) else (none))) else (none)) else (none)) else (some x5)
def english_zzJoin.f (k : Nat) (l0 : List ByteArray) (a1 : ByteArray) : Option (ByteArray) := english_zzJoin.l0 k a1 (⟨#[]⟩ : ByteArray) l0 (l0.length : Int) 0
theorem english_zzJoin.mono_l : ∀ k, (∀ y0 y1 y2 y3 y4, LeO (english_zzJoin.l0 k y0 y1 y2 y3 y4) (english_zzJoin.l0 (k + 1) y0 y1 y2 y3 y4))
  | 0 => fun _ _ _ _ _ r h => by simp [english_zzJoin.l0] at h
  | k + 1 => by
    have ih0 := english_zzJoin.mono_l k
    · intro y0 y1 y2 y3 y4
      unfold english_zzJoin.l0
      repeat' first
      | (with_reducible exact ih0 _ _ _ _ _)
      | (with_reducible exact LeO.refl _)
      | (with_reducible exact LeO.none _)
      | (with_reducible refine LeO.ite ?_ ?_)
      | (with_reducible refine LeO.bind ?_ (fun _ => ?_))
      | exact ih0 _ _ _ _ _
      | exact LeO.none _
      | refine LeO.ite ?_ ?_
      | refine LeO.bind ?_ (fun _ => ?_)
theorem english_zzJoin.mono : ∀ a0 a1 k, LeO (english_zzJoin.f k a0 a1) (english_zzJoin.f (k + 1) a0 a1) := by
  intro a0 a1 k
  have ih0 := english_zzJoin.mono_l k
  unfold english_zzJoin.f
  repeat' first
      | (with_reducible exact ih0 _ _ _ _ _)
      | (with_reducible exact LeO.refl _)
      | (with_reducible exact LeO.none _)
      | (with_reducible refine LeO.ite ?_ ?_)
      | (with_reducible refine LeO.bind ?_ (fun _ => ?_))
      | exact ih0 _ _ _ _ _
      | exact LeO.none _
      | refine LeO.ite ?_ ?_
      | refine LeO.bind ?_ (fun _ => ?_)
set_option maxHeartbeats 8000000 in
set_option maxRecDepth 100000 in
theorem english_zzJoin.calls (k : Nat) (A0 : Option Addr) (c0 : Nat) (l0 : List ByteArray) (a1 : ByteArray) (r : ByteArray) (w : World) (hr0 : Kd.C Kd.string w A0 l0.length l0) (hc0 : l0.length ≤ c0) (h : english_zzJoin.f k l0 a1 = some r) :
    Calls Try.prog 23 #[.slice A0 l0.length c0, .string a1] w fun e w' => e = .returned (.string r) ∧ Drawn0 w w' := by
  have HR0 := Aside0.mk hr0
  have HC0 := Aside0.mk hc0
  clear hr0 hc0
  have H : (english_zzJoin.l0 k a1 (⟨#[]⟩ : ByteArray) l0 (l0.length : Int) 0) = some r := h
  clear h
  have H' := Aside0.mk H
  clear H
  go_enter Try.func23, Try.ntmps23
  go_wp2
  go_loopg [5, 10] k (fun kq v5 v10 w' => ∃ (x5_1 : ByteArray) (x10_1 : Int), v5 = .string x5_1 ∧ v10 = .int .i64 x10_1 ∧ Aside0 (english_zzJoin.l0 kq a1 x5_1 l0 (l0.length : Int) x10_1 = some r) ∧ Aside0 (kq ≤ k) ∧ Drawn0 w w')
  case atStart => exact ⟨((⟨#[]⟩ : ByteArray)), (0), (by first | rfl | (simp; done) | (simp [*]; done)), (by first | rfl | (simp; done) | (simp [*]; done)), H', ⟨Nat.le_refl _⟩, by repeat (first | exact Drawn0.refl _ | apply Drawn0.step)⟩
  case round =>
    clear H'
    try clear c2
    try clear p2
    obtain ⟨x5_1, x10_1, rfl, rfl, HA, HK1, ⟨m1, rfl⟩⟩ := hrel
    cases gk with
    | zero => exact absurd HA.out (by simp [english_zzJoin.l0])
    | succ k1 =>
      have H := HA.out
      clear HA
      simp only [english_zzJoin.l0] at H
      by_cases c3 : x10_1 < (l0.length : Int)
      · rw [if_pos c3] at H
        have c3b0 : decide (x10_1 < (l0.length : Int)) = true := decide_eq_true c3
        clear c3
        by_cases c4 : 0 ≤ x10_1
        · rw [if_pos c4] at H
          have c4b0 : decide (0 ≤ x10_1) = true := decide_eq_true c4
          clear c4
          by_cases c5 : x10_1 < (l0.length : Int)
          · rw [if_pos c5] at H
            have c5b0 : decide (x10_1 < (l0.length : Int)) = true := decide_eq_true c5
            clear c5
            by_cases c6 : x10_1 > 0
            · rw [if_pos c6] at H
              have c6b0 : decide (0 < x10_1) = true := decide_eq_true c6
              clear c6
              by_cases c7 : x5_1.size + a1.size ≤ 9223372036854775807
              · rw [if_pos c7] at H
                have c7b0 := eq_true c7
                have c7b1 : decide (x5_1.size + a1.size ≤ 9223372036854775807) = true := decide_eq_true c7
                try have c7b2 : (9223372036854775807 < x5_1.size + a1.size) = False := eq_false (Nat.not_lt.2 c7)
                by_cases c8 : (x5_1 ++ a1).size + (rdOf ByteArray.empty l0 x10_1).size ≤ 9223372036854775807
                · rw [if_pos c8] at H
                  have c8b0 := eq_true c8
                  have c8b1 : decide ((x5_1 ++ a1).size + (rdOf ByteArray.empty l0 x10_1).size ≤ 9223372036854775807) = true := decide_eq_true c8
                  try have c8b2 : (9223372036854775807 < (x5_1 ++ a1).size + (rdOf ByteArray.empty l0 x10_1).size) = False := eq_false (Nat.not_lt.2 c8)
                  try have c8n0 : (9223372036854775807 < x5_1.size + a1.size + (rdOf ByteArray.empty l0 x10_1).size) = False := eq_false (by have h_ := c8; (try simp only [ByteArray.size_append] at h_); omega)
                  have H' := Aside0.mk H
                  clear H
                  have p103 : 0 ≤ (x10_1 : Int) := of_decide_eq_true (by first | (with_reducible assumption) | assumption)
                  have q103 : x10_1 < (l0.length : Int) := of_decide_eq_true (by first | (with_reducible assumption) | assumption)
                  obtain ⟨ad103, e103, hx103_0⟩ := Kd.at_string HR0.out x10_1 p103 q103
                  cases e103
                  replace p103 := eq_true p103
                  replace q103 := eq_true q103
                  go_wp2
                  go_roundg k1
                  case measure => have := HK1.out; omega
                  case rel => exact ⟨((x5_1 ++ a1) ++ (rdOf ByteArray.empty l0 x10_1)), (wrap64 (x10_1 + 1)), (by first | rfl | (simp; done) | (simp [*]; done)), (by first | rfl | (simp; done) | (simp [*]; done)), H', ⟨by have := HK1.out; omega⟩, by repeat (first | exact Drawn0.refl _ | apply Drawn0.step)⟩
                · rw [if_neg c8] at H
                  exact absurd H (by simp)
              · rw [if_neg c7] at H
                exact absurd H (by simp)
            · rw [if_neg c6] at H
              have c6b0 : decide (0 < x10_1) = false := decide_eq_false c6
              clear c6
              by_cases c9 : x5_1.size + (rdOf ByteArray.empty l0 x10_1).size ≤ 9223372036854775807
              · rw [if_pos c9] at H
                have c9b0 := eq_true c9
                have c9b1 : decide (x5_1.size + (rdOf ByteArray.empty l0 x10_1).size ≤ 9223372036854775807) = true := decide_eq_true c9
                try have c9b2 : (9223372036854775807 < x5_1.size + (rdOf ByteArray.empty l0 x10_1).size) = False := eq_false (Nat.not_lt.2 c9)
                have H' := Aside0.mk H
                clear H
                have p103 : 0 ≤ (x10_1 : Int) := of_decide_eq_true (by first | (with_reducible assumption) | assumption)
                have q103 : x10_1 < (l0.length : Int) := of_decide_eq_true (by first | (with_reducible assumption) | assumption)
                obtain ⟨ad103, e103, hx103_0⟩ := Kd.at_string HR0.out x10_1 p103 q103
                cases e103
                replace p103 := eq_true p103
                replace q103 := eq_true q103
                go_wp2
                go_roundg k1
                case measure => have := HK1.out; omega
                case rel => exact ⟨(x5_1 ++ (rdOf ByteArray.empty l0 x10_1)), (wrap64 (x10_1 + 1)), (by first | rfl | (simp; done) | (simp [*]; done)), (by first | rfl | (simp; done) | (simp [*]; done)), H', ⟨by have := HK1.out; omega⟩, by repeat (first | exact Drawn0.refl _ | apply Drawn0.step)⟩
              · rw [if_neg c9] at H
                exact absurd H (by simp)
          · rw [if_neg c5] at H
            exact absurd H (by simp)
        · rw [if_neg c4] at H
          exact absurd H (by simp)
      · rw [if_neg c3] at H
        have c3b0 : decide (x10_1 < (l0.length : Int)) = false := decide_eq_false c3
        clear c3
        obtain rfl := Option.some.inj H
        go_wp2
        go_ret
        exact ⟨by first | rfl | (simp; done) | (simp [*]; done), by repeat (first | exact Drawn0.refl _ | apply Drawn0.step)⟩

/-! ### english_WordSeries: function 15 -/
def english_WordSeries.f (k : Nat) (l0 : List ByteArray) (a1 : ByteArray) : Option (ByteArray) := if (l0.length : Int) = 0 then (some (⟨#[]⟩ : ByteArray)) else (if (l0.length : Int) = 1 then (if 0 < (l0.length : Int) then (some (rdOf ByteArray.empty l0 0)) else (none)) else (if 0 ≤ (wrap64 ((l0.length : Int) - 1)) then (if (wrap64 ((l0.length : Int) - 1)) ≤ (l0.length : Int) then ((english_zzJoin.f k (l0.take ((wrap64 ((l0.length : Int) - 1)) : Int).toNat) (⟨#[44, 32]⟩ : ByteArray)).bind fun t106 => (if t106.size + 1 ≤ 9223372036854775807 then (if (t106 ++ (⟨#[32]⟩ : ByteArray)).size + a1.size ≤ 9223372036854775807 then (if ((t106 ++ (⟨#[32]⟩ : ByteArray)) ++ a1).size + 1 ≤ 9223372036854775807 then (if (wrap64 ((l0.length : Int) - 1)) < (l0.length : Int) then (if (((t106 ++ (⟨#[32]⟩ : ByteArray)) ++ a1) ++ (⟨#[32]⟩ : ByteArray)).size + (rdOf ByteArray.empty l0 (wrap64 ((l0.length : Int) - 1))).size ≤ 9223372036854775807 then (some ((((t106 ++ (⟨#[32]⟩ : ByteArray)) ++ a1) ++ (⟨#[32]⟩ : ByteArray)) ++ (rdOf ByteArray.empty l0 (wrap64 ((l0.length : Int) - 1))))) else (none)) else (none)) else (none)) else (none)) else (none))) else (none)) else (none)))
theorem english_WordSeries.mono : ∀ a0 a1 k, LeO (english_WordSeries.f k a0 a1) (english_WordSeries.f (k + 1) a0 a1) := by
  intro a0 a1 k
  unfold english_WordSeries.f
  repeat' first
      | (with_reducible exact english_zzJoin.mono _ _ _)
      | (with_reducible exact LeO.refl _)
      | (with_reducible exact LeO.none _)
      | (with_reducible refine LeO.ite ?_ ?_)
      | (with_reducible refine LeO.bind ?_ (fun _ => ?_))
      | exact english_zzJoin.mono _ _ _
      | exact LeO.none _
      | refine LeO.ite ?_ ?_
      | refine LeO.bind ?_ (fun _ => ?_)
set_option maxHeartbeats 8000000 in
set_option maxRecDepth 100000 in
theorem english_WordSeries.calls (k : Nat) (A0 : Option Addr) (c0 : Nat) (l0 : List ByteArray) (a1 : ByteArray) (r : ByteArray) (w : World) (hr0 : Kd.C Kd.string w A0 l0.length l0) (hc0 : l0.length ≤ c0) (h : english_WordSeries.f k l0 a1 = some r) :
    Calls Try.prog 15 #[.slice A0 l0.length c0, .string a1] w fun e w' => e = .returned (.string r) ∧ Drawn0 w w' := by
  have HR0 := Aside0.mk hr0
  have HC0 := Aside0.mk hc0
  clear hr0 hc0
  have H : (if (l0.length : Int) = 0 then (some (⟨#[]⟩ : ByteArray)) else (if (l0.length : Int) = 1 then (if 0 < (l0.length : Int) then (some (rdOf ByteArray.empty l0 0)) else (none)) else (if 0 ≤ (wrap64 ((l0.length : Int) - 1)) then (if (wrap64 ((l0.length : Int) - 1)) ≤ (l0.length : Int) then ((english_zzJoin.f k (l0.take ((wrap64 ((l0.length : Int) - 1)) : Int).toNat) (⟨#[44, 32]⟩ : ByteArray)).bind fun t106 => (if t106.size + 1 ≤ 9223372036854775807 then (if (t106 ++ (⟨#[32]⟩ : ByteArray)).size + a1.size ≤ 9223372036854775807 then (if ((t106 ++ (⟨#[32]⟩ : ByteArray)) ++ a1).size + 1 ≤ 9223372036854775807 then (if (wrap64 ((l0.length : Int) - 1)) < (l0.length : Int) then (if (((t106 ++ (⟨#[32]⟩ : ByteArray)) ++ a1) ++ (⟨#[32]⟩ : ByteArray)).size + (rdOf ByteArray.empty l0 (wrap64 ((l0.length : Int) - 1))).size ≤ 9223372036854775807 then (some ((((t106 ++ (⟨#[32]⟩ : ByteArray)) ++ a1) ++ (⟨#[32]⟩ : ByteArray)) ++ (rdOf ByteArray.empty l0 (wrap64 ((l0.length : Int) - 1))))) else (none)) else (none)) else (none)) else (none)) else (none))) else (none)) else (none)))) = some r := h
  clear h
  by_cases c3 : (l0.length : Int) = 0
  · rw [if_pos c3] at H
    have c3b0 : ((l0.length : Int) == 0) = true := beq_iff_eq.mpr c3
    have c3b1 : ((l0.length : Int) != 0) = false := bne_eq_false_iff_eq.mpr c3
    clear c3
    obtain rfl := Option.some.inj H
    go_enter Try.func15, Try.ntmps15
    go_wp2
    repeat (go_quiet (fail); try go_wp2)
    go_ret
    exact ⟨by first | rfl | (simp; done) | (simp [*]; done), by repeat (first | exact Drawn0.refl _ | apply Drawn0.step)⟩
  · rw [if_neg c3] at H
    have c3b0 : ((l0.length : Int) == 0) = false := beq_eq_false_iff_ne.mpr c3
    have c3b1 : ((l0.length : Int) != 0) = true := bne_iff_ne.mpr c3
    have c3b2 : ¬ (l0 = []) := fun h_ => c3 (by rw [h_]; rfl)
    by_cases c4 : (l0.length : Int) = 1
    · rw [if_pos c4] at H
      have c4b0 : ((l0.length : Int) == 1) = true := beq_iff_eq.mpr c4
      have c4b1 : ((l0.length : Int) != 1) = false := bne_eq_false_iff_eq.mpr c4
      clear c4
      by_cases c5 : 0 < (l0.length : Int)
      · rw [if_pos c5] at H
        have c5b0 : decide (0 < (l0.length : Int)) = true := decide_eq_true c5
        have c5b1 : decide (0 < l0.length) = true := decide_eq_true (by omega)
        clear c5
        obtain rfl := Option.some.inj H
        have p104 : 0 ≤ (0 : Int) := (by omega)
        have q104 : 0 < (l0.length : Int) := of_decide_eq_true (by first | (with_reducible assumption) | assumption)
        obtain ⟨ad104, e104, hx104_0⟩ := Kd.at_string HR0.out 0 p104 q104
        cases e104
        have qi104 : (0 < l0.length) = True := eq_true (by omega)
        (try rw [show ((0 : Int)).toNat = 0 from rfl] at hx104_0)
        (try rw [Addr.add_zero'] at hx104_0)
        replace p104 := eq_true p104
        replace q104 := eq_true q104
        go_enter Try.func15, Try.ntmps15
        go_wp2
        repeat (go_quiet (fail); try go_wp2)
        go_ret
        exact ⟨by first | rfl | (simp; done) | (simp [*]; done), by repeat (first | exact Drawn0.refl _ | apply Drawn0.step)⟩
      · rw [if_neg c5] at H
        exact absurd H (by simp)
    · rw [if_neg c4] at H
      have c4b0 : ((l0.length : Int) == 1) = false := beq_eq_false_iff_ne.mpr c4
      have c4b1 : ((l0.length : Int) != 1) = true := bne_iff_ne.mpr c4
      obtain ⟨ji6, hji6⟩ : ∃ j_ : Int, (wrap64 ((l0.length : Int) - 1)) = j_ := ⟨_, rfl⟩
      replace H : (if 0 ≤ (ji6) then (if (ji6) ≤ (l0.length : Int) then ((english_zzJoin.f k (l0.take ((ji6) : Int).toNat) (⟨#[44, 32]⟩ : ByteArray)).bind fun t106 => (if t106.size + 1 ≤ 9223372036854775807 then (if (t106 ++ (⟨#[32]⟩ : ByteArray)).size + a1.size ≤ 9223372036854775807 then (if ((t106 ++ (⟨#[32]⟩ : ByteArray)) ++ a1).size + 1 ≤ 9223372036854775807 then (if (ji6) < (l0.length : Int) then (if (((t106 ++ (⟨#[32]⟩ : ByteArray)) ++ a1) ++ (⟨#[32]⟩ : ByteArray)).size + (rdOf ByteArray.empty l0 (ji6)).size ≤ 9223372036854775807 then (some ((((t106 ++ (⟨#[32]⟩ : ByteArray)) ++ a1) ++ (⟨#[32]⟩ : ByteArray)) ++ (rdOf ByteArray.empty l0 (ji6)))) else (none)) else (none)) else (none)) else (none)) else (none))) else (none)) else (none)) = some r := by first | (rw [hji6] at H; exact H) | (simp only [hji6] at H ⊢; exact H)
      have hji6w : (IntKind.i64.wrap ((l0.length : Int) - 1)) = ji6 := (i64_w _).trans hji6
      by_cases c7 : 0 ≤ (ji6)
      · rw [if_pos c7] at H
        have c7b0 := eq_true c7
        have c7b1 : decide (0 ≤ (ji6)) = true := decide_eq_true c7
        clear c7
        by_cases c8 : (ji6) ≤ (l0.length : Int)
        · rw [if_pos c8] at H
          have c8b0 := eq_true c8
          have c8b1 : decide ((ji6) ≤ (l0.length : Int)) = true := decide_eq_true c8
          clear c8
          replace H := Option.bind_eq_some_iff.mp H
          obtain ⟨t106, A90, H⟩ := H
          replace H : (if t106.size + 1 ≤ 9223372036854775807 then (if (t106 ++ (⟨#[32]⟩ : ByteArray)).size + a1.size ≤ 9223372036854775807 then (if ((t106 ++ (⟨#[32]⟩ : ByteArray)) ++ a1).size + 1 ≤ 9223372036854775807 then (if (ji6) < (l0.length : Int) then (if (((t106 ++ (⟨#[32]⟩ : ByteArray)) ++ a1) ++ (⟨#[32]⟩ : ByteArray)).size + (rdOf ByteArray.empty l0 (ji6)).size ≤ 9223372036854775807 then (some ((((t106 ++ (⟨#[32]⟩ : ByteArray)) ++ a1) ++ (⟨#[32]⟩ : ByteArray)) ++ (rdOf ByteArray.empty l0 (ji6)))) else (none)) else (none)) else (none)) else (none)) else (none)) = some r := H
          have A9 := Aside0.mk A90
          clear A90
          by_cases c10 : t106.size + 1 ≤ 9223372036854775807
          · rw [if_pos c10] at H
            have c10b0 := eq_true c10
            have c10b1 : decide (t106.size + 1 ≤ 9223372036854775807) = true := decide_eq_true c10
            try have c10b2 : (9223372036854775807 < t106.size + 1) = False := eq_false (Nat.not_lt.2 c10)
            by_cases c11 : (t106 ++ (⟨#[32]⟩ : ByteArray)).size + a1.size ≤ 9223372036854775807
            · rw [if_pos c11] at H
              have c11b0 := eq_true c11
              have c11b1 : decide ((t106 ++ (⟨#[32]⟩ : ByteArray)).size + a1.size ≤ 9223372036854775807) = true := decide_eq_true c11
              try have c11b2 : (9223372036854775807 < (t106 ++ (⟨#[32]⟩ : ByteArray)).size + a1.size) = False := eq_false (Nat.not_lt.2 c11)
              try have c11n0 : (9223372036854775807 < t106.size + 1 + a1.size) = False := eq_false (by have h_ := c11; have _e0 : (⟨#[32]⟩ : ByteArray).size = 1 := rfl; (try simp only [ByteArray.size_append] at h_); omega)
              by_cases c12 : ((t106 ++ (⟨#[32]⟩ : ByteArray)) ++ a1).size + 1 ≤ 9223372036854775807
              · rw [if_pos c12] at H
                have c12b0 := eq_true c12
                have c12b1 : decide (((t106 ++ (⟨#[32]⟩ : ByteArray)) ++ a1).size + 1 ≤ 9223372036854775807) = true := decide_eq_true c12
                try have c12b2 : (9223372036854775807 < ((t106 ++ (⟨#[32]⟩ : ByteArray)) ++ a1).size + 1) = False := eq_false (Nat.not_lt.2 c12)
                try have c12n0 : (9223372036854775807 < t106.size + 1 + a1.size + 1) = False := eq_false (by have h_ := c12; have _e0 : (⟨#[32]⟩ : ByteArray).size = 1 := rfl; (try simp only [ByteArray.size_append] at h_); omega)
                by_cases c13 : (ji6) < (l0.length : Int)
                · rw [if_pos c13] at H
                  have c13b0 : decide ((ji6) < (l0.length : Int)) = true := decide_eq_true c13
                  clear c13
                  by_cases c14 : (((t106 ++ (⟨#[32]⟩ : ByteArray)) ++ a1) ++ (⟨#[32]⟩ : ByteArray)).size + (rdOf ByteArray.empty l0 (ji6)).size ≤ 9223372036854775807
                  · rw [if_pos c14] at H
                    have c14b0 := eq_true c14
                    have c14b1 : decide ((((t106 ++ (⟨#[32]⟩ : ByteArray)) ++ a1) ++ (⟨#[32]⟩ : ByteArray)).size + (rdOf ByteArray.empty l0 (ji6)).size ≤ 9223372036854775807) = true := decide_eq_true c14
                    try have c14b2 : (9223372036854775807 < (((t106 ++ (⟨#[32]⟩ : ByteArray)) ++ a1) ++ (⟨#[32]⟩ : ByteArray)).size + (rdOf ByteArray.empty l0 (ji6)).size) = False := eq_false (Nat.not_lt.2 c14)
                    try have c14n0 : (9223372036854775807 < t106.size + 1 + a1.size + 1 + (rdOf ByteArray.empty l0 (ji6)).size) = False := eq_false (by have h_ := c14; have _e0 : (⟨#[32]⟩ : ByteArray).size = 1 := rfl; (try simp only [ByteArray.size_append] at h_); omega)
                    obtain rfl := Option.some.inj H
                    obtain ⟨i015, hi015, _, hsz15, _⟩ := info_parts info9
                    obtain ⟨hcut15, hA15, hC15⟩ := print_take_of (P := Try.prog) Value.string (⟨#[]⟩ : ByteArray) 24 9 .i64 Try.underlying24 hi015 hsz15 A0 c0 l0 (ji6) (of_decide_eq_true (by first | (with_reducible assumption) | assumption)) (of_decide_eq_true (by first | (with_reducible assumption) | assumption)) HC0.out
                    have HR105 := Aside0.mk (Kd.C_of_reads (h1 := fun _ => rfl) (hA15 _ (Kd.reads_of_C HR0.out)))
                    have HC105 := Aside0.mk hC15
                    clear hA15 hC15 hi015 hsz15
                    generalize htk15 : l0.take ((ji6) : Int).toNat = tk15 at *
                    have Htk15 := Lib.hid htk15; clear htk15
                    go_enter Try.func15, Try.ntmps15
                    go_wp2_with (first | (go_at_call 23; (with_reducible refine (english_zzJoin.calls k _ _ tk15 (⟨#[44, 32]⟩ : ByteArray) t106 _ ?side1 ?side2 A9.out).mono ?_); (case side1 => repeat (first | exact HR105.out | (with_reducible refine Kd.C_alloc ?_ _) | (with_reducible refine Kd.C_drewN ?_ _) | (with_reducible refine Kd.C_drew ?_))); (case side2 => exact HC105.out); rintro e w' ⟨rfl, ⟨nd, rfl⟩⟩; (try first | exact ⟨rfl, _, World.drewN_drewN _ _ _⟩ | exact ⟨rfl, _, Eq.trans (World.drewN_drewN _ _ _) (congrArg (World.drewN _) (Nat.add_assoc _ _ _))⟩); have p107 : 0 ≤ ((ji6) : Int) := of_decide_eq_true (by first | (with_reducible assumption) | assumption); have q107 : (ji6) < (l0.length : Int) := of_decide_eq_true (by first | (with_reducible assumption) | assumption); obtain ⟨ad107, e107, hx107_0⟩ := Kd.at_string HR0.out (ji6) p107 q107; cases e107; replace p107 := eq_true p107; replace q107 := eq_true q107))
                    repeat (go_quiet (first | (go_at_call 23; (with_reducible refine (english_zzJoin.calls k _ _ tk15 (⟨#[44, 32]⟩ : ByteArray) t106 _ ?side1 ?side2 A9.out).mono ?_); (case side1 => repeat (first | exact HR105.out | (with_reducible refine Kd.C_alloc ?_ _) | (with_reducible refine Kd.C_drewN ?_ _) | (with_reducible refine Kd.C_drew ?_))); (case side2 => exact HC105.out); rintro e w' ⟨rfl, ⟨nd, rfl⟩⟩; (try first | exact ⟨rfl, _, World.drewN_drewN _ _ _⟩ | exact ⟨rfl, _, Eq.trans (World.drewN_drewN _ _ _) (congrArg (World.drewN _) (Nat.add_assoc _ _ _))⟩); have p107 : 0 ≤ ((ji6) : Int) := of_decide_eq_true (by first | (with_reducible assumption) | assumption); have q107 : (ji6) < (l0.length : Int) := of_decide_eq_true (by first | (with_reducible assumption) | assumption); obtain ⟨ad107, e107, hx107_0⟩ := Kd.at_string HR0.out (ji6) p107 q107; cases e107; replace p107 := eq_true p107; replace q107 := eq_true q107)); try go_wp2_with (first | (go_at_call 23; (with_reducible refine (english_zzJoin.calls k _ _ tk15 (⟨#[44, 32]⟩ : ByteArray) t106 _ ?side1 ?side2 A9.out).mono ?_); (case side1 => repeat (first | exact HR105.out | (with_reducible refine Kd.C_alloc ?_ _) | (with_reducible refine Kd.C_drewN ?_ _) | (with_reducible refine Kd.C_drew ?_))); (case side2 => exact HC105.out); rintro e w' ⟨rfl, ⟨nd, rfl⟩⟩; (try first | exact ⟨rfl, _, World.drewN_drewN _ _ _⟩ | exact ⟨rfl, _, Eq.trans (World.drewN_drewN _ _ _) (congrArg (World.drewN _) (Nat.add_assoc _ _ _))⟩); have p107 : 0 ≤ ((ji6) : Int) := of_decide_eq_true (by first | (with_reducible assumption) | assumption); have q107 : (ji6) < (l0.length : Int) := of_decide_eq_true (by first | (with_reducible assumption) | assumption); obtain ⟨ad107, e107, hx107_0⟩ := Kd.at_string HR0.out (ji6) p107 q107; cases e107; replace p107 := eq_true p107; replace q107 := eq_true q107)))
                    go_ret
                    exact ⟨by first | rfl | (simp; done) | (simp only [← hji6] <;> (first | rfl | simp)) | (simp [*]; done), by repeat (first | exact Drawn0.refl _ | apply Drawn0.step)⟩
                  · rw [if_neg c14] at H
                    exact absurd H (by simp)
                · rw [if_neg c13] at H
                  exact absurd H (by simp)
              · rw [if_neg c12] at H
                exact absurd H (by simp)
            · rw [if_neg c11] at H
              exact absurd H (by simp)
          · rw [if_neg c10] at H
            exact absurd H (by simp)
        · rw [if_neg c8] at H
          exact absurd H (by simp)
      · rw [if_neg c7] at H
        exact absurd H (by simp)

/-! ### impl_Words: function 7 -/
def impl_Words.f (k : Nat) (l0 : List ByteArray) (a1 : ByteArray) : Option (ByteArray) := (impl_isText.f k false l0).bind fun t108 => (if t108 = true then ((impl_isText.f k false (([a1] : List ByteArray))).bind fun t112 => (if t112 = true then (if ([] : List ByteArray).length + l0.length < 8796093022208 then ((english_WordSeries.f k (([] : List ByteArray) ++ l0) a1).bind fun t116 => (some t116)) else (none)) else (some (⟨#[]⟩ : ByteArray)))) else (some (⟨#[]⟩ : ByteArray)))
theorem impl_Words.mono : ∀ a0 a1 k, LeO (impl_Words.f k a0 a1) (impl_Words.f (k + 1) a0 a1) := by
  intro a0 a1 k
  unfold impl_Words.f
  repeat' first
      | (with_reducible exact english_WordSeries.mono _ _ _)
      | (with_reducible exact impl_isText.mono _ _ _)
      | (with_reducible exact LeO.refl _)
      | (with_reducible exact LeO.none _)
      | (with_reducible refine LeO.ite ?_ ?_)
      | (with_reducible refine LeO.bind ?_ (fun _ => ?_))
      | exact english_WordSeries.mono _ _ _
      | exact impl_isText.mono _ _ _
      | exact LeO.none _
      | refine LeO.ite ?_ ?_
      | refine LeO.bind ?_ (fun _ => ?_)
set_option maxHeartbeats 8000000 in
set_option maxRecDepth 100000 in
theorem impl_Words.calls (k : Nat) (A0 : Option Addr) (c0 : Nat) (l0 : List ByteArray) (a1 : ByteArray) (r : ByteArray) (w : World) (hr0 : Kd.C Kd.string w A0 l0.length l0) (hc0 : l0.length ≤ c0) (h : impl_Words.f k l0 a1 = some r) :
    Calls Try.prog 7 #[.slice A0 l0.length c0, .string a1] w fun e w' => e = .returned (.string r) ∧ Below w.heap.size w w' := by
  have HR0 := Aside0.mk hr0
  have HC0 := Aside0.mk hc0
  clear hr0 hc0
  have HB := Aside0.mk (Below.refl w.heap.size w)
  have H : ((impl_isText.f k false l0).bind fun t108 => (if t108 = true then ((impl_isText.f k false (([a1] : List ByteArray))).bind fun t112 => (if t112 = true then (if ([] : List ByteArray).length + l0.length < 8796093022208 then ((english_WordSeries.f k (([] : List ByteArray) ++ l0) a1).bind fun t116 => (some t116)) else (none)) else (some (⟨#[]⟩ : ByteArray)))) else (some (⟨#[]⟩ : ByteArray)))) = some r := h
  clear h
  replace H := Option.bind_eq_some_iff.mp H
  obtain ⟨t108, A30, H⟩ := H
  replace H : (if t108 = true then ((impl_isText.f k false (([a1] : List ByteArray))).bind fun t112 => (if t112 = true then (if ([] : List ByteArray).length + l0.length < 8796093022208 then ((english_WordSeries.f k (([] : List ByteArray) ++ l0) a1).bind fun t116 => (some t116)) else (none)) else (some (⟨#[]⟩ : ByteArray)))) else (some (⟨#[]⟩ : ByteArray))) = some r := H
  have A3 := Aside0.mk A30
  clear A30
  by_cases c4 : t108 = true
  · subst c4
    have H1 : ((impl_isText.f k false (([a1] : List ByteArray))).bind fun t112 => (if t112 = true then (if ([] : List ByteArray).length + l0.length < 8796093022208 then ((english_WordSeries.f k (([] : List ByteArray) ++ l0) a1).bind fun t116 => (some t116)) else (none)) else (some (⟨#[]⟩ : ByteArray)))) = some r := by rw [if_pos rfl] at H; exact H
    clear H
    have H := H1
    clear H1
    obtain ⟨y109, hy109⟩ : ∃ y_ : List ByteArray, y_ = (([a1] : List ByteArray)) := ⟨_, rfl⟩
    replace H : ((impl_isText.f k false y109).bind fun t112 => (if t112 = true then (if ([] : List ByteArray).length + l0.length < 8796093022208 then ((english_WordSeries.f k (([] : List ByteArray) ++ l0) a1).bind fun t116 => (some t116)) else (none)) else (some (⟨#[]⟩ : ByteArray)))) = some r := by first | (rw [hy109]; with_reducible exact H) | (have H2_ := (Option.bind_some _ _).symm.trans H; rw [hy109]; with_reducible exact H2_) | (have H2_ := (Option.bind_some _ _).symm.trans H; with_reducible exact H2_) | with_reducible exact H | (rw [hy109]; exact H) | exact H
    have Ny109 := Aside0.mk hy109
    clear hy109
    replace H := Option.bind_eq_some_iff.mp H
    obtain ⟨t112, A50, H⟩ := H
    replace H : (if t112 = true then (if ([] : List ByteArray).length + l0.length < 8796093022208 then ((english_WordSeries.f k (([] : List ByteArray) ++ l0) a1).bind fun t116 => (some t116)) else (none)) else (some (⟨#[]⟩ : ByteArray))) = some r := H
    have A5 := Aside0.mk A50
    clear A50
    by_cases c6 : t112 = true
    · subst c6
      have H1 : (if ([] : List ByteArray).length + l0.length < 8796093022208 then ((english_WordSeries.f k (([] : List ByteArray) ++ l0) a1).bind fun t116 => (some t116)) else (none)) = some r := by rw [if_pos rfl] at H; exact H
      clear H
      have H := H1
      clear H1
      by_cases c7 : ([] : List ByteArray).length + l0.length < 8796093022208
      · rw [if_pos c7] at H
        have LMc7 := Aside0.mk c7
        clear c7
        obtain ⟨y113, hy113⟩ : ∃ y_ : List ByteArray, y_ = (([] : List ByteArray) ++ l0) := ⟨_, rfl⟩
        replace H : ((english_WordSeries.f k y113 a1).bind fun t116 => (some t116)) = some r := by first | (rw [hy113]; with_reducible exact H) | (have H2_ := (Option.bind_some _ _).symm.trans H; rw [hy113]; with_reducible exact H2_) | (have H2_ := (Option.bind_some _ _).symm.trans H; with_reducible exact H2_) | with_reducible exact H | (rw [hy113]; exact H) | exact H
        have Ny113 := Aside0.mk hy113
        clear hy113
        replace H := Option.bind_eq_some_iff.mp H
        obtain ⟨t116, A80, H⟩ := H
        replace H : (some t116) = some r := H
        have A8 := Aside0.mk A80
        clear A80
        obtain rfl := Option.some.inj H
        go_enter Try.func7, Try.ntmps7
        go_wp2_with (first | ((with_reducible refine gate_callee (f := 14) rfl ?_); refine goesL_ (some 6) rfl rfl Try.func14 (by kernel_rfl) rfl #[.bool false, .slice A0 l0.length c0] rfl (by (try simp only [List.map_toArray, List.map_cons, List.map_nil]); first | done | rfl | (simp only [List.length_drop, List.length_take]; rfl)) ?_; (with_reducible refine (impl_isText.calls k false _ _ l0 true _ ?side1 ?side2 A3.out).mono ?_); (case side1 => repeat (first | exact HR0.out | (with_reducible refine Kd.C_alloc ?_ _) | (with_reducible refine Kd.C_drewN ?_ _) | (with_reducible refine Kd.C_drew ?_))); (case side2 => exact HC0.out); rintro e w' ⟨rfl, ⟨nd, rfl⟩⟩; refine ⟨_, rfl, ?_⟩) | ((with_reducible refine gate_dst (N := 10) rfl ?_); (try (refine gate_guard (by rfl) ?_; dsimp only)); refine Kd.R_lit Kd.string _ 9 ?hg (N := 10) ?hd (xs := ([a1] : List ByteArray)) (inner := [.string a1]) (ok := fun _ => True) (okp := fun _ => True) ?hr ?hp (fun _ hk => hk) trivial (Below.refl _ _) (Nat.le_refl _) (by simp) ?_; (case hd => rfl); (case hg => rfl); (case hr => first | (go_simp; done) | (go_simp; rfl)); (case hp => exact (Reps.one (show Kd.M Kd.string _ _ _ a1 [.string a1] from rfl) (Reps.none _ _))); intro v110 w9 ho10 hb hg_ hnew_; clear hg_ hnew_; (first | rw [← Ny109.out] at ho10 | (simp only [Int.reduceToNat] at ho10; rw [← Ny109.out] at ho10)); have n0_ := Aside0.mk (Kd.R_lower ho10 (below_size (by repeat (first | (with_reducible first | exact HB.out | apply below_alloc | apply pw_below_drewN | apply below_drew1) | exact HB.out)))); have n1_ := Aside0.mk (below_step (by repeat (first | (with_reducible first | exact HB.out | apply below_alloc | apply pw_below_drewN | apply below_drew1) | exact HB.out)) hb); clear HB; have HO111 := n0_; have HB := n1_; clear n0_ n1_; clear hb ho10; obtain ⟨Ao11, co11, eo11⟩ := Kd.R_slice HO111.out; subst eo11) | (go_at_call 14; (with_reducible refine (impl_isText.calls k false _ _ y109 true _ ?side1 ?side2 A5.out).mono ?_); (case side1 => repeat (first | exact (Kd.R_reads' HO111.out).2.2 | (with_reducible refine Kd.C_alloc ?_ _) | (with_reducible refine Kd.C_drewN ?_ _) | (with_reducible refine Kd.C_drew ?_))); (case side2 => exact (Kd.R_reads' HO111.out).2.1); rintro e w' ⟨rfl, ⟨nd, rfl⟩⟩) | ((with_reducible refine gate_builtin (b := .append) (xs := #[.const (.slice none 0 0), .tmp 14]) rfl ?_); (try (refine gate_guard (by rfl) ?_; dsimp only)); at_builtin; refine Kd.R_append_rows Kd.string (w0 := w) w.heap.size rfl (.const (.slice none 0 0)) (.tmp 14) 24 9 (.string ⟨#[]⟩) 16 rfl Try.underlying24 info9 rfl (by decide) (by omega) (.slice none 0 0) ([] : List ByteArray) l0 _ _ _ (fun k_ => some k_ ≠ (.slice Ao11 y109.length co11 : Value).ownBlock) (fun _ => False) rfl rfl ?aO ?aR (fun _ _ h => h) (fun _ h => h.elim) ?aF ?aB ?aS ?aL ?_; (case aR => repeat (first | exact (Kd.C_below HR0.out (by repeat (first | (with_reducible first | exact HB.out | apply below_alloc | apply pw_below_drewN | apply below_drew1) | exact HB.out))) | (with_reducible refine Kd.C_alloc ?_ _) | (with_reducible refine Kd.C_drewN ?_ _) | (with_reducible refine Kd.C_drew ?_))); (case aB => exact (by repeat (first | (with_reducible first | exact HB.out | apply below_alloc | apply pw_below_drewN | apply below_drew1) | exact HB.out))); (case aF => exact (fun k_ hk => Kd.fresh' (Kd.R_lt (by (with_reducible repeat (first | apply Kd.R_alloc | apply Kd.R_drewN | apply Kd.R_drew)); exact HO111.out)) k_ hk)); (case aO => exact ((Kd.R_nil _ _ _ _ (fun k_ => some k_ ≠ (.slice Ao11 y109.length co11 : Value).ownBlock)))); (case aS => exact (below_size (by repeat (first | (with_reducible first | exact HB.out | apply below_alloc | apply pw_below_drewN | apply below_drew1) | exact HB.out)))); (case aL => have := LMc7.out; omega); intro v114 w12 ho hb hg hat; rw [← Ny113.out] at ho; have n0_ := Aside0.mk (Kd.R_after (Kd.R_apart_nil (by (with_reducible repeat (first | apply Kd.R_alloc | apply Kd.R_drewN | apply Kd.R_drew)); exact HO111.out)) hg hat); have n1_ := Aside0.mk (hb); have n2_ := Aside0.mk (ho); clear HO111; clear HB; have HO111 := n0_; have HB := n1_; have HO115 := n2_; clear n0_ n1_ n2_; clear ho hb hg hat; obtain ⟨Ao13, co13, eo13⟩ := Kd.R_slice HO115.out; subst eo13) | ((with_reducible refine gate_callee (f := 15) rfl ?_); refine goesL_ (some 17) rfl rfl Try.func15 (by kernel_rfl) rfl #[.slice Ao13 y113.length co13, .string a1] rfl (by (try simp only [List.map_toArray, List.map_cons, List.map_nil]); first | done | rfl | (simp only [List.length_drop, List.length_take]; rfl)) ?_; (with_reducible refine (english_WordSeries.calls k _ _ y113 a1 t116 _ ?side1 ?side2 A8.out).mono ?_); (case side1 => repeat (first | exact (Kd.R_reads' HO115.out).2.2 | (with_reducible refine Kd.C_alloc ?_ _) | (with_reducible refine Kd.C_drewN ?_ _) | (with_reducible refine Kd.C_drew ?_))); (case side2 => exact (Kd.R_reads' HO115.out).2.1); rintro e w' ⟨rfl, ⟨nd, rfl⟩⟩; refine ⟨_, rfl, ?_⟩))
        go_ret
        exact ⟨by first | rfl | (simp [errW_none, errW_some] <;> rfl) | (simp [*, errW_none, errW_some] <;> rfl), by repeat (first | (with_reducible first | exact HB.out | apply below_alloc | apply pw_below_drewN | apply below_drew1) | exact HB.out)⟩
      · rw [if_neg c7] at H
        exact absurd H (by simp)
    · replace c6 := Bool.eq_false_iff.mpr c6
      subst c6
      have H1 : (some (⟨#[]⟩ : ByteArray)) = some r := by rw [if_neg (show ¬ (false = true) by decide)] at H; exact H
      clear H
      have H := H1
      clear H1
      obtain rfl := Option.some.inj H
      go_enter Try.func7, Try.ntmps7
      go_wp2_with (first | ((with_reducible refine gate_callee (f := 14) rfl ?_); refine goesL_ (some 6) rfl rfl Try.func14 (by kernel_rfl) rfl #[.bool false, .slice A0 l0.length c0] rfl (by (try simp only [List.map_toArray, List.map_cons, List.map_nil]); first | done | rfl | (simp only [List.length_drop, List.length_take]; rfl)) ?_; (with_reducible refine (impl_isText.calls k false _ _ l0 true _ ?side1 ?side2 A3.out).mono ?_); (case side1 => repeat (first | exact HR0.out | (with_reducible refine Kd.C_alloc ?_ _) | (with_reducible refine Kd.C_drewN ?_ _) | (with_reducible refine Kd.C_drew ?_))); (case side2 => exact HC0.out); rintro e w' ⟨rfl, ⟨nd, rfl⟩⟩; refine ⟨_, rfl, ?_⟩) | ((with_reducible refine gate_dst (N := 10) rfl ?_); (try (refine gate_guard (by rfl) ?_; dsimp only)); refine Kd.R_lit Kd.string _ 9 ?hg (N := 10) ?hd (xs := ([a1] : List ByteArray)) (inner := [.string a1]) (ok := fun _ => True) (okp := fun _ => True) ?hr ?hp (fun _ hk => hk) trivial (Below.refl _ _) (Nat.le_refl _) (by simp) ?_; (case hd => rfl); (case hg => rfl); (case hr => first | (go_simp; done) | (go_simp; rfl)); (case hp => exact (Reps.one (show Kd.M Kd.string _ _ _ a1 [.string a1] from rfl) (Reps.none _ _))); intro v110 w14 ho15 hb hg_ hnew_; clear hg_ hnew_; (first | rw [← Ny109.out] at ho15 | (simp only [Int.reduceToNat] at ho15; rw [← Ny109.out] at ho15)); have n0_ := Aside0.mk (Kd.R_lower ho15 (below_size (by repeat (first | (with_reducible first | exact HB.out | apply below_alloc | apply pw_below_drewN | apply below_drew1) | exact HB.out)))); have n1_ := Aside0.mk (below_step (by repeat (first | (with_reducible first | exact HB.out | apply below_alloc | apply pw_below_drewN | apply below_drew1) | exact HB.out)) hb); clear HB; have HO111 := n0_; have HB := n1_; clear n0_ n1_; clear hb ho15; obtain ⟨Ao16, co16, eo16⟩ := Kd.R_slice HO111.out; subst eo16) | (go_at_call 14; (with_reducible refine (impl_isText.calls k false _ _ y109 false _ ?side1 ?side2 A5.out).mono ?_); (case side1 => repeat (first | exact (Kd.R_reads' HO111.out).2.2 | (with_reducible refine Kd.C_alloc ?_ _) | (with_reducible refine Kd.C_drewN ?_ _) | (with_reducible refine Kd.C_drew ?_))); (case side2 => exact (Kd.R_reads' HO111.out).2.1); rintro e w' ⟨rfl, ⟨nd, rfl⟩⟩))
      go_ret
      exact ⟨by first | rfl | (simp [errW_none, errW_some] <;> rfl) | (simp [*, errW_none, errW_some] <;> rfl), by repeat (first | (with_reducible first | exact HB.out | apply below_alloc | apply pw_below_drewN | apply below_drew1) | exact HB.out)⟩
  · replace c4 := Bool.eq_false_iff.mpr c4
    subst c4
    have H1 : (some (⟨#[]⟩ : ByteArray)) = some r := by rw [if_neg (show ¬ (false = true) by decide)] at H; exact H
    clear H
    have H := H1
    clear H1
    obtain rfl := Option.some.inj H
    go_enter Try.func7, Try.ntmps7
    go_wp2_with (first | ((with_reducible refine gate_callee (f := 14) rfl ?_); refine goesL_ (some 6) rfl rfl Try.func14 (by kernel_rfl) rfl #[.bool false, .slice A0 l0.length c0] rfl (by (try simp only [List.map_toArray, List.map_cons, List.map_nil]); first | done | rfl | (simp only [List.length_drop, List.length_take]; rfl)) ?_; (with_reducible refine (impl_isText.calls k false _ _ l0 false _ ?side1 ?side2 A3.out).mono ?_); (case side1 => repeat (first | exact HR0.out | (with_reducible refine Kd.C_alloc ?_ _) | (with_reducible refine Kd.C_drewN ?_ _) | (with_reducible refine Kd.C_drew ?_))); (case side2 => exact HC0.out); rintro e w' ⟨rfl, ⟨nd, rfl⟩⟩; refine ⟨_, rfl, ?_⟩))
    go_ret
    exact ⟨by first | rfl | (simp [errW_none, errW_some] <;> rfl) | (simp [*, errW_none, errW_some] <;> rfl), by repeat (first | (with_reducible first | exact HB.out | apply below_alloc | apply pw_below_drewN | apply below_drew1) | exact HB.out)⟩

end Go.Proofs.Ytmdgbbiipjmenaa.PFnWords
