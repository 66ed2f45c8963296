-- written by a program of this work
import Derived.Test.YtmdgbbiipjmenaaDoorPAllx0
namespace Go.Proofs.YtmdgbbiipjmenaaDoor.PAll
open Go.RowKit Go.Proofs.YtmdgbbiipjmenaaDoorW.PrintWords Go.Proofs.YtmdgbbiipjmenaaDoorW.PrintLast Go.Proofs.YtmdgbbiipjmenaaDoorW.PrintMore
attribute [local go_sem] max2_int min2_int max_two min_two max_three min_three max_four min_four   -- for this text's walks alone
set_option linter.unusedVariables false
set_option linter.unusedSimpArgs false

/-! ### spec_Decimal: function 18 -/
def spec_Decimal.l0 : Nat → Int → ByteArray → Int → Option (ByteArray)
  | 0, _, _, _ => none
  | k + 1, x0, x3, x4 => if (Int.tmod x4 10) < 0 then (if (Utf8.encode (wrap32 (wrap64 (48 + (wrap64 (-(Int.tmod x4 10))))))).size + x3.size ≤ 9223372036854775807 then (if (wrap64 (Int.tdiv x4 10)) = 0 then (if x0 < 0 then (if 1 + ((Utf8.encode (wrap32 (wrap64 (48 + (wrap64 (-(Int.tmod x4 10))))))) ++ x3).size ≤ 9223372036854775807 then (some ((⟨#[45]⟩ : ByteArray) ++ ((Utf8.encode (wrap32 (wrap64 (48 + (wrap64 (-(Int.tmod x4 10))))))) ++ x3))) else (none)) else (some ((Utf8.encode (wrap32 (wrap64 (48 + (wrap64 (-(Int.tmod x4 10))))))) ++ x3))) else (spec_Decimal.l0 k x0 ((Utf8.encode (wrap32 (wrap64 (48 + (wrap64 (-(Int.tmod x4 10))))))) ++ x3) (wrap64 (Int.tdiv x4 10)))) else (none)) else (if (Utf8.encode (wrap32 (wrap64 (48 + (Int.tmod x4 10))))).size + x3.size ≤ 9223372036854775807 then (if (wrap64 (Int.tdiv x4 10)) = 0 then (if x0 < 0 then (if 1 + ((Utf8.encode (wrap32 (wrap64 (48 + (Int.tmod x4 10))))) ++ x3).size ≤ 9223372036854775807 then (some ((⟨#[45]⟩ : ByteArray) ++ ((Utf8.encode (wrap32 (wrap64 (48 + (Int.tmod x4 10))))) ++ x3))) else (none)) else (some ((Utf8.encode (wrap32 (wrap64 (48 + (Int.tmod x4 10))))) ++ x3))) else (spec_Decimal.l0 k x0 ((Utf8.encode (wrap32 (wrap64 (48 + (Int.tmod x4 10))))) ++ x3) (wrap64 (Int.tdiv x4 10)))) else (none))
def spec_Decimal.f (k : Nat) (a0 : Int) : Option (ByteArray) := spec_Decimal.l0 k a0 (⟨#[]⟩ : ByteArray) a0
theorem spec_Decimal.mono_l : ∀ k, (∀ y0 y1 y2, LeO (spec_Decimal.l0 k y0 y1 y2) (spec_Decimal.l0 (k + 1) y0 y1 y2))
  | 0 => fun _ _ _ r h => by simp [spec_Decimal.l0] at h
  | k + 1 => by
    have ih0 := spec_Decimal.mono_l k
    · intro y0 y1 y2
      unfold spec_Decimal.l0
      repeat' first
      | (with_reducible exact ih0 _ _ _)
      | (with_reducible exact LeO.refl _)
      | (with_reducible exact LeO.none _)
      | (with_reducible refine LeO.ite ?_ ?_)
      | (with_reducible refine LeO.bind ?_ (fun _ => ?_))
      | exact ih0 _ _ _
      | exact LeO.none _
      | refine LeO.ite ?_ ?_
      | refine LeO.bind ?_ (fun _ => ?_)
theorem spec_Decimal.mono : ∀ a0 k, LeO (spec_Decimal.f k a0) (spec_Decimal.f (k + 1) a0) := by
  intro a0 k
  have ih0 := spec_Decimal.mono_l k
  unfold spec_Decimal.f
  repeat' first
      | (with_reducible exact ih0 _ _ _)
      | (with_reducible exact LeO.refl _)
      | (with_reducible exact LeO.none _)
      | (with_reducible refine LeO.ite ?_ ?_)
      | (with_reducible refine LeO.bind ?_ (fun _ => ?_))
      | exact ih0 _ _ _
      | exact LeO.none _
      | refine LeO.ite ?_ ?_
      | refine LeO.bind ?_ (fun _ => ?_)
set_option maxHeartbeats 8000000 in
set_option maxRecDepth 100000 in
theorem spec_Decimal.calls (k : Nat) (a0 : Int) (r : ByteArray) (w : World) (h : spec_Decimal.f k a0 = some r) :
    Calls Tryd.prog 18 #[.int .i64 a0] w fun e w' => e = .returned (.string r) ∧ Drawn0 w w' := by
  have H : (spec_Decimal.l0 k a0 (⟨#[]⟩ : ByteArray) a0) = some r := h
  clear h
  have H' := Aside0.mk H
  clear H
  go_enter Tryd.func18, Tryd.ntmps18
  go_wp2
  go_loopg [3, 4] k (fun kq v3 v4 w' => ∃ (x3_1 : ByteArray) (x4_1 : Int), v3 = .string x3_1 ∧ v4 = .int .i64 x4_1 ∧ Aside0 (spec_Decimal.l0 kq a0 x3_1 x4_1 = some r) ∧ Aside0 (kq ≤ k) ∧ Drawn0 w w')
  case atStart => exact ⟨((⟨#[]⟩ : ByteArray)), (a0), (by first | rfl | (simp; done) | (simp [*]; done)), (by first | rfl | (simp; done) | (simp [*]; done)), H', ⟨Nat.le_refl _⟩, by repeat (first | exact Drawn0.refl _ | apply Drawn0.step)⟩
  case round =>
    clear H'
    try clear c1
    obtain ⟨x3_1, x4_1, rfl, rfl, HA, HK1, ⟨m1, rfl⟩⟩ := hrel
    cases gk with
    | zero => exact absurd HA.out (by simp [spec_Decimal.l0])
    | succ k1 =>
      have H := HA.out
      clear HA
      simp only [spec_Decimal.l0] at H
      by_cases c2 : (Int.tmod x4_1 10) < 0
      · rw [if_pos c2] at H
        have c2b0 : decide ((Int.tmod x4_1 10) < 0) = true := decide_eq_true c2
        clear c2
        by_cases c3 : (Utf8.encode (wrap32 (wrap64 (48 + (wrap64 (-(Int.tmod x4_1 10))))))).size + x3_1.size ≤ 9223372036854775807
        · rw [if_pos c3] at H
          have c3b0 := eq_true c3
          have c3b1 : decide ((Utf8.encode (wrap32 (wrap64 (48 + (wrap64 (-(Int.tmod x4_1 10))))))).size + x3_1.size ≤ 9223372036854775807) = true := decide_eq_true c3
          try have c3b2 : (9223372036854775807 < (Utf8.encode (wrap32 (wrap64 (48 + (wrap64 (-(Int.tmod x4_1 10))))))).size + x3_1.size) = False := eq_false (Nat.not_lt.2 c3)
          by_cases c4 : (wrap64 (Int.tdiv x4_1 10)) = 0
          · rw [if_pos c4] at H
            have c4b0 : ((wrap64 (Int.tdiv x4_1 10)) == 0) = true := beq_iff_eq.mpr c4
            have c4b1 : ((wrap64 (Int.tdiv x4_1 10)) != 0) = false := bne_eq_false_iff_eq.mpr c4
            clear c4
            by_cases c5 : a0 < 0
            · rw [if_pos c5] at H
              have c5b0 : decide (a0 < 0) = true := decide_eq_true c5
              clear c5
              by_cases c6 : 1 + ((Utf8.encode (wrap32 (wrap64 (48 + (wrap64 (-(Int.tmod x4_1 10))))))) ++ x3_1).size ≤ 9223372036854775807
              · rw [if_pos c6] at H
                have c6b0 := eq_true c6
                have c6b1 : decide (1 + ((Utf8.encode (wrap32 (wrap64 (48 + (wrap64 (-(Int.tmod x4_1 10))))))) ++ x3_1).size ≤ 9223372036854775807) = true := decide_eq_true c6
                try have c6b2 : (9223372036854775807 < 1 + ((Utf8.encode (wrap32 (wrap64 (48 + (wrap64 (-(Int.tmod x4_1 10))))))) ++ x3_1).size) = False := eq_false (Nat.not_lt.2 c6)
                try have c6n0 : (9223372036854775807 < 1 + (Utf8.encode (wrap32 (wrap64 (48 + (wrap64 (-(Int.tmod x4_1 10))))))).size + x3_1.size) = False := eq_false (by have h_ := c6; (try simp only [ByteArray.size_append] at h_); omega)
                try have c6n1 : (9223372036854775807 < 1 + ((Utf8.encode (wrap32 (wrap64 (48 + (wrap64 (-(Int.tmod x4_1 10))))))).size + x3_1.size)) = False := eq_false (by have h_ := c6; (try simp only [ByteArray.size_append] at h_); omega)
                obtain rfl := Option.some.inj H
                go_wp2
                go_ret
                exact ⟨by first | rfl | (simp; done) | (simp [*]; done), by repeat (first | exact Drawn0.refl _ | apply Drawn0.step)⟩
              · rw [if_neg c6] at H
                exact absurd H (by simp)
            · rw [if_neg c5] at H
              have c5b0 : decide (a0 < 0) = false := decide_eq_false c5
              clear c5
              obtain rfl := Option.some.inj H
              go_wp2
              go_ret
              exact ⟨by first | rfl | (simp; done) | (simp [*]; done), by repeat (first | exact Drawn0.refl _ | apply Drawn0.step)⟩
          · rw [if_neg c4] at H
            have c4b0 : ((wrap64 (Int.tdiv x4_1 10)) == 0) = false := beq_eq_false_iff_ne.mpr c4
            have c4b1 : ((wrap64 (Int.tdiv x4_1 10)) != 0) = true := bne_iff_ne.mpr c4
            have H' := Aside0.mk H
            clear H
            go_wp2
            go_roundg k1
            case measure => have := HK1.out; omega
            case rel => exact ⟨((Utf8.encode (wrap32 (wrap64 (48 + (wrap64 (-(Int.tmod x4_1 10))))))) ++ x3_1), (wrap64 (Int.tdiv x4_1 10)), (by first | rfl | (simp; done) | (simp [*]; done)), (by first | rfl | (simp; done) | (simp [*]; done)), H', ⟨by have := HK1.out; omega⟩, by repeat (first | exact Drawn0.refl _ | apply Drawn0.step)⟩
        · rw [if_neg c3] at H
          exact absurd H (by simp)
      · rw [if_neg c2] at H
        have c2b0 : decide ((Int.tmod x4_1 10) < 0) = false := decide_eq_false c2
        clear c2
        by_cases c7 : (Utf8.encode (wrap32 (wrap64 (48 + (Int.tmod x4_1 10))))).size + x3_1.size ≤ 9223372036854775807
        · rw [if_pos c7] at H
          have c7b0 := eq_true c7
          have c7b1 : decide ((Utf8.encode (wrap32 (wrap64 (48 + (Int.tmod x4_1 10))))).size + x3_1.size ≤ 9223372036854775807) = true := decide_eq_true c7
          try have c7b2 : (9223372036854775807 < (Utf8.encode (wrap32 (wrap64 (48 + (Int.tmod x4_1 10))))).size + x3_1.size) = False := eq_false (Nat.not_lt.2 c7)
          by_cases c8 : (wrap64 (Int.tdiv x4_1 10)) = 0
          · rw [if_pos c8] at H
            have c8b0 : ((wrap64 (Int.tdiv x4_1 10)) == 0) = true := beq_iff_eq.mpr c8
            have c8b1 : ((wrap64 (Int.tdiv x4_1 10)) != 0) = false := bne_eq_false_iff_eq.mpr c8
            clear c8
            by_cases c9 : a0 < 0
            · rw [if_pos c9] at H
              have c9b0 : decide (a0 < 0) = true := decide_eq_true c9
              clear c9
              by_cases c10 : 1 + ((Utf8.encode (wrap32 (wrap64 (48 + (Int.tmod x4_1 10))))) ++ x3_1).size ≤ 9223372036854775807
              · rw [if_pos c10] at H
                have c10b0 := eq_true c10
                have c10b1 : decide (1 + ((Utf8.encode (wrap32 (wrap64 (48 + (Int.tmod x4_1 10))))) ++ x3_1).size ≤ 9223372036854775807) = true := decide_eq_true c10
                try have c10b2 : (9223372036854775807 < 1 + ((Utf8.encode (wrap32 (wrap64 (48 + (Int.tmod x4_1 10))))) ++ x3_1).size) = False := eq_false (Nat.not_lt.2 c10)
                try have c10n0 : (9223372036854775807 < 1 + (Utf8.encode (wrap32 (wrap64 (48 + (Int.tmod x4_1 10))))).size + x3_1.size) = False := eq_false (by have h_ := c10; (try simp only [ByteArray.size_append] at h_); omega)
                try have c10n1 : (9223372036854775807 < 1 + ((Utf8.encode (wrap32 (wrap64 (48 + (Int.tmod x4_1 10))))).size + x3_1.size)) = False := eq_false (by have h_ := c10; (try simp only [ByteArray.size_append] at h_); omega)
                obtain rfl := Option.some.inj H
                go_wp2
                go_ret
                exact ⟨by first | rfl | (simp; done) | (simp [*]; done), by repeat (first | exact Drawn0.refl _ | apply Drawn0.step)⟩
              · rw [if_neg c10] at H
                exact absurd H (by simp)
            · rw [if_neg c9] at H
              have c9b0 : decide (a0 < 0) = false := decide_eq_false c9
              clear c9
              obtain rfl := Option.some.inj H
              go_wp2
              go_ret
              exact ⟨by first | rfl | (simp; done) | (simp [*]; done), by repeat (first | exact Drawn0.refl _ | apply Drawn0.step)⟩
          · rw [if_neg c8] at H
            have c8b0 : ((wrap64 (Int.tdiv x4_1 10)) == 0) = false := beq_eq_false_iff_ne.mpr c8
            have c8b1 : ((wrap64 (Int.tdiv x4_1 10)) != 0) = true := bne_iff_ne.mpr c8
            have H' := Aside0.mk H
            clear H
            go_wp2
            go_roundg k1
            case measure => have := HK1.out; omega
            case rel => exact ⟨((Utf8.encode (wrap32 (wrap64 (48 + (Int.tmod x4_1 10))))) ++ x3_1), (wrap64 (Int.tdiv x4_1 10)), (by first | rfl | (simp; done) | (simp [*]; done)), (by first | rfl | (simp; done) | (simp [*]; done)), H', ⟨by have := HK1.out; omega⟩, by repeat (first | exact Drawn0.refl _ | apply Drawn0.step)⟩
        · rw [if_neg c7] at H
          exact absurd H (by simp)

/-! ### spec_Ordinal: function 8 -/
def spec_Ordinal.j0 : Nat → Int → ByteArray → Bool → Option (ByteArray)
  | 0, _, _, _ => none
  | k + 1, x0, x3, x15 => if x15 = true then (if (Int.tmod x0 10) = 1 then ((spec_Decimal.f k x0).bind fun t101 => (if t101.size + 2 ≤ 9223372036854775807 then (some (t101 ++ (⟨#[115, 116]⟩ : ByteArray))) else (none))) else (if (Int.tmod x0 10) = 2 then ((spec_Decimal.f k x0).bind fun t102 => (if t102.size + 2 ≤ 9223372036854775807 then (some (t102 ++ (⟨#[110, 100]⟩ : ByteArray))) else (none))) else (if (Int.tmod x0 10) = 3 then ((spec_Decimal.f k x0).bind fun t103 => (if t103.size + 2 ≤ 9223372036854775807 then (some (t103 ++ (⟨#[114, 100]⟩ : ByteArray))) else (none))) else ((spec_Decimal.f k x0).bind fun t104 => (if t104.size + x3.size ≤ 9223372036854775807 then (some (t104 ++ x3)) else (none)))))) else ((spec_Decimal.f k x0).bind fun t105 => (if t105.size + x3.size ≤ 9223372036854775807 then (some (t105 ++ x3)) else (none)))
def spec_Ordinal.f (k : Nat) (a0 : Int) : Option (ByteArray) := if a0 ≥ 0 then (if (Int.tmod a0 100) < 11 then (spec_Ordinal.j0 k a0 (⟨#[116, 104]⟩ : ByteArray) true) else (spec_Ordinal.j0 k a0 (⟨#[116, 104]⟩ : ByteArray) (decide ((Int.tmod a0 100) > 13)))) else (spec_Ordinal.j0 k a0 (⟨#[116, 104]⟩ : ByteArray) false)
theorem spec_Ordinal.mono_l : ∀ k, (∀ y0 y1 y2, LeO (spec_Ordinal.j0 k y0 y1 y2) (spec_Ordinal.j0 (k + 1) y0 y1 y2))
  | 0 => fun _ _ _ r h => by simp [spec_Ordinal.j0] at h
  | k + 1 => by
    have ih0 := spec_Ordinal.mono_l k
    · intro y0 y1 y2
      unfold spec_Ordinal.j0
      repeat' first
      | (with_reducible exact ih0 _ _ _)
      | (with_reducible exact spec_Decimal.mono _ _)
      | (with_reducible exact LeO.refl _)
      | (with_reducible exact LeO.none _)
      | (with_reducible refine LeO.ite ?_ ?_)
      | (with_reducible refine LeO.bind ?_ (fun _ => ?_))
      | exact ih0 _ _ _
      | exact spec_Decimal.mono _ _
      | exact LeO.none _
      | refine LeO.ite ?_ ?_
      | refine LeO.bind ?_ (fun _ => ?_)
theorem spec_Ordinal.mono : ∀ a0 k, LeO (spec_Ordinal.f k a0) (spec_Ordinal.f (k + 1) a0) := by
  intro a0 k
  have ih0 := spec_Ordinal.mono_l k
  unfold spec_Ordinal.f
  repeat' first
      | (with_reducible exact ih0 _ _ _)
      | (with_reducible exact spec_Decimal.mono _ _)
      | (with_reducible exact LeO.refl _)
      | (with_reducible exact LeO.none _)
      | (with_reducible refine LeO.ite ?_ ?_)
      | (with_reducible refine LeO.bind ?_ (fun _ => ?_))
      | exact ih0 _ _ _
      | exact spec_Decimal.mono _ _
      | exact LeO.none _
      | refine LeO.ite ?_ ?_
      | refine LeO.bind ?_ (fun _ => ?_)
set_option maxHeartbeats 8000000 in
set_option maxRecDepth 100000 in
theorem spec_Ordinal.calls (k : Nat) (a0 : Int) (r : ByteArray) (w : World) (h : spec_Ordinal.f k a0 = some r) :
    Calls Tryd.prog 8 #[.int .i64 a0] w fun e w' => e = .returned (.string r) ∧ Drawn0 w w' := by
  have H : (if a0 ≥ 0 then (if (Int.tmod a0 100) < 11 then (spec_Ordinal.j0 k a0 (⟨#[116, 104]⟩ : ByteArray) true) else (spec_Ordinal.j0 k a0 (⟨#[116, 104]⟩ : ByteArray) (decide ((Int.tmod a0 100) > 13)))) else (spec_Ordinal.j0 k a0 (⟨#[116, 104]⟩ : ByteArray) false)) = some r := h
  clear h
  have HC2 := Aside0.mk H
  clear H
  go_enter Tryd.func8, Tryd.ntmps8
  go_upto_region 2 with (fail)
  go_cut [15] (fun v15 wc => ∃ (kq : Nat) (x15_1 : Bool), v15 = .bool x15_1 ∧ Aside0 (spec_Ordinal.j0 kq a0 (⟨#[116, 104]⟩ : ByteArray) x15_1 = some r) ∧ Aside0 (kq ≤ k) ∧ Drawn0 w wc)
  case first =>
    have H := HC2.out
    clear HC2
    by_cases c3 : a0 ≥ 0
    · rw [if_pos c3] at H
      have c3b0 : decide (0 ≤ a0) = true := decide_eq_true c3
      clear c3
      (first | rw [c3b0] | (simp only [i64_w, i32_w]; rw [c3b0]) | rw [c3b2] | skip)
      by_cases c4 : (Int.tmod a0 100) < 11
      · rw [if_pos c4] at H
        have c4b0 : decide ((Int.tmod a0 100) < 11) = true := decide_eq_true c4
        clear c4
        have H' := Aside0.mk H
        clear H
        go_wp2
        go_meet
        case rel => exact ⟨_, (true), (by first | rfl | (simp; done) | (simp [*]; done)), H', ⟨by first | omega | exact Nat.le_refl _⟩, by repeat (first | exact Drawn0.refl _ | apply Drawn0.step)⟩
      · rw [if_neg c4] at H
        have c4b0 : decide ((Int.tmod a0 100) < 11) = false := decide_eq_false c4
        clear c4
        have H' := Aside0.mk H
        clear H
        go_wp2
        go_meet
        case rel => exact ⟨_, (decide ((Int.tmod a0 100) > 13)), (by first | rfl | (simp; done) | (simp [*]; done)), H', ⟨by first | omega | exact Nat.le_refl _⟩, by repeat (first | exact Drawn0.refl _ | apply Drawn0.step)⟩
    · rw [if_neg c3] at H
      have c3b0 : decide (0 ≤ a0) = false := decide_eq_false c3
      clear c3
      (first | rw [c3b0] | (simp only [i64_w, i32_w]; rw [c3b0]) | rw [c3b2] | skip)
      have H' := Aside0.mk H
      clear H
      go_wp2
      go_meet
      case rel => exact ⟨_, (false), (by first | rfl | (simp; done) | (simp [*]; done)), H', ⟨by first | omega | exact Nat.le_refl _⟩, by repeat (first | exact Drawn0.refl _ | apply Drawn0.step)⟩
  case rest =>
    clear HC2
    try clear p2
    try clear c3
    try clear c3b0
    try clear c3b2
    try clear c4
    try clear c4b0
    obtain ⟨kq, x15_1, rfl, HA, HJ1, ⟨mc1, rfl⟩⟩ := hcut
    cases kq with
    | zero => exact absurd HA.out (by simp [spec_Ordinal.j0])
    | succ kj1 =>
      have H := HA.out
      clear HA
      simp only [spec_Ordinal.j0] at H
      by_cases c5 : x15_1 = true
      · subst c5
        have H1 : (if (Int.tmod a0 10) = 1 then ((spec_Decimal.f kj1 a0).bind fun t101 => (if t101.size + 2 ≤ 9223372036854775807 then (some (t101 ++ (⟨#[115, 116]⟩ : ByteArray))) else (none))) else (if (Int.tmod a0 10) = 2 then ((spec_Decimal.f kj1 a0).bind fun t102 => (if t102.size + 2 ≤ 9223372036854775807 then (some (t102 ++ (⟨#[110, 100]⟩ : ByteArray))) else (none))) else (if (Int.tmod a0 10) = 3 then ((spec_Decimal.f kj1 a0).bind fun t103 => (if t103.size + 2 ≤ 9223372036854775807 then (some (t103 ++ (⟨#[114, 100]⟩ : ByteArray))) else (none))) else ((spec_Decimal.f kj1 a0).bind fun t104 => (if t104.size + (⟨#[116, 104]⟩ : ByteArray).size ≤ 9223372036854775807 then (some (t104 ++ (⟨#[116, 104]⟩ : ByteArray))) else (none)))))) = some r := by rw [if_pos rfl] at H; exact H
        clear H
        have H := H1
        clear H1
        by_cases c6 : (Int.tmod a0 10) = 1
        · rw [if_pos c6] at H
          have c6b0 : ((Int.tmod a0 10) == 1) = true := beq_iff_eq.mpr c6
          have c6b1 : ((Int.tmod a0 10) != 1) = false := bne_eq_false_iff_eq.mpr c6
          clear c6
          replace H := Option.bind_eq_some_iff.mp H
          obtain ⟨t101, A70, H⟩ := H
          replace H : (if t101.size + 2 ≤ 9223372036854775807 then (some (t101 ++ (⟨#[115, 116]⟩ : ByteArray))) else (none)) = some r := H
          have A7 := Aside0.mk A70
          clear A70
          by_cases c8 : t101.size + 2 ≤ 9223372036854775807
          · rw [if_pos c8] at H
            have c8b0 := eq_true c8
            have c8b1 : decide (t101.size + 2 ≤ 9223372036854775807) = true := decide_eq_true c8
            try have c8b2 : (9223372036854775807 < t101.size + 2) = False := eq_false (Nat.not_lt.2 c8)
            obtain rfl := Option.some.inj H
            go_wp2_with (first | ((with_reducible refine gate_callee (f := 18) rfl ?_); refine goesL_ (some 25) rfl rfl Tryd.func18 (by kernel_rfl) rfl #[.int .i64 a0] rfl (by (try simp only [List.map_toArray, List.map_cons, List.map_nil]); first | done | rfl | (simp only [List.length_drop, List.length_take]; rfl)) ?_; (with_reducible refine (spec_Decimal.calls kj1 a0 t101 _ A7.out).mono ?_); rintro e w' ⟨rfl, ⟨nd, rfl⟩⟩; refine ⟨_, rfl, ?_⟩))
            go_ret
            exact ⟨by first | rfl | (simp; done) | (simp [*]; done), by repeat (first | exact Drawn0.refl _ | apply Drawn0.step)⟩
          · rw [if_neg c8] at H
            exact absurd H (by simp)
        · rw [if_neg c6] at H
          have c6b0 : ((Int.tmod a0 10) == 1) = false := beq_eq_false_iff_ne.mpr c6
          have c6b1 : ((Int.tmod a0 10) != 1) = true := bne_iff_ne.mpr c6
          by_cases c9 : (Int.tmod a0 10) = 2
          · rw [if_pos c9] at H
            have c9b0 : ((Int.tmod a0 10) == 2) = true := beq_iff_eq.mpr c9
            have c9b1 : ((Int.tmod a0 10) != 2) = false := bne_eq_false_iff_eq.mpr c9
            clear c9
            replace H := Option.bind_eq_some_iff.mp H
            obtain ⟨t102, A100, H⟩ := H
            replace H : (if t102.size + 2 ≤ 9223372036854775807 then (some (t102 ++ (⟨#[110, 100]⟩ : ByteArray))) else (none)) = some r := H
            have A10 := Aside0.mk A100
            clear A100
            by_cases c11 : t102.size + 2 ≤ 9223372036854775807
            · rw [if_pos c11] at H
              have c11b0 := eq_true c11
              have c11b1 : decide (t102.size + 2 ≤ 9223372036854775807) = true := decide_eq_true c11
              try have c11b2 : (9223372036854775807 < t102.size + 2) = False := eq_false (Nat.not_lt.2 c11)
              obtain rfl := Option.some.inj H
              go_wp2_with (first | ((with_reducible refine gate_callee (f := 18) rfl ?_); refine goesL_ (some 25) rfl rfl Tryd.func18 (by kernel_rfl) rfl #[.int .i64 a0] rfl (by (try simp only [List.map_toArray, List.map_cons, List.map_nil]); first | done | rfl | (simp only [List.length_drop, List.length_take]; rfl)) ?_; (with_reducible refine (spec_Decimal.calls kj1 a0 t102 _ A10.out).mono ?_); rintro e w' ⟨rfl, ⟨nd, rfl⟩⟩; refine ⟨_, rfl, ?_⟩))
              go_ret
              exact ⟨by first | rfl | (simp; done) | (simp [*]; done), by repeat (first | exact Drawn0.refl _ | apply Drawn0.step)⟩
            · rw [if_neg c11] at H
              exact absurd H (by simp)
          · rw [if_neg c9] at H
            have c9b0 : ((Int.tmod a0 10) == 2) = false := beq_eq_false_iff_ne.mpr c9
            have c9b1 : ((Int.tmod a0 10) != 2) = true := bne_iff_ne.mpr c9
            by_cases c12 : (Int.tmod a0 10) = 3
            · rw [if_pos c12] at H
              have c12b0 : ((Int.tmod a0 10) == 3) = true := beq_iff_eq.mpr c12
              have c12b1 : ((Int.tmod a0 10) != 3) = false := bne_eq_false_iff_eq.mpr c12
              clear c12
              replace H := Option.bind_eq_some_iff.mp H
              obtain ⟨t103, A130, H⟩ := H
              replace H : (if t103.size + 2 ≤ 9223372036854775807 then (some (t103 ++ (⟨#[114, 100]⟩ : ByteArray))) else (none)) = some r := H
              have A13 := Aside0.mk A130
              clear A130
              by_cases c14 : t103.size + 2 ≤ 9223372036854775807
              · rw [if_pos c14] at H
                have c14b0 := eq_true c14
                have c14b1 : decide (t103.size + 2 ≤ 9223372036854775807) = true := decide_eq_true c14
                try have c14b2 : (9223372036854775807 < t103.size + 2) = False := eq_false (Nat.not_lt.2 c14)
                obtain rfl := Option.some.inj H
                go_wp2_with (first | ((with_reducible refine gate_callee (f := 18) rfl ?_); refine goesL_ (some 25) rfl rfl Tryd.func18 (by kernel_rfl) rfl #[.int .i64 a0] rfl (by (try simp only [List.map_toArray, List.map_cons, List.map_nil]); first | done | rfl | (simp only [List.length_drop, List.length_take]; rfl)) ?_; (with_reducible refine (spec_Decimal.calls kj1 a0 t103 _ A13.out).mono ?_); rintro e w' ⟨rfl, ⟨nd, rfl⟩⟩; refine ⟨_, rfl, ?_⟩))
                go_ret
                exact ⟨by first | rfl | (simp; done) | (simp [*]; done), by repeat (first | exact Drawn0.refl _ | apply Drawn0.step)⟩
              · rw [if_neg c14] at H
                exact absurd H (by simp)
            · rw [if_neg c12] at H
              have c12b0 : ((Int.tmod a0 10) == 3) = false := beq_eq_false_iff_ne.mpr c12
              have c12b1 : ((Int.tmod a0 10) != 3) = true := bne_iff_ne.mpr c12
              replace H := Option.bind_eq_some_iff.mp H
              obtain ⟨t104, A150, H⟩ := H
              replace H : (if t104.size + (⟨#[116, 104]⟩ : ByteArray).size ≤ 9223372036854775807 then (some (t104 ++ (⟨#[116, 104]⟩ : ByteArray))) else (none)) = some r := H
              have A15 := Aside0.mk A150
              clear A150
              by_cases c16 : t104.size + (⟨#[116, 104]⟩ : ByteArray).size ≤ 9223372036854775807
              · rw [if_pos c16] at H
                have c16b0 := eq_true c16
                have c16b1 : decide (t104.size + (⟨#[116, 104]⟩ : ByteArray).size ≤ 9223372036854775807) = true := decide_eq_true c16
                try have c16b2 : (9223372036854775807 < t104.size + (⟨#[116, 104]⟩ : ByteArray).size) = False := eq_false (Nat.not_lt.2 c16)
                obtain rfl := Option.some.inj H
                go_wp2_with (first | ((with_reducible refine gate_callee (f := 18) rfl ?_); refine goesL_ (some 25) rfl rfl Tryd.func18 (by kernel_rfl) rfl #[.int .i64 a0] rfl (by (try simp only [List.map_toArray, List.map_cons, List.map_nil]); first | done | rfl | (simp only [List.length_drop, List.length_take]; rfl)) ?_; (with_reducible refine (spec_Decimal.calls kj1 a0 t104 _ A15.out).mono ?_); rintro e w' ⟨rfl, ⟨nd, rfl⟩⟩; refine ⟨_, rfl, ?_⟩))
                go_ret
                exact ⟨by first | rfl | (simp; done) | (simp [*]; done), by repeat (first | exact Drawn0.refl _ | apply Drawn0.step)⟩
              · rw [if_neg c16] at H
                exact absurd H (by simp)
      · replace c5 := Bool.eq_false_iff.mpr c5
        subst c5
        have H1 : ((spec_Decimal.f kj1 a0).bind fun t105 => (if t105.size + (⟨#[116, 104]⟩ : ByteArray).size ≤ 9223372036854775807 then (some (t105 ++ (⟨#[116, 104]⟩ : ByteArray))) else (none))) = some r := by rw [if_neg (show ¬ (false = true) by decide)] at H; exact H
        clear H
        have H := H1
        clear H1
        replace H := Option.bind_eq_some_iff.mp H
        obtain ⟨t105, A170, H⟩ := H
        replace H : (if t105.size + (⟨#[116, 104]⟩ : ByteArray).size ≤ 9223372036854775807 then (some (t105 ++ (⟨#[116, 104]⟩ : ByteArray))) else (none)) = some r := H
        have A17 := Aside0.mk A170
        clear A170
        by_cases c18 : t105.size + (⟨#[116, 104]⟩ : ByteArray).size ≤ 9223372036854775807
        · rw [if_pos c18] at H
          have c18b0 := eq_true c18
          have c18b1 : decide (t105.size + (⟨#[116, 104]⟩ : ByteArray).size ≤ 9223372036854775807) = true := decide_eq_true c18
          try have c18b2 : (9223372036854775807 < t105.size + (⟨#[116, 104]⟩ : ByteArray).size) = False := eq_false (Nat.not_lt.2 c18)
          obtain rfl := Option.some.inj H
          go_wp2_with (first | ((with_reducible refine gate_callee (f := 18) rfl ?_); refine goesL_ (some 25) rfl rfl Tryd.func18 (by kernel_rfl) rfl #[.int .i64 a0] rfl (by (try simp only [List.map_toArray, List.map_cons, List.map_nil]); first | done | rfl | (simp only [List.length_drop, List.length_take]; rfl)) ?_; (with_reducible refine (spec_Decimal.calls kj1 a0 t105 _ A17.out).mono ?_); rintro e w' ⟨rfl, ⟨nd, rfl⟩⟩; refine ⟨_, rfl, ?_⟩))
          go_ret
          exact ⟨by first | rfl | (simp; done) | (simp [*]; done), by repeat (first | exact Drawn0.refl _ | apply Drawn0.step)⟩
        · rw [if_neg c18] at H
          exact absurd H (by simp)

/-! ### humanize_Comma: function 24 -/
mutual
def humanize_Comma.l0 : Nat → Int → Int → Int → Option (ByteArray)
  | 0, _, _, _ => none
  | k + 1, x0, x3, x4 => if x4 = 0 then (if x0 < 0 then (humanize_Comma.j1 k (wrap64 (-x0)) ((((x3 + (((x3 - 1) % 256) / 3)) % 256) + 1) % 256)) else (humanize_Comma.j1 k x0 ((x3 + (((x3 - 1) % 256) / 3)) % 256))) else (humanize_Comma.l0 k x0 ((x3 + 1) % 256) (wrap64 (Int.tdiv x4 10)))
def humanize_Comma.j1 : Nat → Int → Int → Option (ByteArray)
  | 0, _, _ => none
  | k + 1, x0, x3 => if 0 ≤ x3 then (if (x3 : Int).toNat ≤ 281474976710656 then ((some (List.replicate (x3 : Int).toNat 0 : List Int)).bind fun y109 => (humanize_Comma.l1 k x0 y109 (wrap64 ((y109.length : Int) - 1)) 0)) else (none)) else (none)
def humanize_Comma.l1 : Nat → Int → List Int → Int → Int → Option (ByteArray)
  | 0, _, _, _, _ => none
  | k + 1, x0, x5, x6, x7 => if x0 > 9 then (if 0 ≤ x6 then (if x6 < (x5.length : Int) then ((some (x5.set (x6 : Int).toNat ((((Int.tmod x0 10) % 256) + 48) % 256) : List Int)).bind fun y112 => (if x7 = 2 then (if 0 ≤ (wrap64 (x6 - 1)) then (if (wrap64 (x6 - 1)) < (x5.length : Int) then (humanize_Comma.l1 k (wrap64 (Int.tdiv x0 10)) (y112.set ((wrap64 (x6 - 1)) : Int).toNat 44) (wrap64 ((wrap64 (x6 - 1)) - 1)) 0) else (none)) else (none)) else (humanize_Comma.l1 k (wrap64 (Int.tdiv x0 10)) y112 (wrap64 (x6 - 1)) ((x7 + 1) % 256)))) else (none)) else (none)) else (if 0 ≤ x6 then (if x6 < (x5.length : Int) then ((some (x5.set (x6 : Int).toNat ((((x0) % 256) + 48) % 256) : List Int)).bind fun y114 => (if x6 = 1 then (if 0 < (x5.length : Int) then (some (strOfNums (y114.set (0 : Int).toNat 45))) else (none)) else (some (strOfNums y114)))) else (none)) else (none))
end
def humanize_Comma.f (k : Nat) (a0 : Int) : Option (ByteArray) := if (Go.bits .andNot .i64 a0 7) = 0 then (some (strOfNums (([(((a0) % 256) + 48) % 256] : List Int)))) else (if a0 = (-9223372036854775808) then (some (⟨#[45, 57, 44, 50, 50, 51, 44, 51, 55, 50, 44, 48, 51, 54, 44, 56, 53, 52, 44, 55, 55, 53, 44, 56, 48, 56]⟩ : ByteArray)) else (humanize_Comma.l0 k a0 0 a0))
theorem humanize_Comma.mono_l : ∀ k, (∀ y0 y1 y2, LeO (humanize_Comma.l0 k y0 y1 y2) (humanize_Comma.l0 (k + 1) y0 y1 y2)) ∧ (∀ y0 y1, LeO (humanize_Comma.j1 k y0 y1) (humanize_Comma.j1 (k + 1) y0 y1)) ∧ (∀ y0 y1 y2 y3, LeO (humanize_Comma.l1 k y0 y1 y2 y3) (humanize_Comma.l1 (k + 1) y0 y1 y2 y3))
  | 0 => ⟨fun _ _ _ r h => by simp [humanize_Comma.l0] at h, fun _ _ r h => by simp [humanize_Comma.j1] at h, fun _ _ _ _ r h => by simp [humanize_Comma.l1] at h⟩
  | k + 1 => by
    obtain ⟨ih0, ih1, ih2⟩ := humanize_Comma.mono_l k
    refine ⟨?_, ?_, ?_⟩
    · intro y0 y1 y2
      unfold humanize_Comma.l0
      repeat' first
      | (with_reducible exact ih0 _ _ _)
      | (with_reducible exact ih1 _ _)
      | (with_reducible exact ih2 _ _ _ _)
      | (with_reducible exact LeO.refl _)
      | (with_reducible exact LeO.none _)
      | (with_reducible refine LeO.ite ?_ ?_)
      | (with_reducible refine LeO.bind ?_ (fun _ => ?_))
      | exact ih0 _ _ _
      | exact ih1 _ _
      | exact ih2 _ _ _ _
      | exact LeO.none _
      | refine LeO.ite ?_ ?_
      | refine LeO.bind ?_ (fun _ => ?_)
    · intro y0 y1
      unfold humanize_Comma.j1
      repeat' first
      | (with_reducible exact ih0 _ _ _)
      | (with_reducible exact ih1 _ _)
      | (with_reducible exact ih2 _ _ _ _)
      | (with_reducible exact LeO.refl _)
      | (with_reducible exact LeO.none _)
      | (with_reducible refine LeO.ite ?_ ?_)
      | (with_reducible refine LeO.bind ?_ (fun _ => ?_))
      | exact ih0 _ _ _
      | exact ih1 _ _
      | exact ih2 _ _ _ _
      | exact LeO.none _
      | refine LeO.ite ?_ ?_
      | refine LeO.bind ?_ (fun _ => ?_)
    · intro y0 y1 y2 y3
      unfold humanize_Comma.l1
      repeat' first
      | (with_reducible exact ih0 _ _ _)
      | (with_reducible exact ih1 _ _)
      | (with_reducible exact ih2 _ _ _ _)
      | (with_reducible exact LeO.refl _)
      | (with_reducible exact LeO.none _)
      | (with_reducible refine LeO.ite ?_ ?_)
      | (with_reducible refine LeO.bind ?_ (fun _ => ?_))
      | exact ih0 _ _ _
      | exact ih1 _ _
      | exact ih2 _ _ _ _
      | exact LeO.none _
      | refine LeO.ite ?_ ?_
      | refine LeO.bind ?_ (fun _ => ?_)
theorem humanize_Comma.mono : ∀ a0 k, LeO (humanize_Comma.f k a0) (humanize_Comma.f (k + 1) a0) := by
  intro a0 k
  obtain ⟨ih0, ih1, ih2⟩ := humanize_Comma.mono_l k
  unfold humanize_Comma.f
  repeat' first
      | (with_reducible exact ih0 _ _ _)
      | (with_reducible exact ih1 _ _)
      | (with_reducible exact ih2 _ _ _ _)
      | (with_reducible exact LeO.refl _)
      | (with_reducible exact LeO.none _)
      | (with_reducible refine LeO.ite ?_ ?_)
      | (with_reducible refine LeO.bind ?_ (fun _ => ?_))
      | exact ih0 _ _ _
      | exact ih1 _ _
      | exact ih2 _ _ _ _
      | exact LeO.none _
      | refine LeO.ite ?_ ?_
      | refine LeO.bind ?_ (fun _ => ?_)
set_option maxHeartbeats 8000000 in
set_option maxRecDepth 100000 in
theorem humanize_Comma.calls (k : Nat) (a0 : Int) (r : ByteArray) (w : World) (h : humanize_Comma.f k a0 = some r) :
    Calls Tryd.prog 24 #[.int .i64 a0] w fun e w' => e = .returned (.string r) ∧ Below w.heap.size w w' := by
  have HB := Aside0.mk (Below.refl w.heap.size w)
  have H : (if (Go.bits .andNot .i64 a0 7) = 0 then (some (strOfNums (([(((a0) % 256) + 48) % 256] : List Int)))) else (if a0 = (-9223372036854775808) then (some (⟨#[45, 57, 44, 50, 50, 51, 44, 51, 55, 50, 44, 48, 51, 54, 44, 56, 53, 52, 44, 55, 55, 53, 44, 56, 48, 56]⟩ : ByteArray)) else (humanize_Comma.l0 k a0 0 a0))) = some r := h
  clear h
  by_cases c2 : (Go.bits .andNot .i64 a0 7) = 0
  · rw [if_pos c2] at H
    have c2b0 : ((Go.bits .andNot .i64 a0 7) == 0) = true := beq_iff_eq.mpr c2
    have c2b1 : ((Go.bits .andNot .i64 a0 7) != 0) = false := bne_eq_false_iff_eq.mpr c2
    clear c2
    obtain ⟨y106, hy106⟩ : ∃ y_ : List Int, y_ = (([(((a0) % 256) + 48) % 256] : List Int)) := ⟨_, rfl⟩
    replace H : (some (strOfNums y106)) = some r := by first | (rw [hy106]; with_reducible exact H) | (have H2_ := (Option.bind_some _ _).symm.trans H; rw [hy106]; with_reducible exact H2_) | (have H2_ := (Option.bind_some _ _).symm.trans H; with_reducible exact H2_) | with_reducible exact H | (rw [hy106]; exact H) | exact H
    have Ny106 := Aside0.mk hy106
    clear hy106
    obtain rfl := Option.some.inj H
    go_enter Tryd.func24, Tryd.ntmps24
    go_wp2_with (first | ((with_reducible refine gate_dst (N := 14) rfl ?_); refine Kd.R_lit (Kd.int .u8) _ 5 ?hg (N := 14) ?hd (xs := ([(((a0) % 256) + 48) % 256] : List Int)) (inner := [.int .u8 ((((a0) % 256) + 48) % 256)]) (ok := fun _ => True) (okp := fun _ => True) ?hr ?hp (fun _ hk => hk) trivial (Below.refl _ _) (Nat.le_refl _) (by simp) ?_; (case hd => rfl); (case hg => rfl); (case hr => first | (go_simp; done) | (go_simp; rfl)); (case hp => exact (Reps.one (show Kd.M (Kd.int .u8) _ _ _ ((((a0) % 256) + 48) % 256) [.int .u8 ((((a0) % 256) + 48) % 256)] from rfl) (Reps.none _ _))); intro v107 w3 ho4 hb hg_ hnew_; clear hg_ hnew_; (first | rw [← Ny106.out] at ho4 | (simp only [Int.reduceToNat] at ho4; rw [← Ny106.out] at ho4)); have n0_ := Aside0.mk (Kd.R_lower ho4 (below_size (by repeat (first | (with_reducible first | exact HB.out | apply below_alloc | apply pw_below_drewN | apply below_drew1) | exact HB.out)))); have n1_ := Aside0.mk (below_step (by repeat (first | (with_reducible first | exact HB.out | apply below_alloc | apply pw_below_drewN | apply below_drew1) | exact HB.out)) hb); clear HB; have HO108 := n0_; have HB := n1_; clear n0_ n1_; clear hb ho4; have hcv5 := own_string (P := Tryd.prog) Tryd.underlying61 Tryd.underlying5 Tryd.underlying9 (Kd.own_of_R HO108.out)))
    go_ret
    exact ⟨by first | rfl | (simp [errW_none, errW_some] <;> rfl) | (simp [*, errW_none, errW_some] <;> rfl), by repeat (first | (with_reducible first | exact HB.out | apply below_alloc | apply pw_below_drewN | apply below_drew1) | exact HB.out)⟩
  · rw [if_neg c2] at H
    have c2b0 : ((Go.bits .andNot .i64 a0 7) == 0) = false := beq_eq_false_iff_ne.mpr c2
    have c2b1 : ((Go.bits .andNot .i64 a0 7) != 0) = true := bne_iff_ne.mpr c2
    by_cases c6 : a0 = (-9223372036854775808)
    · rw [if_pos c6] at H
      have c6b0 : (a0 == (-9223372036854775808)) = true := beq_iff_eq.mpr c6
      have c6b1 : (a0 != (-9223372036854775808)) = false := bne_eq_false_iff_eq.mpr c6
      clear c6
      obtain rfl := Option.some.inj H
      go_enter Tryd.func24, Tryd.ntmps24
      go_wp2
      go_ret
      exact ⟨by first | rfl | (simp [errW_none, errW_some] <;> rfl) | (simp [*, errW_none, errW_some] <;> rfl), by repeat (first | (with_reducible first | exact HB.out | apply below_alloc | apply pw_below_drewN | apply below_drew1) | exact HB.out)⟩
    · rw [if_neg c6] at H
      have c6b0 : (a0 == (-9223372036854775808)) = false := beq_eq_false_iff_ne.mpr c6
      have c6b1 : (a0 != (-9223372036854775808)) = true := bne_iff_ne.mpr c6
      have H' := Aside0.mk H
      clear H
      go_enter Tryd.func24, Tryd.ntmps24
      go_wp2
      go_loopg [3, 4] k (fun kq v3 v4 w' => ∃ (x3_1 : Int) (x4_1 : Int), v3 = .int .u8 x3_1 ∧ v4 = .int .i64 x4_1 ∧ Aside0 (humanize_Comma.l0 kq a0 x3_1 x4_1 = some r) ∧ Aside0 (kq ≤ k) ∧ Aside0 (Below w.heap.size w w'))
      case atStart => exact ⟨(0), (a0), (by first | rfl | (simp; done) | (simp [*]; done)), (by first | rfl | (simp; done) | (simp [*]; done)), H', ⟨Nat.le_refl _⟩, ⟨by repeat (first | (with_reducible first | exact HB.out | apply below_alloc | apply pw_below_drewN | apply below_drew1) | exact HB.out)⟩⟩
      case round =>
        clear H'
        try clear c2
        try clear c2b0
        try clear c2b1
        try clear p2
        try clear hcv5
        try clear c6
        try clear c6b0
        try clear c6b1
        obtain ⟨x3_1, x4_1, rfl, rfl, HA, HK1, HB⟩ := hrel
        cases gk with
        | zero => exact absurd HA.out (by simp [humanize_Comma.l0])
        | succ k1 =>
          have H := HA.out
          clear HA
          simp only [humanize_Comma.l0] at H
          by_cases c7 : x4_1 = 0
          · rw [if_pos c7] at H
            have c7b0 : (x4_1 == 0) = true := beq_iff_eq.mpr c7
            have c7b1 : (x4_1 != 0) = false := bne_eq_false_iff_eq.mpr c7
            clear c7
            have HC8 := Aside0.mk H
            clear H
            go_upto_if 31 with (fail)
            go_cut [0, 3] (fun v0 v3 wc => ∃ (kq : Nat) (x0_7 : Int) (x3_7 : Int), v0 = .int .i64 x0_7 ∧ v3 = .int .u8 x3_7 ∧ Aside0 (humanize_Comma.j1 kq x0_7 x3_7 = some r) ∧ Aside0 (kq ≤ k1) ∧ Aside0 (Below w.heap.size w wc))
            case first =>
              have H := HC8.out
              clear HC8
              by_cases c9 : a0 < 0
              · rw [if_pos c9] at H
                have c9b0 : decide (a0 < 0) = true := decide_eq_true c9
                clear c9
                (first | rw [c9b0] | (simp only [i64_w, i32_w]; rw [c9b0]) | rw [c9b2] | skip)
                have H' := Aside0.mk H
                clear H
                go_wp2
                go_meet
                case rel => exact ⟨_, (wrap64 (-a0)), ((((x3_1 + (((x3_1 - 1) % 256) / 3)) % 256) + 1) % 256), (by first | rfl | (simp; done) | (simp [*]; done)), (by first | rfl | (simp; done) | (simp [*]; done)), H', ⟨by have := HK1.out; first | omega | exact Nat.le_refl _⟩, ⟨by repeat (first | (with_reducible first | exact HB.out | apply below_alloc | apply pw_below_drewN | apply below_drew1) | exact HB.out)⟩⟩
              · rw [if_neg c9] at H
                have c9b0 : decide (a0 < 0) = false := decide_eq_false c9
                clear c9
                (first | rw [c9b0] | (simp only [i64_w, i32_w]; rw [c9b0]) | rw [c9b2] | skip)
                have H' := Aside0.mk H
                clear H
                go_wp2
                go_meet
                case rel => exact ⟨_, (a0), ((x3_1 + (((x3_1 - 1) % 256) / 3)) % 256), (by first | rfl | (simp; done) | (simp [*]; done)), (by first | rfl | (simp; done) | (simp [*]; done)), H', ⟨by have := HK1.out; first | omega | exact Nat.le_refl _⟩, ⟨by repeat (first | (with_reducible first | exact HB.out | apply below_alloc | apply pw_below_drewN | apply below_drew1) | exact HB.out)⟩⟩
            case rest =>
              clear HC8
              try clear c2
              try clear c2b0
              try clear c2b1
              try clear p2
              try clear hcv5
              try clear c6
              try clear c6b0
              try clear c6b1
              try clear p6
              try clear c7
              try clear c7b0
              try clear c7b1
              try clear c9
              try clear c9b0
              try clear c9b2
              try clear p2
              obtain ⟨kq, x0_7, x3_7, rfl, rfl, HA, HJ7, HB⟩ := hcut
              cases kq with
              | zero => exact absurd HA.out (by simp [humanize_Comma.j1])
              | succ kj7 =>
                have H := HA.out
                clear HA
                simp only [humanize_Comma.j1] at H
                by_cases c10 : 0 ≤ x3_7
                · rw [if_pos c10] at H
                  have c10b0 := eq_true c10
                  have c10b1 : decide (0 ≤ x3_7) = true := decide_eq_true c10
                  clear c10
                  by_cases c11 : (x3_7 : Int).toNat ≤ 281474976710656
                  · rw [if_pos c11] at H
                    have c11b0 := eq_true c11
                    have c11b1 : decide ((x3_7 : Int).toNat ≤ 281474976710656) = true := decide_eq_true c11
                    clear c11
                    obtain ⟨y109, hy109⟩ : ∃ y_ : List Int, y_ = (List.replicate (x3_7 : Int).toNat 0) := ⟨_, rfl⟩
                    replace H : (humanize_Comma.l1 kj7 x0_7 y109 (wrap64 ((y109.length : Int) - 1)) 0) = some r := by first | (rw [hy109]; with_reducible exact H) | (have H2_ := (Option.bind_some _ _).symm.trans H; rw [hy109]; with_reducible exact H2_) | (have H2_ := (Option.bind_some _ _).symm.trans H; with_reducible exact H2_) | with_reducible exact H | (rw [hy109]; exact H) | exact H
                    have Ny109 := Aside0.mk hy109
                    clear hy109
                    have H' := Aside0.mk H
                    clear H
                    go_wp2_with (first | ((with_reducible refine gate_dst (N := 37) rfl ?_); refine Kd.R_make (Kd.int .u8) _ 5 rfl (N := 37) rfl 61 _ _ rfl x3_7 rfl rfl Tryd.underlying61 (.int .u8 0) 1 info5 rfl (by decide) (by omega) 0 (ok := fun _ => True) (okp := fun _ => True) rfl (fun _ hk => hk) trivial (of_decide_eq_true (by first | (with_reducible assumption) | assumption)) (Nat.le_trans (Nat.mul_le_mul_right _ (of_decide_eq_true (by first | (with_reducible assumption) | assumption) : x3_7.toNat ≤ 281474976710656)) (by omega)) (Below.refl _ _) (Nat.le_refl _) ?_; intro v110 w12 ho13 hb hg_ hnew_; clear hg_ hnew_; (first | rw [← Ny109.out] at ho13 | (simp only [Int.reduceToNat] at ho13; rw [← Ny109.out] at ho13)); have n0_ := Aside0.mk (Kd.R_lower ho13 (below_size (by repeat (first | (with_reducible first | exact HB.out | apply below_alloc | apply pw_below_drewN | apply below_drew1) | exact HB.out)))); have n1_ := Aside0.mk (below_step (by repeat (first | (with_reducible first | exact HB.out | apply below_alloc | apply pw_below_drewN | apply below_drew1) | exact HB.out)) hb); clear HB; have HO111 := n0_; have HB := n1_; clear n0_ n1_; clear hb ho13; obtain ⟨Ao14, co14, eo14⟩ := Kd.R_slice HO111.out; subst eo14))
                    go_loopg [0, 6, 7] kj7 (fun kq v0 v6 v7 w' => ∃ (x0_3 : Int) (x5_3 : List Int) (x6_3 : Int) (x7_3 : Int), v0 = .int .i64 x0_3 ∧ v6 = .int .i64 x6_3 ∧ v7 = .int .u8 x7_3 ∧ Aside0 (humanize_Comma.l1 kq x0_3 x5_3 x6_3 x7_3 = some r) ∧ Aside0 (kq ≤ kj7) ∧ Aside0 (Kd.R (Kd.int .u8) 5 w' w.heap.size (fun _ => True) (.slice Ao14 y109.length co14) x5_3) ∧ Aside0 (Below w.heap.size w w'))
                    case atStart => exact ⟨(x0_7), (y109), (wrap64 ((y109.length : Int) - 1)), (0), (by first | rfl | (simp; done) | (simp [*]; done)), (by first | rfl | (simp; done) | (simp [*]; done)), (by first | rfl | (simp; done) | (simp [*]; done)), H', ⟨Nat.le_refl _⟩, ⟨by (with_reducible repeat (first | apply Kd.R_alloc | apply Kd.R_drewN | apply Kd.R_drew)); exact HO111.out⟩, ⟨by repeat (first | (with_reducible first | exact HB.out | apply below_alloc | apply pw_below_drewN | apply below_drew1) | exact HB.out)⟩⟩
                    case round =>
                      clear H'
                      try clear c1
                      try clear c2
                      try clear c2b0
                      try clear c2b1
                      try clear p2
                      try clear hcv5
                      try clear c6
                      try clear c6b0
                      try clear c6b1
                      try clear p6
                      try clear c7
                      try clear c7b0
                      try clear c7b1
                      try clear c9
                      try clear c9b0
                      try clear c9b2
                      try clear c10
                      try clear c10b0
                      try clear c10b1
                      try clear c11
                      try clear c11b0
                      try clear c11b1
                      try clear p2
                      try clear p6
                      obtain ⟨x0_3, x5_3, x6_3, x7_3, rfl, rfl, rfl, HA, HK3, HO_5, HB⟩ := hrel
                      have hl5_3 := (Kd.R_reads' HO_5.out).1
                      rw [hl5_3] at HO_5
                      (try simp only [hl5_3])
                      cases gk with
                      | zero => exact absurd HA.out (by simp [humanize_Comma.l1])
                      | succ k3 =>
                        have H := HA.out
                        clear HA
                        simp only [humanize_Comma.l1] at H
                        by_cases c15 : x0_3 > 9
                        · rw [if_pos c15] at H
                          have c15b0 : decide (9 < x0_3) = true := decide_eq_true c15
                          clear c15
                          by_cases c16 : 0 ≤ x6_3
                          · rw [if_pos c16] at H
                            have c16b0 : decide (0 ≤ x6_3) = true := decide_eq_true c16
                            clear c16
                            by_cases c17 : x6_3 < (x5_3.length : Int)
                            · rw [if_pos c17] at H
                              have c17b0 : decide (x6_3 < (x5_3.length : Int)) = true := decide_eq_true c17
                              clear c17
                              obtain ⟨y112, hy112⟩ : ∃ y_ : List Int, y_ = (x5_3.set (x6_3 : Int).toNat ((((Int.tmod x0_3 10) % 256) + 48) % 256)) := ⟨_, rfl⟩
                              replace H : (if x7_3 = 2 then (if 0 ≤ (wrap64 (x6_3 - 1)) then (if (wrap64 (x6_3 - 1)) < (x5_3.length : Int) then (humanize_Comma.l1 k3 (wrap64 (Int.tdiv x0_3 10)) (y112.set ((wrap64 (x6_3 - 1)) : Int).toNat 44) (wrap64 ((wrap64 (x6_3 - 1)) - 1)) 0) else (none)) else (none)) else (humanize_Comma.l1 k3 (wrap64 (Int.tdiv x0_3 10)) y112 (wrap64 (x6_3 - 1)) ((x7_3 + 1) % 256))) = some r := by first | (rw [hy112]; with_reducible exact H) | (have H2_ := (Option.bind_some _ _).symm.trans H; rw [hy112]; with_reducible exact H2_) | (have H2_ := (Option.bind_some _ _).symm.trans H; with_reducible exact H2_) | with_reducible exact H | (rw [hy112]; exact H) | exact H
                              have Ny112 := Aside0.mk hy112
                              clear hy112
                              by_cases c19 : x7_3 = 2
                              · rw [if_pos c19] at H
                                have c19b0 : (x7_3 == 2) = true := beq_iff_eq.mpr c19
                                have c19b1 : (x7_3 != 2) = false := bne_eq_false_iff_eq.mpr c19
                                clear c19
                                obtain ⟨ji20, hji20⟩ : ∃ j_ : Int, (wrap64 (x6_3 - 1)) = j_ := ⟨_, rfl⟩
                                replace H : (if 0 ≤ (ji20) then (if (ji20) < (x5_3.length : Int) then (humanize_Comma.l1 k3 (wrap64 (Int.tdiv x0_3 10)) (y112.set ((ji20) : Int).toNat 44) (wrap64 ((ji20) - 1)) 0) else (none)) else (none)) = some r := by first | (rw [hji20] at H; exact H) | (simp only [hji20] at H ⊢; exact H)
                                have hji20w : (IntKind.i64.wrap (x6_3 - 1)) = ji20 := (i64_w _).trans hji20
                                by_cases c21 : 0 ≤ (ji20)
                                · rw [if_pos c21] at H
                                  have c21b0 : decide (0 ≤ (ji20)) = true := decide_eq_true c21
                                  clear c21
                                  by_cases c22 : (ji20) < (x5_3.length : Int)
                                  · rw [if_pos c22] at H
                                    have c22b0 : decide ((ji20) < (x5_3.length : Int)) = true := decide_eq_true c22
                                    clear c22
                                    obtain ⟨y113, hy113⟩ : ∃ y_ : List Int, y_ = (y112.set ((ji20) : Int).toNat 44) := ⟨_, rfl⟩
                                    replace H : (humanize_Comma.l1 k3 (wrap64 (Int.tdiv x0_3 10)) y113 (wrap64 ((ji20) - 1)) 0) = some r := by first | (rw [hy113]; with_reducible exact H) | (have H2_ := (Option.bind_some _ _).symm.trans H; rw [hy113]; with_reducible exact H2_) | (have H2_ := (Option.bind_some _ _).symm.trans H; with_reducible exact H2_) | with_reducible exact H | (rw [hy113]; exact H) | exact H
                                    have Ny113 := Aside0.mk hy113
                                    clear hy113
                                    have H' := Aside0.mk H
                                    clear H
                                    have p18 : 0 ≤ (x6_3 : Int) := of_decide_eq_true (by first | (with_reducible assumption) | assumption)
                                    have q18 : (x6_3 : Int) < ((x5_3.length : Int) : Int) := of_decide_eq_true (by first | (with_reducible assumption) | assumption)
                                    obtain ⟨go18, co18, eo18, gb18, gl18, cl18, HG18⟩ := Kd.R_form HO_5.out (by omega)
                                    (first | cases eo18 | (injection eo18 with ea_ en_ ec_; (first | subst ea_ | (injection ea_ with ea_; subst ea_)); subst ec_; clear en_))
                                    have GB18 := Aside0.mk gb18
                                    have GG18 := Aside0.mk HG18
                                    clear gb18 gl18 HG18
                                    obtain ⟨hx18_0, hf18_0⟩ := Kd.R_celln 0 HO_5.out (x6_3 : Int) p18 q18
                                    replace p18 := eq_true p18
                                    replace q18 := eq_true q18
                                    have HP24 := Kd.R_putg HO_5.out (x6_3 : Int) ((((Int.tmod x0_3 10) % 256) + 48) % 256)
                                    go_wp2_with (first | ((with_reducible refine gate_store (t := 5) (p := 49) rfl ?_); refine store_event (t := 5) (p := 49) (v := ?vo_w25) (w1 := (wr.setCell ⟨go18, (x6_3 : Int).toNat, none⟩ (.int .u8 ((((Int.tmod x0_3 10) % 256) + 48) % 256)))) ?hg ?ho ?hn ?hr ?_; (case ho => rfl); (case hg => rfl); (case hn => rfl); (case hr => first | (go_simp; done) | (go_simp; rfl)); intro w25 hw; have hg : wr.grownBy w25 (some go18) := (by rw [hw]; exact HP24.2); have hp_ : Kd.R (Kd.int .u8) 5 w25 w.heap.size (fun _ => True) (.slice (some ⟨go18, 0, none⟩) x5_3.length co14) y112 := (by rw [hw, Ny112.out]; exact HP24.1); clear HP24; have n0_ := Aside0.mk (hp_); have n1_ := Aside0.mk ((by rw [hw]; exact below_set (HB.out) GB18.out : Below w.heap.size w w25)); clear HO_5; clear HB; have HO_5 := n0_; have HB := n1_; clear n0_ n1_; clear hg hw hp_; have p23 : 0 ≤ ((ji20) : Int) := of_decide_eq_true (by first | (with_reducible assumption) | assumption); have q23 : ((ji20) : Int) < ((x5_3.length : Int) : Int) := of_decide_eq_true (by first | (with_reducible assumption) | assumption); obtain ⟨hx23_0, hf23_0⟩ := Kd.R_celln 0 HO_5.out ((ji20) : Int) p23 q23; replace p23 := eq_true p23; replace q23 := eq_true q23; obtain ⟨hy26_, hz26_⟩ := Kd.R_celln 0 HO_5.out ((ji20) : Int) (of_decide_eq_true (by first | (with_reducible assumption) | assumption)) (of_decide_eq_true (by first | (with_reducible assumption) | assumption)); have HP26 := Kd.R_putg HO_5.out ((ji20) : Int) 44) | ((with_reducible refine gate_store (t := 5) (p := 58) rfl ?_); refine store_event (t := 5) (p := 58) (v := ?vo_w27) (w1 := (w25.setCell ⟨go18, ((ji20) : Int).toNat, none⟩ (.int .u8 44))) ?hg ?ho ?hn ?hr ?_; (case ho => rfl); (case hg => rfl); (case hn => rfl); (case hr => first | (go_simp; done) | (go_simp; rfl)); intro w27 hw; have hg : w25.grownBy w27 (some go18) := (by rw [hw]; exact HP26.2); have hp_ : Kd.R (Kd.int .u8) 5 w27 w.heap.size (fun _ => True) (.slice (some ⟨go18, 0, none⟩) x5_3.length co14) y113 := (by rw [hw, Ny113.out]; exact HP26.1); clear HP26; have n0_ := Aside0.mk (hp_); have n1_ := Aside0.mk ((by rw [hw]; exact below_set (HB.out) GB18.out : Below w.heap.size w w27)); clear HO_5; clear HB; have HO_5 := n0_; have HB := n1_; clear n0_ n1_; clear hg hw hp_))
                                    (try simp only [← hl5_3])
                                    go_roundg k3
                                    case measure => have := HK1.out; have := HJ7.out; have := HK3.out; omega
                                    case rel => exact ⟨(wrap64 (Int.tdiv x0_3 10)), (y113), (wrap64 ((ji20) - 1)), (0), (by first | rfl | (simp; done) | (simp [*]; done)), (by first | rfl | (simp; done) | (simp only [← hji20] <;> (first | rfl | simp)) | (simp [*]; done)), (by first | rfl | (simp; done) | (simp [*]; done)), H', ⟨by have := HK1.out; have := HJ7.out; have := HK3.out; omega⟩, ⟨by (try simp only [hl5_3]); (with_reducible repeat (first | apply Kd.R_alloc | apply Kd.R_drewN | apply Kd.R_drew)); exact HO_5.out⟩, ⟨by repeat (first | (with_reducible first | exact HB.out | apply below_alloc | apply pw_below_drewN | apply below_drew1) | exact HB.out)⟩⟩
                                  · rw [if_neg c22] at H
                                    exact absurd H (by simp)
                                · rw [if_neg c21] at H
                                  exact absurd H (by simp)
                              · rw [if_neg c19] at H
                                have c19b0 : (x7_3 == 2) = false := beq_eq_false_iff_ne.mpr c19
                                have c19b1 : (x7_3 != 2) = true := bne_iff_ne.mpr c19
                                have H' := Aside0.mk H
                                clear H
                                have p18 : 0 ≤ (x6_3 : Int) := of_decide_eq_true (by first | (with_reducible assumption) | assumption)
                                have q18 : (x6_3 : Int) < ((x5_3.length : Int) : Int) := of_decide_eq_true (by first | (with_reducible assumption) | assumption)
                                obtain ⟨go18, co18, eo18, gb18, gl18, cl18, HG18⟩ := Kd.R_form HO_5.out (by omega)
                                (first | cases eo18 | (injection eo18 with ea_ en_ ec_; (first | subst ea_ | (injection ea_ with ea_; subst ea_)); subst ec_; clear en_))
                                have GB18 := Aside0.mk gb18
                                have GG18 := Aside0.mk HG18
                                clear gb18 gl18 HG18
                                obtain ⟨hx18_0, hf18_0⟩ := Kd.R_celln 0 HO_5.out (x6_3 : Int) p18 q18
                                replace p18 := eq_true p18
                                replace q18 := eq_true q18
                                have HP28 := Kd.R_putg HO_5.out (x6_3 : Int) ((((Int.tmod x0_3 10) % 256) + 48) % 256)
                                go_wp2_with (first | ((with_reducible refine gate_store (t := 5) (p := 49) rfl ?_); refine store_event (t := 5) (p := 49) (v := ?vo_w29) (w1 := (wr.setCell ⟨go18, (x6_3 : Int).toNat, none⟩ (.int .u8 ((((Int.tmod x0_3 10) % 256) + 48) % 256)))) ?hg ?ho ?hn ?hr ?_; (case ho => rfl); (case hg => rfl); (case hn => rfl); (case hr => first | (go_simp; done) | (go_simp; rfl)); intro w29 hw; have hg : wr.grownBy w29 (some go18) := (by rw [hw]; exact HP28.2); have hp_ : Kd.R (Kd.int .u8) 5 w29 w.heap.size (fun _ => True) (.slice (some ⟨go18, 0, none⟩) x5_3.length co14) y112 := (by rw [hw, Ny112.out]; exact HP28.1); clear HP28; have n0_ := Aside0.mk (hp_); have n1_ := Aside0.mk ((by rw [hw]; exact below_set (HB.out) GB18.out : Below w.heap.size w w29)); clear HO_5; clear HB; have HO_5 := n0_; have HB := n1_; clear n0_ n1_; clear hg hw hp_))
                                (try simp only [← hl5_3])
                                go_roundg k3
                                case measure => have := HK1.out; have := HJ7.out; have := HK3.out; omega
                                case rel => exact ⟨(wrap64 (Int.tdiv x0_3 10)), (y112), (wrap64 (x6_3 - 1)), ((x7_3 + 1) % 256), (by first | rfl | (simp; done) | (simp [*]; done)), (by first | rfl | (simp; done) | (simp [*]; done)), (by first | rfl | (simp; done) | (simp [*]; done)), H', ⟨by have := HK1.out; have := HJ7.out; have := HK3.out; omega⟩, ⟨by (try simp only [hl5_3]); (with_reducible repeat (first | apply Kd.R_alloc | apply Kd.R_drewN | apply Kd.R_drew)); exact HO_5.out⟩, ⟨by repeat (first | (with_reducible first | exact HB.out | apply below_alloc | apply pw_below_drewN | apply below_drew1) | exact HB.out)⟩⟩
                            · rw [if_neg c17] at H
                              exact absurd H (by simp)
                          · rw [if_neg c16] at H
                            exact absurd H (by simp)
                        · rw [if_neg c15] at H
                          have c15b0 : decide (9 < x0_3) = false := decide_eq_false c15
                          clear c15
                          by_cases c30 : 0 ≤ x6_3
                          · rw [if_pos c30] at H
                            have c30b0 : decide (0 ≤ x6_3) = true := decide_eq_true c30
                            clear c30
                            by_cases c31 : x6_3 < (x5_3.length : Int)
                            · rw [if_pos c31] at H
                              have c31b0 : decide (x6_3 < (x5_3.length : Int)) = true := decide_eq_true c31
                              clear c31
                              obtain ⟨y114, hy114⟩ : ∃ y_ : List Int, y_ = (x5_3.set (x6_3 : Int).toNat ((((x0_3) % 256) + 48) % 256)) := ⟨_, rfl⟩
                              replace H : (if x6_3 = 1 then (if 0 < (x5_3.length : Int) then (some (strOfNums (y114.set (0 : Int).toNat 45))) else (none)) else (some (strOfNums y114))) = some r := by first | (rw [hy114]; with_reducible exact H) | (have H2_ := (Option.bind_some _ _).symm.trans H; rw [hy114]; with_reducible exact H2_) | (have H2_ := (Option.bind_some _ _).symm.trans H; with_reducible exact H2_) | with_reducible exact H | (rw [hy114]; exact H) | exact H
                              have Ny114 := Aside0.mk hy114
                              clear hy114
                              by_cases c33 : x6_3 = 1
                              · rw [if_pos c33] at H
                                have c33b0 : (x6_3 == 1) = true := beq_iff_eq.mpr c33
                                have c33b1 : (x6_3 != 1) = false := bne_eq_false_iff_eq.mpr c33
                                clear c33
                                by_cases c34 : 0 < (x5_3.length : Int)
                                · rw [if_pos c34] at H
                                  have c34b0 : decide (0 < (x5_3.length : Int)) = true := decide_eq_true c34
                                  have c34b1 : decide (0 < x5_3.length) = true := decide_eq_true (by omega)
                                  clear c34
                                  obtain ⟨y115, hy115⟩ : ∃ y_ : List Int, y_ = (y114.set (0 : Int).toNat 45) := ⟨_, rfl⟩
                                  replace H : (some (strOfNums y115)) = some r := by first | (rw [hy115]; with_reducible exact H) | (have H2_ := (Option.bind_some _ _).symm.trans H; rw [hy115]; with_reducible exact H2_) | (have H2_ := (Option.bind_some _ _).symm.trans H; with_reducible exact H2_) | with_reducible exact H | (rw [hy115]; exact H) | exact H
                                  have Ny115 := Aside0.mk hy115
                                  clear hy115
                                  obtain rfl := Option.some.inj H
                                  have p32 : 0 ≤ (x6_3 : Int) := of_decide_eq_true (by first | (with_reducible assumption) | assumption)
                                  have q32 : (x6_3 : Int) < ((x5_3.length : Int) : Int) := of_decide_eq_true (by first | (with_reducible assumption) | assumption)
                                  obtain ⟨go32, co32, eo32, gb32, gl32, cl32, HG32⟩ := Kd.R_form HO_5.out (by omega)
                                  (first | cases eo32 | (injection eo32 with ea_ en_ ec_; (first | subst ea_ | (injection ea_ with ea_; subst ea_)); subst ec_; clear en_))
                                  have GB32 := Aside0.mk gb32
                                  have GG32 := Aside0.mk HG32
                                  clear gb32 gl32 HG32
                                  obtain ⟨hx32_0, hf32_0⟩ := Kd.R_celln 0 HO_5.out (x6_3 : Int) p32 q32
                                  replace p32 := eq_true p32
                                  replace q32 := eq_true q32
                                  have HP36 := Kd.R_putg HO_5.out (x6_3 : Int) ((((x0_3) % 256) + 48) % 256)
                                  go_wp2_with (first | ((with_reducible refine gate_store (t := 5) (p := 68) rfl ?_); refine store_event (t := 5) (p := 68) (v := ?vo_w37) (w1 := (wr.setCell ⟨go32, (x6_3 : Int).toNat, none⟩ (.int .u8 ((((x0_3) % 256) + 48) % 256)))) ?hg ?ho ?hn ?hr ?_; (case ho => rfl); (case hg => rfl); (case hn => rfl); (case hr => first | (go_simp; done) | (go_simp; rfl)); intro w37 hw; have hg : wr.grownBy w37 (some go32) := (by rw [hw]; exact HP36.2); have hp_ : Kd.R (Kd.int .u8) 5 w37 w.heap.size (fun _ => True) (.slice (some ⟨go32, 0, none⟩) x5_3.length co14) y114 := (by rw [hw, Ny114.out]; exact HP36.1); clear HP36; have n0_ := Aside0.mk (hp_); have n1_ := Aside0.mk ((by rw [hw]; exact below_set (HB.out) GB32.out : Below w.heap.size w w37)); clear HO_5; clear HB; have HO_5 := n0_; have HB := n1_; clear n0_ n1_; clear hg hw hp_; have p35 : 0 ≤ (0 : Int) := (by omega); have q35 : (0 : Int) < ((x5_3.length : Int) : Int) := of_decide_eq_true (by first | (with_reducible assumption) | assumption); have qi35 : (0 < x5_3.length) = True := eq_true (by omega); obtain ⟨hx35_0, hf35_0⟩ := Kd.R_celln 0 HO_5.out (0 : Int) p35 q35; (try rw [show ((0 : Int)).toNat = 0 from rfl] at hx35_0); (try simp only [Nat.reduceMul, Nat.zero_mul, Nat.zero_add, Nat.reduceAdd] at hx35_0); (try rw [show ((0 : Int)).toNat = 0 from rfl] at hf35_0); (try simp only [Nat.reduceMul, Nat.zero_mul, Nat.zero_add, Nat.reduceAdd] at hf35_0); replace p35 := eq_true p35; replace q35 := eq_true q35; obtain ⟨hy38_, hz38_⟩ := Kd.R_celln 0 HO_5.out (0 : Int) (by omega) (of_decide_eq_true (by first | (with_reducible assumption) | assumption)); (try simp only [Int.reduceToNat, Int.toNat_zero, Int.toNat_ofNat, Nat.reduceMul, Nat.zero_mul, Nat.zero_add] at hy38_ hz38_); (try rw [show ((0 : Int)).toNat = 0 from rfl] at hy38_); (try rw [show ((0 : Int)).toNat = 0 from rfl] at hz38_); have HP38 := Kd.R_putg HO_5.out (0 : Int) 45) | ((with_reducible refine gate_store (t := 5) (p := 72) rfl ?_); refine store_event (t := 5) (p := 72) (v := ?vo_w39) (w1 := (w37.setCell ⟨go32, (0 : Int).toNat, none⟩ (.int .u8 45))) ?hg ?ho ?hn ?hr ?_; (case ho => rfl); (case hg => rfl); (case hn => rfl); (case hr => first | (go_simp; done) | (go_simp; rfl)); intro w39 hw; have hg : w37.grownBy w39 (some go32) := (by rw [hw]; exact HP38.2); have hp_ : Kd.R (Kd.int .u8) 5 w39 w.heap.size (fun _ => True) (.slice (some ⟨go32, 0, none⟩) x5_3.length co14) y115 := (by rw [hw, Ny115.out]; exact HP38.1); clear HP38; have n0_ := Aside0.mk (hp_); have n1_ := Aside0.mk ((by rw [hw]; exact below_set (HB.out) GB32.out : Below w.heap.size w w39)); clear HO_5; clear HB; have HO_5 := n0_; have HB := n1_; clear n0_ n1_; clear hg hw hp_; have hcv40 := own_string (P := Tryd.prog) Tryd.underlying61 Tryd.underlying5 Tryd.underlying9 (Kd.own_of_R HO_5.out)))
                                  go_ret
                                  exact ⟨by first | rfl | (simp [errW_none, errW_some] <;> rfl) | (simp [*, errW_none, errW_some] <;> rfl), by repeat (first | (with_reducible first | exact HB.out | apply below_alloc | apply pw_below_drewN | apply below_drew1) | exact HB.out)⟩
                                · rw [if_neg c34] at H
                                  exact absurd H (by simp)
                              · rw [if_neg c33] at H
                                have c33b0 : (x6_3 == 1) = false := beq_eq_false_iff_ne.mpr c33
                                have c33b1 : (x6_3 != 1) = true := bne_iff_ne.mpr c33
                                obtain rfl := Option.some.inj H
                                have p32 : 0 ≤ (x6_3 : Int) := of_decide_eq_true (by first | (with_reducible assumption) | assumption)
                                have q32 : (x6_3 : Int) < ((x5_3.length : Int) : Int) := of_decide_eq_true (by first | (with_reducible assumption) | assumption)
                                obtain ⟨go32, co32, eo32, gb32, gl32, cl32, HG32⟩ := Kd.R_form HO_5.out (by omega)
                                (first | cases eo32 | (injection eo32 with ea_ en_ ec_; (first | subst ea_ | (injection ea_ with ea_; subst ea_)); subst ec_; clear en_))
                                have GB32 := Aside0.mk gb32
                                have GG32 := Aside0.mk HG32
                                clear gb32 gl32 HG32
                                obtain ⟨hx32_0, hf32_0⟩ := Kd.R_celln 0 HO_5.out (x6_3 : Int) p32 q32
                                replace p32 := eq_true p32
                                replace q32 := eq_true q32
                                have HP41 := Kd.R_putg HO_5.out (x6_3 : Int) ((((x0_3) % 256) + 48) % 256)
                                go_wp2_with (first | ((with_reducible refine gate_store (t := 5) (p := 68) rfl ?_); refine store_event (t := 5) (p := 68) (v := ?vo_w42) (w1 := (wr.setCell ⟨go32, (x6_3 : Int).toNat, none⟩ (.int .u8 ((((x0_3) % 256) + 48) % 256)))) ?hg ?ho ?hn ?hr ?_; (case ho => rfl); (case hg => rfl); (case hn => rfl); (case hr => first | (go_simp; done) | (go_simp; rfl)); intro w42 hw; have hg : wr.grownBy w42 (some go32) := (by rw [hw]; exact HP41.2); have hp_ : Kd.R (Kd.int .u8) 5 w42 w.heap.size (fun _ => True) (.slice (some ⟨go32, 0, none⟩) x5_3.length co14) y114 := (by rw [hw, Ny114.out]; exact HP41.1); clear HP41; have n0_ := Aside0.mk (hp_); have n1_ := Aside0.mk ((by rw [hw]; exact below_set (HB.out) GB32.out : Below w.heap.size w w42)); clear HO_5; clear HB; have HO_5 := n0_; have HB := n1_; clear n0_ n1_; clear hg hw hp_; have hcv43 := own_string (P := Tryd.prog) Tryd.underlying61 Tryd.underlying5 Tryd.underlying9 (Kd.own_of_R HO_5.out)))
                                go_ret
                                exact ⟨by first | rfl | (simp [errW_none, errW_some] <;> rfl) | (simp [*, errW_none, errW_some] <;> rfl), by repeat (first | (with_reducible first | exact HB.out | apply below_alloc | apply pw_below_drewN | apply below_drew1) | exact HB.out)⟩
                            · rw [if_neg c31] at H
                              exact absurd H (by simp)
                          · rw [if_neg c30] at H
                            exact absurd H (by simp)
                  · rw [if_neg c11] at H
                    exact absurd H (by simp)
                · rw [if_neg c10] at H
                  exact absurd H (by simp)
          · rw [if_neg c7] at H
            have c7b0 : (x4_1 == 0) = false := beq_eq_false_iff_ne.mpr c7
            have c7b1 : (x4_1 != 0) = true := bne_iff_ne.mpr c7
            have H' := Aside0.mk H
            clear H
            go_wp2
            go_roundg k1
            case measure => have := HK1.out; omega
            case rel => exact ⟨((x3_1 + 1) % 256), (wrap64 (Int.tdiv x4_1 10)), (by first | rfl | (simp; done) | (simp [*]; done)), (by first | rfl | (simp; done) | (simp [*]; done)), H', ⟨by have := HK1.out; omega⟩, ⟨by repeat (first | (with_reducible first | exact HB.out | apply below_alloc | apply pw_below_drewN | apply below_drew1) | exact HB.out)⟩⟩

/-! ### impl_Comma: function 14 -/
def impl_Comma.f (k : Nat) (a0 : Int) : Option (ByteArray) := (humanize_Comma.f k a0).bind fun t116 => (some t116)
theorem impl_Comma.mono : ∀ a0 k, LeO (impl_Comma.f k a0) (impl_Comma.f (k + 1) a0) := by
  intro a0 k
  unfold impl_Comma.f
  repeat' first
      | (with_reducible exact humanize_Comma.mono _ _)
      | (with_reducible exact LeO.refl _)
      | (with_reducible exact LeO.none _)
      | (with_reducible refine LeO.ite ?_ ?_)
      | (with_reducible refine LeO.bind ?_ (fun _ => ?_))
      | exact humanize_Comma.mono _ _
      | exact LeO.none _
      | refine LeO.ite ?_ ?_
      | refine LeO.bind ?_ (fun _ => ?_)
set_option maxHeartbeats 8000000 in
set_option maxRecDepth 100000 in
theorem impl_Comma.calls (k : Nat) (a0 : Int) (r : ByteArray) (w : World) (h : impl_Comma.f k a0 = some r) :
    Calls Tryd.prog 14 #[.int .i64 a0] w fun e w' => e = .returned (.string r) ∧ Below w.heap.size w w' := by
  have HB := Aside0.mk (Below.refl w.heap.size w)
  have H : ((humanize_Comma.f k a0).bind fun t116 => (some t116)) = some r := h
  clear h
  replace H := Option.bind_eq_some_iff.mp H
  obtain ⟨t116, A20, H⟩ := H
  replace H : (some t116) = some r := H
  have A2 := Aside0.mk A20
  clear A20
  obtain rfl := Option.some.inj H
  go_enter Tryd.func14, Tryd.ntmps14
  go_wp2_with (first | ((with_reducible refine gate_callee (f := 24) rfl ?_); refine goesL_ (some 4) rfl rfl Tryd.func24 (by kernel_rfl) rfl #[.int .i64 a0] rfl (by (try simp only [List.map_toArray, List.map_cons, List.map_nil]); first | done | rfl | (simp only [List.length_drop, List.length_take]; rfl)) ?_; (with_reducible refine (humanize_Comma.calls k a0 t116 _ A2.out).mono ?_); rintro e w3 ⟨rfl, hb⟩; refine ⟨_, rfl, ?_⟩; have n0_ := Aside0.mk (below_step (by repeat (first | (with_reducible first | exact HB.out | apply below_alloc | apply pw_below_drewN | apply below_drew1) | exact HB.out)) hb); clear HB; have HB := n0_; clear n0_; (try clear hb); (try clear hb2); (try clear hk); (try clear hi)))
  go_ret
  exact ⟨by first | rfl | (simp [errW_none, errW_some] <;> rfl) | (simp [*, errW_none, errW_some] <;> rfl), by repeat (first | (with_reducible first | exact HB.out | apply below_alloc | apply pw_below_drewN | apply below_drew1) | exact HB.out)⟩

end Go.Proofs.YtmdgbbiipjmenaaDoor.PAll
