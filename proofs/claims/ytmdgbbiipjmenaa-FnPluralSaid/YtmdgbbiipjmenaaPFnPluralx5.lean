-- written by a program of this work
import Derived.Test.YtmdgbbiipjmenaaPFnPluralx0
import Derived.Test.YtmdgbbiipjmenaaPFnPluralx1
import Derived.Test.YtmdgbbiipjmenaaPFnPluralx3
import Derived.Test.YtmdgbbiipjmenaaPFnPluralx4
namespace Go.Proofs.Ytmdgbbiipjmenaa.PFnPlural
open Go.RowKit Go.Proofs.YtmdgbbiipjmenaaW.PrintWords Go.Proofs.YtmdgbbiipjmenaaW.PrintLast Go.Proofs.YtmdgbbiipjmenaaW.PrintMore
attribute [local go_sem] max2_int min2_int max_two min_two max_three min_three max_four min_four   -- for this text's walks alone
set_option linter.unusedVariables false
set_option linter.unusedSimpArgs false

/-! ### spec_Comma: function 13 -/
def spec_Comma.f (k : Nat) (a0 : Int) : Option (ByteArray) := (spec_Decimal.f k a0).bind fun t143 => (if a0 < 0 then (if 1 ≤ (t143.size : Int) then ((spec_grouped.f k (t143.extract 1 t143.size) (⟨#[44]⟩ : ByteArray)).bind fun t144 => (if 1 + t144.size ≤ 9223372036854775807 then (some ((⟨#[45]⟩ : ByteArray) ++ t144)) else (none))) else (none)) else ((spec_grouped.f k t143 (⟨#[44]⟩ : ByteArray)).bind fun t145 => (some t145)))
theorem spec_Comma.mono : ∀ a0 k, LeO (spec_Comma.f k a0) (spec_Comma.f (k + 1) a0) := by
  intro a0 k
  unfold spec_Comma.f
  repeat' first
      | (with_reducible exact spec_Decimal.mono _ _)
      | (with_reducible exact spec_grouped.mono _ _ _)
      | (with_reducible exact LeO.refl _)
      | (with_reducible exact LeO.none _)
      | (with_reducible refine LeO.ite ?_ ?_)
      | (with_reducible refine LeO.bind ?_ (fun _ => ?_))
      | exact spec_Decimal.mono _ _
      | exact spec_grouped.mono _ _ _
      | exact LeO.none _
      | refine LeO.ite ?_ ?_
      | refine LeO.bind ?_ (fun _ => ?_)
set_option maxHeartbeats 8000000 in
set_option maxRecDepth 100000 in
theorem spec_Comma.calls (k : Nat) (a0 : Int) (r : ByteArray) (w : World) (h : spec_Comma.f k a0 = some r) :
    Calls Try.prog 13 #[.int .i64 a0] w fun e w' => e = .returned (.string r) ∧ Drawn0 w w' := by
  have H : ((spec_Decimal.f k a0).bind fun t143 => (if a0 < 0 then (if 1 ≤ (t143.size : Int) then ((spec_grouped.f k (t143.extract 1 t143.size) (⟨#[44]⟩ : ByteArray)).bind fun t144 => (if 1 + t144.size ≤ 9223372036854775807 then (some ((⟨#[45]⟩ : ByteArray) ++ t144)) else (none))) else (none)) else ((spec_grouped.f k t143 (⟨#[44]⟩ : ByteArray)).bind fun t145 => (some t145)))) = some r := h
  clear h
  replace H := Option.bind_eq_some_iff.mp H
  obtain ⟨t143, A20, H⟩ := H
  replace H : (if a0 < 0 then (if 1 ≤ (t143.size : Int) then ((spec_grouped.f k (t143.extract 1 t143.size) (⟨#[44]⟩ : ByteArray)).bind fun t144 => (if 1 + t144.size ≤ 9223372036854775807 then (some ((⟨#[45]⟩ : ByteArray) ++ t144)) else (none))) else (none)) else ((spec_grouped.f k t143 (⟨#[44]⟩ : ByteArray)).bind fun t145 => (some t145))) = some r := H
  have A2 := Aside0.mk A20
  clear A20
  by_cases c3 : a0 < 0
  · rw [if_pos c3] at H
    have c3b0 : decide (a0 < 0) = true := decide_eq_true c3
    clear c3
    by_cases c4 : 1 ≤ (t143.size : Int)
    · rw [if_pos c4] at H
      have c4b0 := eq_true c4
      have c4b1 : decide (1 ≤ (t143.size : Int)) = true := decide_eq_true c4
      clear c4
      replace H := Option.bind_eq_some_iff.mp H
      obtain ⟨t144, A50, H⟩ := H
      replace H : (if 1 + t144.size ≤ 9223372036854775807 then (some ((⟨#[45]⟩ : ByteArray) ++ t144)) else (none)) = some r := H
      have A5 := Aside0.mk A50
      clear A50
      by_cases c6 : 1 + t144.size ≤ 9223372036854775807
      · rw [if_pos c6] at H
        have c6b0 := eq_true c6
        have c6b1 : decide (1 + t144.size ≤ 9223372036854775807) = true := decide_eq_true c6
        try have c6b2 : (9223372036854775807 < 1 + t144.size) = False := eq_false (Nat.not_lt.2 c6)
        obtain rfl := Option.some.inj H
        go_enter Try.func13, Try.ntmps13
        go_wp2_with (first | ((with_reducible refine gate_callee (f := 21) rfl ?_); refine goesL_ (some 5) rfl rfl Try.func21 (by kernel_rfl) rfl #[.int .i64 a0] rfl (by (try simp only [List.map_toArray, List.map_cons, List.map_nil]); first | done | rfl | (simp only [List.length_drop, List.length_take]; rfl)) ?_; (with_reducible refine (spec_Decimal.calls k a0 t143 _ A2.out).mono ?_); rintro e w' ⟨rfl, ⟨nd, rfl⟩⟩; refine ⟨_, rfl, ?_⟩) | ((with_reducible refine gate_callee (f := 22) rfl ?_); refine goesL_ (some 10) rfl rfl Try.func22 (by kernel_rfl) rfl #[.string (t143.extract 1 t143.size), .string (⟨#[44]⟩ : ByteArray)] rfl (by (try simp only [List.map_toArray, List.map_cons, List.map_nil]); first | done | rfl | (simp only [List.length_drop, List.length_take]; rfl)) ?_; (with_reducible refine (spec_grouped.calls k (t143.extract 1 t143.size) (⟨#[44]⟩ : ByteArray) t144 _ A5.out).mono ?_); rintro e w' ⟨rfl, ⟨nd, rfl⟩⟩; refine ⟨_, rfl, ?_⟩))
        go_ret
        exact ⟨by first | rfl | (simp; done) | (simp [*]; done), by repeat (first | exact Drawn0.refl _ | apply Drawn0.step)⟩
      · rw [if_neg c6] at H
        exact absurd H (by simp)
    · rw [if_neg c4] at H
      exact absurd H (by simp)
  · rw [if_neg c3] at H
    have c3b0 : decide (a0 < 0) = false := decide_eq_false c3
    clear c3
    replace H := Option.bind_eq_some_iff.mp H
    obtain ⟨t145, A70, H⟩ := H
    replace H : (some t145) = some r := H
    have A7 := Aside0.mk A70
    clear A70
    obtain rfl := Option.some.inj H
    go_enter Try.func13, Try.ntmps13
    go_wp2_with (first | ((with_reducible refine gate_callee (f := 21) rfl ?_); refine goesL_ (some 5) rfl rfl Try.func21 (by kernel_rfl) rfl #[.int .i64 a0] rfl (by (try simp only [List.map_toArray, List.map_cons, List.map_nil]); first | done | rfl | (simp only [List.length_drop, List.length_take]; rfl)) ?_; (with_reducible refine (spec_Decimal.calls k a0 t143 _ A2.out).mono ?_); rintro e w' ⟨rfl, ⟨nd, rfl⟩⟩; refine ⟨_, rfl, ?_⟩) | ((with_reducible refine gate_callee (f := 22) rfl ?_); refine goesL_ (some 13) rfl rfl Try.func22 (by kernel_rfl) rfl #[.string t143, .string (⟨#[44]⟩ : ByteArray)] rfl (by (try simp only [List.map_toArray, List.map_cons, List.map_nil]); first | done | rfl | (simp only [List.length_drop, List.length_take]; rfl)) ?_; (with_reducible refine (spec_grouped.calls k t143 (⟨#[44]⟩ : ByteArray) t145 _ A7.out).mono ?_); rintro e w' ⟨rfl, ⟨nd, rfl⟩⟩; refine ⟨_, rfl, ?_⟩))
    go_ret
    exact ⟨by first | rfl | (simp; done) | (simp [*]; done), by repeat (first | exact Drawn0.refl _ | apply Drawn0.step)⟩

/-! ### laws_FnPlural: function 4 -/
mutual
def laws_FnPlural.j0 : Nat → Int → List Int → List Int → Bool → Option (Bool)
  | 0, _, _, _, _ => none
  | k + 1, x0, x1, x2, x17 => if x17 = true then (some true) else (if (x1.length : Int) > 20 then (laws_FnPlural.j1 k x0 x1 x2 true) else (laws_FnPlural.j1 k x0 x1 x2 (decide ((x2.length : Int) > 20))))
def laws_FnPlural.j1 : Nat → Int → List Int → List Int → Bool → Option (Bool)
  | 0, _, _, _, _ => none
  | k + 1, x0, x1, x2, x25 => if x25 = true then (some true) else ((laws_wordOf.f k x1).bind fun t146 => ((laws_wordOf.f k x2).bind fun t147 => (if t146.toList = ([] : List UInt8) then (laws_FnPlural.j2 k x0 t146 t147 true) else (if t146.toList = ([105, 110, 100, 101, 120] : List UInt8) then (laws_FnPlural.j2 k x0 t146 t147 true) else (if t146.toList = ([109, 97, 116, 114, 105, 120] : List UInt8) then (laws_FnPlural.j2 k x0 t146 t147 true) else (laws_FnPlural.j2 k x0 t146 t147 (t146.toList == ([118, 101, 114, 116, 101, 120] : List UInt8))))))))
def laws_FnPlural.j2 : Nat → Int → ByteArray → ByteArray → Bool → Option (Bool)
  | 0, _, _, _, _ => none
  | k + 1, x0, x7, x8, x43 => if x43 = true then (some true) else (if x8.toList = ([] : List UInt8) then ((spec_Many.f k x7).bind fun t148 => (laws_FnPlural.j3 k x0 x7 x8 t148)) else (laws_FnPlural.j3 k x0 x7 x8 x8))
def laws_FnPlural.j3 : Nat → Int → ByteArray → ByteArray → ByteArray → Option (Bool)
  | 0, _, _, _, _ => none
  | k + 1, x0, x7, x8, x9 => if x0 = 1 then ((impl_PluralWord.f k x0 x7 x8).bind fun t149 => (if t149.toList = x7.toList then ((impl_Plural.f k x0 x7 x8).bind fun t150 => ((spec_Comma.f k x0).bind fun t151 => (if t151.size + 1 ≤ 9223372036854775807 then (if (t151 ++ (⟨#[32]⟩ : ByteArray)).size + x7.size ≤ 9223372036854775807 then (some (t150.toList == ((t151 ++ (⟨#[32]⟩ : ByteArray)) ++ x7).toList)) else (none)) else (none)))) else (some false))) else ((impl_PluralWord.f k x0 x7 x8).bind fun t152 => (if t152.toList = x9.toList then ((impl_Plural.f k x0 x7 x8).bind fun t153 => ((spec_Comma.f k x0).bind fun t154 => (if t154.size + 1 ≤ 9223372036854775807 then (if (t154 ++ (⟨#[32]⟩ : ByteArray)).size + x9.size ≤ 9223372036854775807 then (some (t153.toList == ((t154 ++ (⟨#[32]⟩ : ByteArray)) ++ x9).toList)) else (none)) else (none)))) else (some false)))
end
def laws_FnPlural.f (k : Nat) (a0 : Int) (l1 : List Int) (l2 : List Int) : Option (Bool) := if (l1.length : Int) > 2147483647 then (laws_FnPlural.j0 k a0 l1 l2 true) else (laws_FnPlural.j0 k a0 l1 l2 (decide ((l2.length : Int) > 2147483647)))
theorem laws_FnPlural.mono_l : ∀ k, (∀ y0 y1 y2 y3, LeO (laws_FnPlural.j0 k y0 y1 y2 y3) (laws_FnPlural.j0 (k + 1) y0 y1 y2 y3)) ∧ (∀ y0 y1 y2 y3, LeO (laws_FnPlural.j1 k y0 y1 y2 y3) (laws_FnPlural.j1 (k + 1) y0 y1 y2 y3)) ∧ (∀ y0 y1 y2 y3, LeO (laws_FnPlural.j2 k y0 y1 y2 y3) (laws_FnPlural.j2 (k + 1) y0 y1 y2 y3)) ∧ (∀ y0 y1 y2 y3, LeO (laws_FnPlural.j3 k y0 y1 y2 y3) (laws_FnPlural.j3 (k + 1) y0 y1 y2 y3))
  | 0 => ⟨fun _ _ _ _ r h => by simp [laws_FnPlural.j0] at h, fun _ _ _ _ r h => by simp [laws_FnPlural.j1] at h, fun _ _ _ _ r h => by simp [laws_FnPlural.j2] at h, fun _ _ _ _ r h => by simp [laws_FnPlural.j3] at h⟩
  | k + 1 => by
    obtain ⟨ih0, ih1, ih2, ih3⟩ := laws_FnPlural.mono_l k
    refine ⟨?_, ?_, ?_, ?_⟩
    · intro y0 y1 y2 y3
      unfold laws_FnPlural.j0
      repeat' first
      | (with_reducible exact ih0 _ _ _ _)
      | (with_reducible exact ih1 _ _ _ _)
      | (with_reducible exact ih2 _ _ _ _)
      | (with_reducible exact ih3 _ _ _ _)
      | (with_reducible exact impl_Plural.mono _ _ _ _)
      | (with_reducible exact impl_PluralWord.mono _ _ _ _)
      | (with_reducible exact laws_wordOf.mono _ _)
      | (with_reducible exact spec_Comma.mono _ _)
      | (with_reducible exact spec_Many.mono _ _)
      | (with_reducible exact LeO.refl _)
      | (with_reducible exact LeO.none _)
      | (with_reducible refine LeO.ite ?_ ?_)
      | (with_reducible refine LeO.bind ?_ (fun _ => ?_))
      | exact ih0 _ _ _ _
      | exact ih1 _ _ _ _
      | exact ih2 _ _ _ _
      | exact ih3 _ _ _ _
      | exact impl_Plural.mono _ _ _ _
      | exact impl_PluralWord.mono _ _ _ _
      | exact laws_wordOf.mono _ _
      | exact spec_Comma.mono _ _
      | exact spec_Many.mono _ _
      | exact LeO.none _
      | refine LeO.ite ?_ ?_
      | refine LeO.bind ?_ (fun _ => ?_)
    · intro y0 y1 y2 y3
      unfold laws_FnPlural.j1
      repeat' first
      | (with_reducible exact ih0 _ _ _ _)
      | (with_reducible exact ih1 _ _ _ _)
      | (with_reducible exact ih2 _ _ _ _)
      | (with_reducible exact ih3 _ _ _ _)
      | (with_reducible exact impl_Plural.mono _ _ _ _)
      | (with_reducible exact impl_PluralWord.mono _ _ _ _)
      | (with_reducible exact laws_wordOf.mono _ _)
      | (with_reducible exact spec_Comma.mono _ _)
      | (with_reducible exact spec_Many.mono _ _)
      | (with_reducible exact LeO.refl _)
      | (with_reducible exact LeO.none _)
      | (with_reducible refine LeO.ite ?_ ?_)
      | (with_reducible refine LeO.bind ?_ (fun _ => ?_))
      | exact ih0 _ _ _ _
      | exact ih1 _ _ _ _
      | exact ih2 _ _ _ _
      | exact ih3 _ _ _ _
      | exact impl_Plural.mono _ _ _ _
      | exact impl_PluralWord.mono _ _ _ _
      | exact laws_wordOf.mono _ _
      | exact spec_Comma.mono _ _
      | exact spec_Many.mono _ _
      | exact LeO.none _
      | refine LeO.ite ?_ ?_
      | refine LeO.bind ?_ (fun _ => ?_)
    · intro y0 y1 y2 y3
      unfold laws_FnPlural.j2
      repeat' first
      | (with_reducible exact ih0 _ _ _ _)
      | (with_reducible exact ih1 _ _ _ _)
      | (with_reducible exact ih2 _ _ _ _)
      | (with_reducible exact ih3 _ _ _ _)
      | (with_reducible exact impl_Plural.mono _ _ _ _)
      | (with_reducible exact impl_PluralWord.mono _ _ _ _)
      | (with_reducible exact laws_wordOf.mono _ _)
      | (with_reducible exact spec_Comma.mono _ _)
      | (with_reducible exact spec_Many.mono _ _)
      | (with_reducible exact LeO.refl _)
      | (with_reducible exact LeO.none _)
      | (with_reducible refine LeO.ite ?_ ?_)
      | (with_reducible refine LeO.bind ?_ (fun _ => ?_))
      | exact ih0 _ _ _ _
      | exact ih1 _ _ _ _
      | exact ih2 _ _ _ _
      | exact ih3 _ _ _ _
      | exact impl_Plural.mono _ _ _ _
      | exact impl_PluralWord.mono _ _ _ _
      | exact laws_wordOf.mono _ _
      | exact spec_Comma.mono _ _
      | exact spec_Many.mono _ _
      | exact LeO.none _
      | refine LeO.ite ?_ ?_
      | refine LeO.bind ?_ (fun _ => ?_)
    · intro y0 y1 y2 y3
      unfold laws_FnPlural.j3
      repeat' first
      | (with_reducible exact ih0 _ _ _ _)
      | (with_reducible exact ih1 _ _ _ _)
      | (with_reducible exact ih2 _ _ _ _)
      | (with_reducible exact ih3 _ _ _ _)
      | (with_reducible exact impl_Plural.mono _ _ _ _)
      | (with_reducible exact impl_PluralWord.mono _ _ _ _)
      | (with_reducible exact laws_wordOf.mono _ _)
      | (with_reducible exact spec_Comma.mono _ _)
      | (with_reducible exact spec_Many.mono _ _)
      | (with_reducible exact LeO.refl _)
      | (with_reducible exact LeO.none _)
      | (with_reducible refine LeO.ite ?_ ?_)
      | (with_reducible refine LeO.bind ?_ (fun _ => ?_))
      | exact ih0 _ _ _ _
      | exact ih1 _ _ _ _
      | exact ih2 _ _ _ _
      | exact ih3 _ _ _ _
      | exact impl_Plural.mono _ _ _ _
      | exact impl_PluralWord.mono _ _ _ _
      | exact laws_wordOf.mono _ _
      | exact spec_Comma.mono _ _
      | exact spec_Many.mono _ _
      | exact LeO.none _
      | refine LeO.ite ?_ ?_
      | refine LeO.bind ?_ (fun _ => ?_)
theorem laws_FnPlural.mono : ∀ a0 a1 a2 k, LeO (laws_FnPlural.f k a0 a1 a2) (laws_FnPlural.f (k + 1) a0 a1 a2) := by
  intro a0 a1 a2 k
  obtain ⟨ih0, ih1, ih2, ih3⟩ := laws_FnPlural.mono_l k
  unfold laws_FnPlural.f
  repeat' first
      | (with_reducible exact ih0 _ _ _ _)
      | (with_reducible exact ih1 _ _ _ _)
      | (with_reducible exact ih2 _ _ _ _)
      | (with_reducible exact ih3 _ _ _ _)
      | (with_reducible exact impl_Plural.mono _ _ _ _)
      | (with_reducible exact impl_PluralWord.mono _ _ _ _)
      | (with_reducible exact laws_wordOf.mono _ _)
      | (with_reducible exact spec_Comma.mono _ _)
      | (with_reducible exact spec_Many.mono _ _)
      | (with_reducible exact LeO.refl _)
      | (with_reducible exact LeO.none _)
      | (with_reducible refine LeO.ite ?_ ?_)
      | (with_reducible refine LeO.bind ?_ (fun _ => ?_))
      | exact ih0 _ _ _ _
      | exact ih1 _ _ _ _
      | exact ih2 _ _ _ _
      | exact ih3 _ _ _ _
      | exact impl_Plural.mono _ _ _ _
      | exact impl_PluralWord.mono _ _ _ _
      | exact laws_wordOf.mono _ _
      | exact spec_Comma.mono _ _
      | exact spec_Many.mono _ _
      | exact LeO.none _
      | refine LeO.ite ?_ ?_
      | refine LeO.bind ?_ (fun _ => ?_)
set_option maxHeartbeats 8000000 in
set_option maxRecDepth 100000 in
theorem laws_FnPlural.calls (k : Nat) (a0 : Int) (A1 : Option Addr) (c1 : Nat) (l1 : List Int) (A2 : Option Addr) (c2 : Nat) (l2 : List Int) (r : Bool) (w : World) (hr1 : Kd.C (Kd.int .u8) w A1 l1.length l1) (hc1 : l1.length ≤ c1) (hr2 : Kd.C (Kd.int .u8) w A2 l2.length l2) (hc2 : l2.length ≤ c2) (h : laws_FnPlural.f k a0 l1 l2 = some r) :
    Calls Try.prog 4 #[.int .i64 a0, .slice A1 l1.length c1, .slice A2 l2.length c2] w fun e w' => e = .returned (.bool r) ∧ Below w.heap.size w w' := by
  have HR1 := Aside0.mk hr1
  have HC1 := Aside0.mk hc1
  clear hr1 hc1
  have HR2 := Aside0.mk hr2
  have HC2 := Aside0.mk hc2
  clear hr2 hc2
  have HB := Aside0.mk (Below.refl w.heap.size w)
  have H : (if (l1.length : Int) > 2147483647 then (laws_FnPlural.j0 k a0 l1 l2 true) else (laws_FnPlural.j0 k a0 l1 l2 (decide ((l2.length : Int) > 2147483647)))) = some r := h
  clear h
  have HC4 := Aside0.mk H
  clear H
  go_enter Try.func4, Try.ntmps4
  go_upto_region 1 with (fail)
  go_cut [17] (fun v17 wc => ∃ (kq : Nat) (x17_3 : Bool), v17 = .bool x17_3 ∧ Aside0 (laws_FnPlural.j0 kq a0 l1 l2 x17_3 = some r) ∧ Aside0 (kq ≤ k) ∧ Aside0 (Below w.heap.size w wc))
  case first =>
    have H := HC4.out
    clear HC4
    by_cases c5 : (l1.length : Int) > 2147483647
    · rw [if_pos c5] at H
      have c5b0 : decide (2147483647 < (l1.length : Int)) = true := decide_eq_true c5
      have c5b1 : decide (2147483647 < l1.length) = true := decide_eq_true (by omega)
      clear c5
      (first | rw [c5b0] | (simp only [i64_w, i32_w]; rw [c5b0]) | rw [c5b2] | skip)
      have H' := Aside0.mk H
      clear H
      go_wp2
      go_meet
      case rel => exact ⟨_, (true), (by first | rfl | (simp; done) | (simp [*]; done)), H', ⟨by first | omega | exact Nat.le_refl _⟩, ⟨by repeat (first | (with_reducible first | exact HB.out | apply below_alloc | apply pw_below_drewN | apply below_drew1) | exact HB.out)⟩⟩
    · rw [if_neg c5] at H
      have c5b0 : decide (2147483647 < (l1.length : Int)) = false := decide_eq_false c5
      have c5b1 : decide (2147483647 < l1.length) = false := decide_eq_false (by omega)
      clear c5
      (first | rw [c5b0] | (simp only [i64_w, i32_w]; rw [c5b0]) | rw [c5b2] | skip)
      have H' := Aside0.mk H
      clear H
      go_wp2
      go_meet
      case rel => exact ⟨_, (decide ((l2.length : Int) > 2147483647)), (by first | rfl | (simp; done) | (simp [*]; done)), H', ⟨by first | omega | exact Nat.le_refl _⟩, ⟨by repeat (first | (with_reducible first | exact HB.out | apply below_alloc | apply pw_below_drewN | apply below_drew1) | exact HB.out)⟩⟩
  case rest =>
    clear HC4
    try clear c1
    try clear c2
    try clear p2
    try clear c4
    try clear c5
    try clear c5b0
    try clear c5b1
    try clear c5b2
    obtain ⟨kq, x17_3, rfl, HA, HJ3, HB⟩ := hcut
    cases kq with
    | zero => exact absurd HA.out (by simp [laws_FnPlural.j0])
    | succ kj3 =>
      have H := HA.out
      clear HA
      simp only [laws_FnPlural.j0] at H
      by_cases c6 : x17_3 = true
      · subst c6
        have H1 : (some true) = some r := by rw [if_pos rfl] at H; exact H
        clear H
        have H := H1
        clear H1
        obtain rfl := Option.some.inj H
        go_wp2
        go_ret
        exact ⟨by first | rfl | (simp [errW_none, errW_some] <;> rfl) | (simp [*, errW_none, errW_some] <;> rfl), by repeat (first | (with_reducible first | exact HB.out | apply below_alloc | apply pw_below_drewN | apply below_drew1) | exact HB.out)⟩
      · replace c6 := Bool.eq_false_iff.mpr c6
        subst c6
        have H1 : (if (l1.length : Int) > 20 then (laws_FnPlural.j1 kj3 a0 l1 l2 true) else (laws_FnPlural.j1 kj3 a0 l1 l2 (decide ((l2.length : Int) > 20)))) = some r := by rw [if_neg (show ¬ (false = true) by decide)] at H; exact H
        clear H
        have H := H1
        clear H1
        have HC7 := Aside0.mk H
        clear H
        go_upto_region 3 with (fail)
        go_cut [25] (fun v25 wc => ∃ (kq : Nat) (x25_6 : Bool), v25 = .bool x25_6 ∧ Aside0 (laws_FnPlural.j1 kq a0 l1 l2 x25_6 = some r) ∧ Aside0 (kq ≤ kj3) ∧ Aside0 (Below w.heap.size w wc))
        case first =>
          have H := HC7.out
          clear HC7
          by_cases c8 : (l1.length : Int) > 20
          · rw [if_pos c8] at H
            have c8b0 : decide (20 < (l1.length : Int)) = true := decide_eq_true c8
            have c8b1 : decide (20 < l1.length) = true := decide_eq_true (by omega)
            clear c8
            (first | rw [c8b0] | (simp only [i64_w, i32_w]; rw [c8b0]) | rw [c8b2] | skip)
            have H' := Aside0.mk H
            clear H
            go_wp2
            go_meet
            case rel => exact ⟨_, (true), (by first | rfl | (simp; done) | (simp [*]; done)), H', ⟨by have := HJ3.out; first | omega | exact Nat.le_refl _⟩, ⟨by repeat (first | (with_reducible first | exact HB.out | apply below_alloc | apply pw_below_drewN | apply below_drew1) | exact HB.out)⟩⟩
          · rw [if_neg c8] at H
            have c8b0 : decide (20 < (l1.length : Int)) = false := decide_eq_false c8
            have c8b1 : decide (20 < l1.length) = false := decide_eq_false (by omega)
            clear c8
            (first | rw [c8b0] | (simp only [i64_w, i32_w]; rw [c8b0]) | rw [c8b2] | skip)
            have H' := Aside0.mk H
            clear H
            go_wp2
            go_meet
            case rel => exact ⟨_, (decide ((l2.length : Int) > 20)), (by first | rfl | (simp; done) | (simp [*]; done)), H', ⟨by have := HJ3.out; first | omega | exact Nat.le_refl _⟩, ⟨by repeat (first | (with_reducible first | exact HB.out | apply below_alloc | apply pw_below_drewN | apply below_drew1) | exact HB.out)⟩⟩
        case rest =>
          clear HC7
          try clear c1
          try clear c2
          try clear p2
          try clear c4
          try clear c5
          try clear c5b0
          try clear c5b1
          try clear c5b2
          try clear c6
          try clear c8
          try clear c8b0
          try clear c8b1
          try clear c8b2
          try clear p2
          obtain ⟨kq, x25_6, rfl, HA, HJ6, HB⟩ := hcut
          cases kq with
          | zero => exact absurd HA.out (by simp [laws_FnPlural.j1])
          | succ kj6 =>
            have H := HA.out
            clear HA
            simp only [laws_FnPlural.j1] at H
            by_cases c9 : x25_6 = true
            · subst c9
              have H1 : (some true) = some r := by rw [if_pos rfl] at H; exact H
              clear H
              have H := H1
              clear H1
              obtain rfl := Option.some.inj H
              go_wp2
              go_ret
              exact ⟨by first | rfl | (simp [errW_none, errW_some] <;> rfl) | (simp [*, errW_none, errW_some] <;> rfl), by repeat (first | (with_reducible first | exact HB.out | apply below_alloc | apply pw_below_drewN | apply below_drew1) | exact HB.out)⟩
            · replace c9 := Bool.eq_false_iff.mpr c9
              subst c9
              have H1 : ((laws_wordOf.f kj6 l1).bind fun t146 => ((laws_wordOf.f kj6 l2).bind fun t147 => (if t146.toList = ([] : List UInt8) then (laws_FnPlural.j2 kj6 a0 t146 t147 true) else (if t146.toList = ([105, 110, 100, 101, 120] : List UInt8) then (laws_FnPlural.j2 kj6 a0 t146 t147 true) else (if t146.toList = ([109, 97, 116, 114, 105, 120] : List UInt8) then (laws_FnPlural.j2 kj6 a0 t146 t147 true) else (laws_FnPlural.j2 kj6 a0 t146 t147 (t146.toList == ([118, 101, 114, 116, 101, 120] : List UInt8)))))))) = some r := by rw [if_neg (show ¬ (false = true) by decide)] at H; exact H
              clear H
              have H := H1
              clear H1
              replace H := Option.bind_eq_some_iff.mp H
              obtain ⟨t146, A100, H⟩ := H
              replace H : ((laws_wordOf.f kj6 l2).bind fun t147 => (if t146.toList = ([] : List UInt8) then (laws_FnPlural.j2 kj6 a0 t146 t147 true) else (if t146.toList = ([105, 110, 100, 101, 120] : List UInt8) then (laws_FnPlural.j2 kj6 a0 t146 t147 true) else (if t146.toList = ([109, 97, 116, 114, 105, 120] : List UInt8) then (laws_FnPlural.j2 kj6 a0 t146 t147 true) else (laws_FnPlural.j2 kj6 a0 t146 t147 (t146.toList == ([118, 101, 114, 116, 101, 120] : List UInt8))))))) = some r := H
              have A10 := Aside0.mk A100
              clear A100
              replace H := Option.bind_eq_some_iff.mp H
              obtain ⟨t147, A110, H⟩ := H
              replace H : (if t146.toList = ([] : List UInt8) then (laws_FnPlural.j2 kj6 a0 t146 t147 true) else (if t146.toList = ([105, 110, 100, 101, 120] : List UInt8) then (laws_FnPlural.j2 kj6 a0 t146 t147 true) else (if t146.toList = ([109, 97, 116, 114, 105, 120] : List UInt8) then (laws_FnPlural.j2 kj6 a0 t146 t147 true) else (laws_FnPlural.j2 kj6 a0 t146 t147 (t146.toList == ([118, 101, 114, 116, 101, 120] : List UInt8)))))) = some r := H
              have A11 := Aside0.mk A110
              clear A110
              have HC12 := Aside0.mk H
              clear H
              go_upto_region 6 with (first | ((with_reducible refine gate_callee (f := 6) rfl ?_); refine goesL_ (some 27) rfl rfl Try.func6 (by kernel_rfl) rfl #[.slice A1 l1.length c1] rfl (by (try simp only [List.map_toArray, List.map_cons, List.map_nil]); first | done | rfl | (simp only [List.length_drop, List.length_take]; rfl)) ?_; (with_reducible refine (laws_wordOf.calls kj6 _ _ l1 t146 _ ?side1 ?side2 A10.out).mono ?_); (case side1 => repeat (first | exact (Kd.C_below HR1.out HB.out) | (with_reducible refine Kd.C_alloc ?_ _) | (with_reducible refine Kd.C_drewN ?_ _) | (with_reducible refine Kd.C_drew ?_))); (case side2 => exact HC1.out); rintro e w' ⟨rfl, ⟨nd, rfl⟩⟩; refine ⟨_, rfl, ?_⟩) | ((with_reducible refine gate_callee (f := 6) rfl ?_); refine goesL_ (some 29) rfl rfl Try.func6 (by kernel_rfl) rfl #[.slice A2 l2.length c2] rfl (by (try simp only [List.map_toArray, List.map_cons, List.map_nil]); first | done | rfl | (simp only [List.length_drop, List.length_take]; rfl)) ?_; (with_reducible refine (laws_wordOf.calls kj6 _ _ l2 t147 _ ?side1 ?side2 A11.out).mono ?_); (case side1 => repeat (first | exact (Kd.C_below HR2.out (by repeat (first | (with_reducible first | exact HB.out | apply below_alloc | apply pw_below_drewN | apply below_drew1) | exact HB.out))) | (with_reducible refine Kd.C_alloc ?_ _) | (with_reducible refine Kd.C_drewN ?_ _) | (with_reducible refine Kd.C_drew ?_))); (case side2 => exact HC2.out); rintro e w' ⟨rfl, ⟨nd, rfl⟩⟩; refine ⟨_, rfl, ?_⟩))
              (try simp only [Act.put, List.setIfInBounds_toArray, List.set_cons_zero, List.set_cons_succ])
              go_cut [43] (fun v43 wc => ∃ (kq : Nat) (x43_11 : Bool), v43 = .bool x43_11 ∧ Aside0 (laws_FnPlural.j2 kq a0 t146 t147 x43_11 = some r) ∧ Aside0 (kq ≤ kj6) ∧ Aside0 (Below w.heap.size w wc))
              case first =>
                have H := HC12.out
                clear HC12
                by_cases c13 : t146.toList = ([] : List UInt8)
                · rw [if_pos c13] at H
                  have c13b0 : (t146.toList == ([] : List UInt8)) = true := beq_iff_eq.mpr c13
                  have c13b1 : (t146.toList != ([] : List UInt8)) = false := bne_eq_false_iff_eq.mpr c13
                  (try (have c13b2 : t146.toList.isEmpty = true := by simpa using c13))
                  clear c13
                  (first | rw [c13b0] | (simp only [i64_w, i32_w]; rw [c13b0]) | rw [c13b2] | skip)
                  have H' := Aside0.mk H
                  clear H
                  go_wp2
                  go_meet
                  case rel => exact ⟨_, (true), (by first | rfl | (simp; done) | (simp [*]; done)), H', ⟨by have := HJ3.out; have := HJ6.out; first | omega | exact Nat.le_refl _⟩, ⟨by repeat (first | (with_reducible first | exact HB.out | apply below_alloc | apply pw_below_drewN | apply below_drew1) | exact HB.out)⟩⟩
                · rw [if_neg c13] at H
                  have c13b0 : (t146.toList == ([] : List UInt8)) = false := beq_eq_false_iff_ne.mpr c13
                  have c13b1 : (t146.toList != ([] : List UInt8)) = true := bne_iff_ne.mpr c13
                  (try (have c13b2 : t146.toList.isEmpty = false := by simpa using c13))
                  (first | rw [c13b0] | (simp only [i64_w, i32_w]; rw [c13b0]) | rw [c13b2] | skip)
                  by_cases c14 : t146.toList = ([105, 110, 100, 101, 120] : List UInt8)
                  · rw [if_pos c14] at H
                    have c14b0 : (t146.toList == ([105, 110, 100, 101, 120] : List UInt8)) = true := beq_iff_eq.mpr c14
                    have c14b1 : (t146.toList != ([105, 110, 100, 101, 120] : List UInt8)) = false := bne_eq_false_iff_eq.mpr c14
                    clear c14
                    have H' := Aside0.mk H
                    clear H
                    go_wp2
                    go_meet
                    case rel => exact ⟨_, (true), (by first | rfl | (simp; done) | (simp [*]; done)), H', ⟨by have := HJ3.out; have := HJ6.out; first | omega | exact Nat.le_refl _⟩, ⟨by repeat (first | (with_reducible first | exact HB.out | apply below_alloc | apply pw_below_drewN | apply below_drew1) | exact HB.out)⟩⟩
                  · rw [if_neg c14] at H
                    have c14b0 : (t146.toList == ([105, 110, 100, 101, 120] : List UInt8)) = false := beq_eq_false_iff_ne.mpr c14
                    have c14b1 : (t146.toList != ([105, 110, 100, 101, 120] : List UInt8)) = true := bne_iff_ne.mpr c14
                    by_cases c15 : t146.toList = ([109, 97, 116, 114, 105, 120] : List UInt8)
                    · rw [if_pos c15] at H
                      have c15b0 : (t146.toList == ([109, 97, 116, 114, 105, 120] : List UInt8)) = true := beq_iff_eq.mpr c15
                      have c15b1 : (t146.toList != ([109, 97, 116, 114, 105, 120] : List UInt8)) = false := bne_eq_false_iff_eq.mpr c15
                      clear c15
                      have H' := Aside0.mk H
                      clear H
                      go_wp2
                      go_meet
                      case rel => exact ⟨_, (true), (by first | rfl | (simp; done) | (simp [*]; done)), H', ⟨by have := HJ3.out; have := HJ6.out; first | omega | exact Nat.le_refl _⟩, ⟨by repeat (first | (with_reducible first | exact HB.out | apply below_alloc | apply pw_below_drewN | apply below_drew1) | exact HB.out)⟩⟩
                    · rw [if_neg c15] at H
                      have c15b0 : (t146.toList == ([109, 97, 116, 114, 105, 120] : List UInt8)) = false := beq_eq_false_iff_ne.mpr c15
                      have c15b1 : (t146.toList != ([109, 97, 116, 114, 105, 120] : List UInt8)) = true := bne_iff_ne.mpr c15
                      have H' := Aside0.mk H
                      clear H
                      go_wp2
                      go_meet
                      case rel => exact ⟨_, ((t146.toList == ([118, 101, 114, 116, 101, 120] : List UInt8))), (by first | rfl | (simp; done) | (simp [*]; done)), H', ⟨by have := HJ3.out; have := HJ6.out; first | omega | exact Nat.le_refl _⟩, ⟨by repeat (first | (with_reducible first | exact HB.out | apply below_alloc | apply pw_below_drewN | apply below_drew1) | exact HB.out)⟩⟩
              case rest =>
                clear HC12
                try clear c1
                try clear c2
                try clear p2
                try clear c4
                try clear c5
                try clear c5b0
                try clear c5b1
                try clear c5b2
                try clear c6
                try clear c8
                try clear c8b0
                try clear c8b1
                try clear c8b2
                try clear c9
                try clear c13
                try clear c13b0
                try clear c13b1
                try clear c13b2
                try clear c14
                try clear c14b0
                try clear c14b1
                try clear c15
                try clear c15b0
                try clear c15b1
                try clear p2
                obtain ⟨kq, x43_11, rfl, HA, HJ11, HB⟩ := hcut
                cases kq with
                | zero => exact absurd HA.out (by simp [laws_FnPlural.j2])
                | succ kj11 =>
                  have H := HA.out
                  clear HA
                  simp only [laws_FnPlural.j2] at H
                  by_cases c16 : x43_11 = true
                  · subst c16
                    have H1 : (some true) = some r := by rw [if_pos rfl] at H; exact H
                    clear H
                    have H := H1
                    clear H1
                    obtain rfl := Option.some.inj H
                    go_wp2
                    go_ret
                    exact ⟨by first | rfl | (simp [errW_none, errW_some] <;> rfl) | (simp [*, errW_none, errW_some] <;> rfl), by repeat (first | (with_reducible first | exact HB.out | apply below_alloc | apply pw_below_drewN | apply below_drew1) | exact HB.out)⟩
                  · replace c16 := Bool.eq_false_iff.mpr c16
                    subst c16
                    have H1 : (if t147.toList = ([] : List UInt8) then ((spec_Many.f kj11 t146).bind fun t148 => (laws_FnPlural.j3 kj11 a0 t146 t147 t148)) else (laws_FnPlural.j3 kj11 a0 t146 t147 t147)) = some r := by rw [if_neg (show ¬ (false = true) by decide)] at H; exact H
                    clear H
                    have H := H1
                    clear H1
                    have HC17 := Aside0.mk H
                    clear H
                    go_upto_if 46 with (fail)
                    go_cut [9] (fun v9 wc => ∃ (kq : Nat) (x9_16 : ByteArray), v9 = .string x9_16 ∧ Aside0 (laws_FnPlural.j3 kq a0 t146 t147 x9_16 = some r) ∧ Aside0 (kq ≤ kj11) ∧ Aside0 (Below w.heap.size w wc))
                    case first =>
                      have H := HC17.out
                      clear HC17
                      by_cases c18 : t147.toList = ([] : List UInt8)
                      · rw [if_pos c18] at H
                        have c18b0 : (t147.toList == ([] : List UInt8)) = true := beq_iff_eq.mpr c18
                        have c18b1 : (t147.toList != ([] : List UInt8)) = false := bne_eq_false_iff_eq.mpr c18
                        (try (have c18b2 : t147.toList.isEmpty = true := by simpa using c18))
                        clear c18
                        (first | rw [c18b0] | (simp only [i64_w, i32_w]; rw [c18b0]) | rw [c18b2] | skip)
                        replace H := Option.bind_eq_some_iff.mp H
                        obtain ⟨t148, A190, H⟩ := H
                        replace H : (laws_FnPlural.j3 kj11 a0 t146 t147 t148) = some r := H
                        have A19 := Aside0.mk A190
                        clear A190
                        have H' := Aside0.mk H
                        clear H
                        go_wp2_with (first | ((with_reducible refine gate_callee (f := 10) rfl ?_); refine goesL_ (some 48) rfl rfl Try.func10 (by kernel_rfl) rfl #[.string t146] rfl (by (try simp only [List.map_toArray, List.map_cons, List.map_nil]); first | done | rfl | (simp only [List.length_drop, List.length_take]; rfl)) ?_; (with_reducible refine (spec_Many.calls kj11 t146 t148 _ A19.out).mono ?_); rintro e w' ⟨rfl, ⟨nd, rfl⟩⟩; refine ⟨_, rfl, ?_⟩))
                        go_meet
                        case rel => exact ⟨_, (t148), (by first | rfl | (simp; done) | (simp [*]; done)), H', ⟨by have := HJ3.out; have := HJ6.out; have := HJ11.out; first | omega | exact Nat.le_refl _⟩, ⟨by repeat (first | (with_reducible first | exact HB.out | apply below_alloc | apply pw_below_drewN | apply below_drew1) | exact HB.out)⟩⟩
                      · rw [if_neg c18] at H
                        have c18b0 : (t147.toList == ([] : List UInt8)) = false := beq_eq_false_iff_ne.mpr c18
                        have c18b1 : (t147.toList != ([] : List UInt8)) = true := bne_iff_ne.mpr c18
                        (try (have c18b2 : t147.toList.isEmpty = false := by simpa using c18))
                        (first | rw [c18b0] | (simp only [i64_w, i32_w]; rw [c18b0]) | rw [c18b2] | skip)
                        have H' := Aside0.mk H
                        clear H
                        go_wp2
                        go_meet
                        case rel => exact ⟨_, (t147), (by first | rfl | (simp; done) | (simp [*]; done)), H', ⟨by have := HJ3.out; have := HJ6.out; have := HJ11.out; first | omega | exact Nat.le_refl _⟩, ⟨by repeat (first | (with_reducible first | exact HB.out | apply below_alloc | apply pw_below_drewN | apply below_drew1) | exact HB.out)⟩⟩
                    case rest =>
                      clear HC17
                      try clear c1
                      try clear c2
                      try clear p2
                      try clear c4
                      try clear c5
                      try clear c5b0
                      try clear c5b1
                      try clear c5b2
                      try clear c6
                      try clear c8
                      try clear c8b0
                      try clear c8b1
                      try clear c8b2
                      try clear c9
                      try clear c10
                      try clear c13
                      try clear c13b0
                      try clear c13b1
                      try clear c13b2
                      try clear c14
                      try clear c14b0
                      try clear c14b1
                      try clear c15
                      try clear c15b0
                      try clear c15b1
                      try clear c16
                      try clear c18
                      try clear c18b0
                      try clear c18b1
                      try clear c18b2
                      try clear p2
                      obtain ⟨kq, x9_16, rfl, HA, HJ16, HB⟩ := hcut
                      cases kq with
                      | zero => exact absurd HA.out (by simp [laws_FnPlural.j3])
                      | succ kj16 =>
                        have H := HA.out
                        clear HA
                        simp only [laws_FnPlural.j3] at H
                        by_cases c20 : a0 = 1
                        · rw [if_pos c20] at H
                          have c20b0 : (a0 == 1) = true := beq_iff_eq.mpr c20
                          have c20b1 : (a0 != 1) = false := bne_eq_false_iff_eq.mpr c20
                          clear c20
                          replace H := Option.bind_eq_some_iff.mp H
                          obtain ⟨t149, A210, H⟩ := H
                          replace H : (if t149.toList = t146.toList then ((impl_Plural.f kj16 a0 t146 t147).bind fun t150 => ((spec_Comma.f kj16 a0).bind fun t151 => (if t151.size + 1 ≤ 9223372036854775807 then (if (t151 ++ (⟨#[32]⟩ : ByteArray)).size + t146.size ≤ 9223372036854775807 then (some (t150.toList == ((t151 ++ (⟨#[32]⟩ : ByteArray)) ++ t146).toList)) else (none)) else (none)))) else (some false)) = some r := H
                          have A21 := Aside0.mk A210
                          clear A210
                          by_cases c22 : t149.toList = t146.toList
                          · rw [if_pos c22] at H
                            have c22b0 : (t149.toList == t146.toList) = true := beq_iff_eq.mpr c22
                            have c22b1 : (t149.toList != t146.toList) = false := bne_eq_false_iff_eq.mpr c22
                            clear c22
                            replace H := Option.bind_eq_some_iff.mp H
                            obtain ⟨t150, A230, H⟩ := H
                            replace H : ((spec_Comma.f kj16 a0).bind fun t151 => (if t151.size + 1 ≤ 9223372036854775807 then (if (t151 ++ (⟨#[32]⟩ : ByteArray)).size + t146.size ≤ 9223372036854775807 then (some (t150.toList == ((t151 ++ (⟨#[32]⟩ : ByteArray)) ++ t146).toList)) else (none)) else (none))) = some r := H
                            have A23 := Aside0.mk A230
                            clear A230
                            replace H := Option.bind_eq_some_iff.mp H
                            obtain ⟨t151, A240, H⟩ := H
                            replace H : (if t151.size + 1 ≤ 9223372036854775807 then (if (t151 ++ (⟨#[32]⟩ : ByteArray)).size + t146.size ≤ 9223372036854775807 then (some (t150.toList == ((t151 ++ (⟨#[32]⟩ : ByteArray)) ++ t146).toList)) else (none)) else (none)) = some r := H
                            have A24 := Aside0.mk A240
                            clear A240
                            by_cases c25 : t151.size + 1 ≤ 9223372036854775807
                            · rw [if_pos c25] at H
                              have c25b0 := eq_true c25
                              have c25b1 : decide (t151.size + 1 ≤ 9223372036854775807) = true := decide_eq_true c25
                              try have c25b2 : (9223372036854775807 < t151.size + 1) = False := eq_false (Nat.not_lt.2 c25)
                              by_cases c26 : (t151 ++ (⟨#[32]⟩ : ByteArray)).size + t146.size ≤ 9223372036854775807
                              · rw [if_pos c26] at H
                                have c26b0 := eq_true c26
                                have c26b1 : decide ((t151 ++ (⟨#[32]⟩ : ByteArray)).size + t146.size ≤ 9223372036854775807) = true := decide_eq_true c26
                                try have c26b2 : (9223372036854775807 < (t151 ++ (⟨#[32]⟩ : ByteArray)).size + t146.size) = False := eq_false (Nat.not_lt.2 c26)
                                try have c26n0 : (9223372036854775807 < t151.size + 1 + t146.size) = False := eq_false (by have h_ := c26; have _e0 : (⟨#[32]⟩ : ByteArray).size = 1 := rfl; (try simp only [ByteArray.size_append] at h_); omega)
                                obtain rfl := Option.some.inj H
                                go_wp2_with (first | ((with_reducible refine gate_callee (f := 11) rfl ?_); refine goesL_ (some 55) rfl rfl Try.func11 (by kernel_rfl) rfl #[.int .i64 a0, .string t146, .string t147] rfl (by (try simp only [List.map_toArray, List.map_cons, List.map_nil]); first | done | rfl | (simp only [List.length_drop, List.length_take]; rfl)) ?_; (with_reducible refine (impl_PluralWord.calls kj16 a0 t146 t147 t149 _ A21.out).mono ?_); rintro e w27 ⟨rfl, hb⟩; refine ⟨_, rfl, ?_⟩; have n0_ := Aside0.mk (below_step (by repeat (first | (with_reducible first | exact HB.out | apply below_alloc | apply pw_below_drewN | apply below_drew1) | exact HB.out)) hb); clear HB; have HB := n0_; clear n0_; (try clear hb); (try clear hb2); (try clear hk); (try clear hi)) | (go_at_call 12; (with_reducible refine (impl_Plural.calls kj16 a0 t146 t147 t150 _ A23.out).mono ?_); rintro e w28 ⟨rfl, hb⟩; have n0_ := Aside0.mk (below_step (by repeat (first | (with_reducible first | exact HB.out | apply below_alloc | apply pw_below_drewN | apply below_drew1) | exact HB.out)) hb); clear HB; have HB := n0_; clear n0_; (try clear hb); (try clear hb2); (try clear hk); (try clear hi)) | (go_at_call 13; (with_reducible refine (spec_Comma.calls kj16 a0 t151 _ A24.out).mono ?_); rintro e w' ⟨rfl, ⟨nd, rfl⟩⟩))
                                go_ret
                                exact ⟨by first | rfl | (simp [errW_none, errW_some] <;> rfl) | (simp [*, errW_none, errW_some] <;> rfl), by repeat (first | (with_reducible first | exact HB.out | apply below_alloc | apply pw_below_drewN | apply below_drew1) | exact HB.out)⟩
                              · rw [if_neg c26] at H
                                exact absurd H (by simp)
                            · rw [if_neg c25] at H
                              exact absurd H (by simp)
                          · rw [if_neg c22] at H
                            have c22b0 : (t149.toList == t146.toList) = false := beq_eq_false_iff_ne.mpr c22
                            have c22b1 : (t149.toList != t146.toList) = true := bne_iff_ne.mpr c22
                            obtain rfl := Option.some.inj H
                            go_wp2_with (first | ((with_reducible refine gate_callee (f := 11) rfl ?_); refine goesL_ (some 55) rfl rfl Try.func11 (by kernel_rfl) rfl #[.int .i64 a0, .string t146, .string t147] rfl (by (try simp only [List.map_toArray, List.map_cons, List.map_nil]); first | done | rfl | (simp only [List.length_drop, List.length_take]; rfl)) ?_; (with_reducible refine (impl_PluralWord.calls kj16 a0 t146 t147 t149 _ A21.out).mono ?_); rintro e w29 ⟨rfl, hb⟩; refine ⟨_, rfl, ?_⟩; have n0_ := Aside0.mk (below_step (by repeat (first | (with_reducible first | exact HB.out | apply below_alloc | apply pw_below_drewN | apply below_drew1) | exact HB.out)) hb); clear HB; have HB := n0_; clear n0_; (try clear hb); (try clear hb2); (try clear hk); (try clear hi)))
                            go_ret
                            exact ⟨by first | rfl | (simp [errW_none, errW_some] <;> rfl) | (simp [*, errW_none, errW_some] <;> rfl), by repeat (first | (with_reducible first | exact HB.out | apply below_alloc | apply pw_below_drewN | apply below_drew1) | exact HB.out)⟩
                        · rw [if_neg c20] at H
                          have c20b0 : (a0 == 1) = false := beq_eq_false_iff_ne.mpr c20
                          have c20b1 : (a0 != 1) = true := bne_iff_ne.mpr c20
                          replace H := Option.bind_eq_some_iff.mp H
                          obtain ⟨t152, A300, H⟩ := H
                          replace H : (if t152.toList = x9_16.toList then ((impl_Plural.f kj16 a0 t146 t147).bind fun t153 => ((spec_Comma.f kj16 a0).bind fun t154 => (if t154.size + 1 ≤ 9223372036854775807 then (if (t154 ++ (⟨#[32]⟩ : ByteArray)).size + x9_16.size ≤ 9223372036854775807 then (some (t153.toList == ((t154 ++ (⟨#[32]⟩ : ByteArray)) ++ x9_16).toList)) else (none)) else (none)))) else (some false)) = some r := H
                          have A30 := Aside0.mk A300
                          clear A300
                          by_cases c31 : t152.toList = x9_16.toList
                          · rw [if_pos c31] at H
                            have c31b0 : (t152.toList == x9_16.toList) = true := beq_iff_eq.mpr c31
                            have c31b1 : (t152.toList != x9_16.toList) = false := bne_eq_false_iff_eq.mpr c31
                            clear c31
                            replace H := Option.bind_eq_some_iff.mp H
                            obtain ⟨t153, A320, H⟩ := H
                            replace H : ((spec_Comma.f kj16 a0).bind fun t154 => (if t154.size + 1 ≤ 9223372036854775807 then (if (t154 ++ (⟨#[32]⟩ : ByteArray)).size + x9_16.size ≤ 9223372036854775807 then (some (t153.toList == ((t154 ++ (⟨#[32]⟩ : ByteArray)) ++ x9_16).toList)) else (none)) else (none))) = some r := H
                            have A32 := Aside0.mk A320
                            clear A320
                            replace H := Option.bind_eq_some_iff.mp H
                            obtain ⟨t154, A330, H⟩ := H
                            replace H : (if t154.size + 1 ≤ 9223372036854775807 then (if (t154 ++ (⟨#[32]⟩ : ByteArray)).size + x9_16.size ≤ 9223372036854775807 then (some (t153.toList == ((t154 ++ (⟨#[32]⟩ : ByteArray)) ++ x9_16).toList)) else (none)) else (none)) = some r := H
                            have A33 := Aside0.mk A330
                            clear A330
                            by_cases c34 : t154.size + 1 ≤ 9223372036854775807
                            · rw [if_pos c34] at H
                              have c34b0 := eq_true c34
                              have c34b1 : decide (t154.size + 1 ≤ 9223372036854775807) = true := decide_eq_true c34
                              try have c34b2 : (9223372036854775807 < t154.size + 1) = False := eq_false (Nat.not_lt.2 c34)
                              by_cases c35 : (t154 ++ (⟨#[32]⟩ : ByteArray)).size + x9_16.size ≤ 9223372036854775807
                              · rw [if_pos c35] at H
                                have c35b0 := eq_true c35
                                have c35b1 : decide ((t154 ++ (⟨#[32]⟩ : ByteArray)).size + x9_16.size ≤ 9223372036854775807) = true := decide_eq_true c35
                                try have c35b2 : (9223372036854775807 < (t154 ++ (⟨#[32]⟩ : ByteArray)).size + x9_16.size) = False := eq_false (Nat.not_lt.2 c35)
                                try have c35n0 : (9223372036854775807 < t154.size + 1 + x9_16.size) = False := eq_false (by have h_ := c35; have _e0 : (⟨#[32]⟩ : ByteArray).size = 1 := rfl; (try simp only [ByteArray.size_append] at h_); omega)
                                obtain rfl := Option.some.inj H
                                go_wp2_with (first | ((with_reducible refine gate_callee (f := 11) rfl ?_); refine goesL_ (some 55) rfl rfl Try.func11 (by kernel_rfl) rfl #[.int .i64 a0, .string t146, .string t147] rfl (by (try simp only [List.map_toArray, List.map_cons, List.map_nil]); first | done | rfl | (simp only [List.length_drop, List.length_take]; rfl)) ?_; (with_reducible refine (impl_PluralWord.calls kj16 a0 t146 t147 t152 _ A30.out).mono ?_); rintro e w36 ⟨rfl, hb⟩; refine ⟨_, rfl, ?_⟩; have n0_ := Aside0.mk (below_step (by repeat (first | (with_reducible first | exact HB.out | apply below_alloc | apply pw_below_drewN | apply below_drew1) | exact HB.out)) hb); clear HB; have HB := n0_; clear n0_; (try clear hb); (try clear hb2); (try clear hk); (try clear hi)) | (go_at_call 12; (with_reducible refine (impl_Plural.calls kj16 a0 t146 t147 t153 _ A32.out).mono ?_); rintro e w37 ⟨rfl, hb⟩; have n0_ := Aside0.mk (below_step (by repeat (first | (with_reducible first | exact HB.out | apply below_alloc | apply pw_below_drewN | apply below_drew1) | exact HB.out)) hb); clear HB; have HB := n0_; clear n0_; (try clear hb); (try clear hb2); (try clear hk); (try clear hi)) | (go_at_call 13; (with_reducible refine (spec_Comma.calls kj16 a0 t154 _ A33.out).mono ?_); rintro e w' ⟨rfl, ⟨nd, rfl⟩⟩))
                                go_ret
                                exact ⟨by first | rfl | (simp [errW_none, errW_some] <;> rfl) | (simp [*, errW_none, errW_some] <;> rfl), by repeat (first | (with_reducible first | exact HB.out | apply below_alloc | apply pw_below_drewN | apply below_drew1) | exact HB.out)⟩
                              · rw [if_neg c35] at H
                                exact absurd H (by simp)
                            · rw [if_neg c34] at H
                              exact absurd H (by simp)
                          · rw [if_neg c31] at H
                            have c31b0 : (t152.toList == x9_16.toList) = false := beq_eq_false_iff_ne.mpr c31
                            have c31b1 : (t152.toList != x9_16.toList) = true := bne_iff_ne.mpr c31
                            obtain rfl := Option.some.inj H
                            go_wp2_with (first | ((with_reducible refine gate_callee (f := 11) rfl ?_); refine goesL_ (some 55) rfl rfl Try.func11 (by kernel_rfl) rfl #[.int .i64 a0, .string t146, .string t147] rfl (by (try simp only [List.map_toArray, List.map_cons, List.map_nil]); first | done | rfl | (simp only [List.length_drop, List.length_take]; rfl)) ?_; (with_reducible refine (impl_PluralWord.calls kj16 a0 t146 t147 t152 _ A30.out).mono ?_); rintro e w38 ⟨rfl, hb⟩; refine ⟨_, rfl, ?_⟩; have n0_ := Aside0.mk (below_step (by repeat (first | (with_reducible first | exact HB.out | apply below_alloc | apply pw_below_drewN | apply below_drew1) | exact HB.out)) hb); clear HB; have HB := n0_; clear n0_; (try clear hb); (try clear hb2); (try clear hk); (try clear hi)))
                            go_ret
                            exact ⟨by first | rfl | (simp [errW_none, errW_some] <;> rfl) | (simp [*, errW_none, errW_some] <;> rfl), by repeat (first | (with_reducible first | exact HB.out | apply below_alloc | apply pw_below_drewN | apply below_drew1) | exact HB.out)⟩

/-- THE ONE PURE STATEMENT of laws_FnPlural: yours. -/
def laws_FnPlural.Pure : Prop := ∀ (a0 : Int) (l1 : List Int) (l2 : List Int), (Lit.int .i64 a0).wf = true → l1.length ≤ maxLen → l1.length * 1 ≤ 140737488351232 → (∀ x ∈ l1, (Lit.int .u8 x).wf = true) → l2.length ≤ maxLen → l2.length * 1 ≤ 140737488351232 → (∀ x ∈ l2, (Lit.int .u8 x).wf = true) → ∃ k, laws_FnPlural.f k a0 l1 l2 = some true
theorem laws_FnPlural.walk (P : laws_FnPlural.Pure) (a0 : Int) (a1 : Option Addr) (len1 cap1 : Nat) (z1 : List Int) (a2 : Option Addr) (len2 cap2 : Nat) (z2 : List Int) (w : World) (w0 : (Lit.int .i64 a0).wf = true) (w1 : (a1 = none ∧ len1 = 0 ∧ cap1 = 0 ∧ z1 = []) ∨ ∃ x, a1 = some x ∧ len1 ≤ cap1 ∧ cap1 ≤ maxLen ∧ z1.length = cap1 ∧ (∀ i, i < z1.length → w.cell? (x.add i) = some (.int .u8 (z1.getD i 0))) ∧ ∀ n ∈ z1, (Lit.int .u8 n).wf = true) (y1 : len1 * 1 ≤ 140737488351232) (w2 : (a2 = none ∧ len2 = 0 ∧ cap2 = 0 ∧ z2 = []) ∨ ∃ x, a2 = some x ∧ len2 ≤ cap2 ∧ cap2 ≤ maxLen ∧ z2.length = cap2 ∧ (∀ i, i < z2.length → w.cell? (x.add i) = some (.int .u8 (z2.getD i 0))) ∧ ∀ n ∈ z2, (Lit.int .u8 n).wf = true) (y2 : len2 * 1 ≤ 140737488351232) :
    Calls Try.prog 4 #[.int .i64 a0, .slice a1 len1 cap1, .slice a2 len2 cap2] w fun e w' => e = .returned (.bool true) ∧ Below w.heap.size w w' := by
  obtain ⟨l1, rfl, hr1, hm1, hw1, hc1⟩ := ReadsInt.ofRowC w1
  obtain ⟨l2, rfl, hr2, hm2, hw2, hc2⟩ := ReadsInt.ofRowC w2
  obtain ⟨k, h⟩ := P a0 l1 l2 w0 hm1 y1 hw1 hm2 y2 hw2
  refine (laws_FnPlural.calls k a0 _ _ l1 _ _ l2 true w (Kd.C_of_reads (d := (0 : Int)) (h1 := fun _ => rfl) hr1) hc1 (Kd.C_of_reads (d := (0 : Int)) (h1 := fun _ => rfl) hr2) hc2 h).mono ?_
  rintro e w' ⟨rfl, hd⟩
  exact ⟨rfl, hd⟩

end Go.Proofs.Ytmdgbbiipjmenaa.PFnPlural
