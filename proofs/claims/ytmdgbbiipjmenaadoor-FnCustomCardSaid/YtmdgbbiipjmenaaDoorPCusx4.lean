-- written by a program of this work
import Derived.Test.YtmdgbbiipjmenaaDoorPCusx0
import Derived.Test.YtmdgbbiipjmenaaDoorPCusx2
import Derived.Test.YtmdgbbiipjmenaaDoorPCusx3
namespace Go.Proofs.YtmdgbbiipjmenaaDoor.PCus
open Go.RowKit Go.Proofs.YtmdgbbiipjmenaaDoorW.PrintWords Go.Proofs.YtmdgbbiipjmenaaDoorW.PrintLast Go.Proofs.YtmdgbbiipjmenaaDoorW.PrintMore
attribute [local go_sem] max2_int min2_int max_two min_two max_three min_three max_four min_four   -- for this text's walks alone
set_option linter.unusedVariables false
set_option linter.unusedSimpArgs false

/-! ### laws_FnCustom: function 4 -/
mutual
def laws_FnCustom.j0 : Nat → Int → List Int → Int → Bool → Option (Bool)
  | 0, _, _, _, _ => none
  | k + 1, x0, x1, x2, x34 => if x34 = true then (some true) else (laws_FnCustom.l0 k x0 x2 (([] : List (S30))) 0 x1 (x1.length : Int) 0)
def laws_FnCustom.l0 : Nat → Int → Int → List (S30) → Int → List Int → Int → Int → Option (Bool)
  | 0, _, _, _, _, _, _, _ => none
  | k + 1, x0, x2, x7, x8, x36, x37, x38 => if x38 < x37 then (if 0 ≤ x38 then (if x38 < (x36.length : Int) then (if 0 ≤ (Int.tmod (rd x36 x38) 24) then (laws_FnCustom.l1 k x0 x2 x7 (wrap64 (x8 + (wrap64 ((shl .i64 (wrap64 (rd x36 x38)) (Int.tmod (rd x36 x38) 24)) + 1)))) (rd x36 x38) (⟨#[]⟩ : ByteArray) x36 x37 x38 0) else (none)) else (none)) else (none)) else ((some (([(⟨#[97, 103, 111]⟩ : ByteArray), (⟨#[102, 114, 111, 109, 32, 110, 111, 119]⟩ : ByteArray), (⟨#[108, 97, 116, 101, 114]⟩ : ByteArray)] : List ByteArray) : List ByteArray)).bind fun y148 => (if 0 ≤ (Int.tmod x2 3) then (if (Int.tmod x2 3) < (y148.length : Int) then (if 0 ≤ (((x2 + 1) % 256) % 3) then (if (((x2 + 1) % 256) % 3) < (y148.length : Int) then (if x0 < 0 then (laws_FnCustom.j3 k x0 x7 (wrap64 (-x0)) (rdOf ByteArray.empty y148 (((x2 + 1) % 256) % 3)) (rdOf ByteArray.empty y148 (Int.tmod x2 3))) else (laws_FnCustom.j3 k x0 x7 x0 (rdOf ByteArray.empty y148 (Int.tmod x2 3)) (rdOf ByteArray.empty y148 (((x2 + 1) % 256) % 3)))) else (none)) else (none)) else (none)) else (none)))
def laws_FnCustom.l1 : Nat → Int → Int → List (S30) → Int → Int → ByteArray → List Int → Int → Int → Int → Option (Bool)
  | 0, _, _, _, _, _, _, _, _, _, _ => none
  | k + 1, x0, x2, x7, x8, x10, x11, x36, x37, x38, x50 => if x50 < 4 then ((some (([(⟨#[37, 100]⟩ : ByteArray), (⟨#[37, 115]⟩ : ByteArray), (⟨#[37, 37]⟩ : ByteArray), (⟨#[32, 120]⟩ : ByteArray), (⟨#[121, 32]⟩ : ByteArray), (⟨#[122]⟩ : ByteArray)] : List ByteArray) : List ByteArray)).bind fun y141 => (if 0 ≤ (wrap64 ((wrap64 (3 * x50)) + 5)) then (if 0 ≤ (Int.tmod (shr .u32 x10 (wrap64 ((wrap64 (3 * x50)) + 5))) 6) then (if (Int.tmod (shr .u32 x10 (wrap64 ((wrap64 (3 * x50)) + 5))) 6) < (y141.length : Int) then (if x11.size + (rdOf ByteArray.empty y141 (Int.tmod (shr .u32 x10 (wrap64 ((wrap64 (3 * x50)) + 5))) 6)).size ≤ 9223372036854775807 then (laws_FnCustom.l1 k x0 x2 x7 x8 x10 (x11 ++ (rdOf ByteArray.empty y141 (Int.tmod (shr .u32 x10 (wrap64 ((wrap64 (3 * x50)) + 5))) 6))) x36 x37 x38 (wrap64 (x50 + 1))) else (none)) else (none)) else (none)) else (none))) else (if x7.length < 4398046511104 then (laws_FnCustom.l0 k x0 x2 (x7 ++ [(⟨x8, x11, (1 + (x10 / 128)) % 4294967296⟩ : S30)]) x8 x36 x37 (wrap64 (x38 + 1))) else (none))
def laws_FnCustom.j3 : Nat → Int → List (S30) → Int → ByteArray → ByteArray → Option (Bool)
  | 0, _, _, _, _, _ => none
  | k + 1, x0, x7, x13, x15, x16 => laws_FnCustom.l2 k x0 x7 x13 x15 x16 0
def laws_FnCustom.j5 : Nat → Int → List (S30) → Int → ByteArray → ByteArray → Int → Option (Bool)
  | 0, _, _, _, _, _, _ => none
  | k + 1, x0, x7, x13, x15, x16, x17 => if x0 < 0 then ((impl_Custom.f k x0 x16 x15 x7).bind fun t154 => (if 0 ≤ x17 then (if x17 < (x7.length : Int) then (if ((rd_T30 x7 x17).f2) = 0 then (none) else ((spec_Filled.f k ((rd_T30 x7 x17).f1) (wrap64 (Int.tdiv x13 ((rd_T30 x7 x17).f2))) x15).bind fun t157 => (some (t154.toList == t157.toList)))) else (none)) else (none))) else ((impl_Custom.f k x0 x15 x16 x7).bind fun t158 => (if 0 ≤ x17 then (if x17 < (x7.length : Int) then (if ((rd_T30 x7 x17).f2) = 0 then (none) else ((spec_Filled.f k ((rd_T30 x7 x17).f1) (wrap64 (Int.tdiv x13 ((rd_T30 x7 x17).f2))) x15).bind fun t161 => (some (t158.toList == t161.toList)))) else (none)) else (none)))
def laws_FnCustom.l2 : Nat → Int → List (S30) → Int → ByteArray → ByteArray → Int → Option (Bool)
  | 0, _, _, _, _, _, _ => none
  | k + 1, x0, x7, x13, x15, x16, x17 => if x17 < (wrap64 ((x7.length : Int) - 1)) then (if 0 ≤ x17 then (if x17 < (x7.length : Int) then (if ((rd_T30 x7 x17).f0) ≤ x13 then (laws_FnCustom.l2 k x0 x7 x13 x15 x16 (wrap64 (x17 + 1))) else (laws_FnCustom.j5 k x0 x7 x13 x15 x16 x17)) else (none)) else (none)) else (laws_FnCustom.j5 k x0 x7 x13 x15 x16 x17)
end
def laws_FnCustom.f (k : Nat) (a0 : Int) (l1 : List Int) (a2 : Int) : Option (Bool) := if (l1.length : Int) > 2147483647 then (some true) else (if a0 = (-9223372036854775808) then (laws_FnCustom.j0 k a0 l1 a2 true) else (if (l1.length : Int) = 0 then (laws_FnCustom.j0 k a0 l1 a2 true) else (laws_FnCustom.j0 k a0 l1 a2 (decide ((l1.length : Int) > 8)))))
theorem laws_FnCustom.mono_l : ∀ k, (∀ y0 y1 y2 y3, LeO (laws_FnCustom.j0 k y0 y1 y2 y3) (laws_FnCustom.j0 (k + 1) y0 y1 y2 y3)) ∧ (∀ y0 y1 y2 y3 y4 y5 y6, LeO (laws_FnCustom.l0 k y0 y1 y2 y3 y4 y5 y6) (laws_FnCustom.l0 (k + 1) y0 y1 y2 y3 y4 y5 y6)) ∧ (∀ y0 y1 y2 y3 y4 y5 y6 y7 y8 y9, LeO (laws_FnCustom.l1 k y0 y1 y2 y3 y4 y5 y6 y7 y8 y9) (laws_FnCustom.l1 (k + 1) y0 y1 y2 y3 y4 y5 y6 y7 y8 y9)) ∧ (∀ y0 y1 y2 y3 y4, LeO (laws_FnCustom.j3 k y0 y1 y2 y3 y4) (laws_FnCustom.j3 (k + 1) y0 y1 y2 y3 y4)) ∧ (∀ y0 y1 y2 y3 y4 y5, LeO (laws_FnCustom.j5 k y0 y1 y2 y3 y4 y5) (laws_FnCustom.j5 (k + 1) y0 y1 y2 y3 y4 y5)) ∧ (∀ y0 y1 y2 y3 y4 y5, LeO (laws_FnCustom.l2 k y0 y1 y2 y3 y4 y5) (laws_FnCustom.l2 (k + 1) y0 y1 y2 y3 y4 y5))
  | 0 => ⟨fun _ _ _ _ r h => by simp [laws_FnCustom.j0] at h, fun _ _ _ _ _ _ _ r h => by simp [laws_FnCustom.l0] at h, fun _ _ _ _ _ _ _ _ _ _ r h => by simp [laws_FnCustom.l1] at h, fun _ _ _ _ _ r h => by simp [laws_FnCustom.j3] at h, fun _ _ _ _ _ _ r h => by simp [laws_FnCustom.j5] at h, fun _ _ _ _ _ _ r h => by simp [laws_FnCustom.l2] at h⟩
  | k + 1 => by
    obtain ⟨ih0, ih1, ih2, ih3, ih4, ih5⟩ := laws_FnCustom.mono_l k
    refine ⟨?_, ?_, ?_, ?_, ?_, ?_⟩
    · intro y0 y1 y2 y3
      unfold laws_FnCustom.j0
      repeat' first
      | (with_reducible exact ih0 _ _ _ _)
      | (with_reducible exact ih1 _ _ _ _ _ _ _)
      | (with_reducible exact ih2 _ _ _ _ _ _ _ _ _ _)
      | (with_reducible exact ih3 _ _ _ _ _)
      | (with_reducible exact ih4 _ _ _ _ _ _)
      | (with_reducible exact ih5 _ _ _ _ _ _)
      | (with_reducible exact impl_Custom.mono _ _ _ _ _)
      | (with_reducible exact spec_Filled.mono _ _ _ _)
      | (with_reducible exact LeO.refl _)
      | (with_reducible exact LeO.none _)
      | (with_reducible refine LeO.ite ?_ ?_)
      | (with_reducible refine LeO.bind ?_ (fun _ => ?_))
      | exact ih0 _ _ _ _
      | exact ih1 _ _ _ _ _ _ _
      | exact ih2 _ _ _ _ _ _ _ _ _ _
      | exact ih3 _ _ _ _ _
      | exact ih4 _ _ _ _ _ _
      | exact ih5 _ _ _ _ _ _
      | exact impl_Custom.mono _ _ _ _ _
      | exact spec_Filled.mono _ _ _ _
      | exact LeO.none _
      | refine LeO.ite ?_ ?_
      | refine LeO.bind ?_ (fun _ => ?_)
    · intro y0 y1 y2 y3 y4 y5 y6
      unfold laws_FnCustom.l0
      repeat' first
      | (with_reducible exact ih0 _ _ _ _)
      | (with_reducible exact ih1 _ _ _ _ _ _ _)
      | (with_reducible exact ih2 _ _ _ _ _ _ _ _ _ _)
      | (with_reducible exact ih3 _ _ _ _ _)
      | (with_reducible exact ih4 _ _ _ _ _ _)
      | (with_reducible exact ih5 _ _ _ _ _ _)
      | (with_reducible exact impl_Custom.mono _ _ _ _ _)
      | (with_reducible exact spec_Filled.mono _ _ _ _)
      | (with_reducible exact LeO.refl _)
      | (with_reducible exact LeO.none _)
      | (with_reducible refine LeO.ite ?_ ?_)
      | (with_reducible refine LeO.bind ?_ (fun _ => ?_))
      | exact ih0 _ _ _ _
      | exact ih1 _ _ _ _ _ _ _
      | exact ih2 _ _ _ _ _ _ _ _ _ _
      | exact ih3 _ _ _ _ _
      | exact ih4 _ _ _ _ _ _
      | exact ih5 _ _ _ _ _ _
      | exact impl_Custom.mono _ _ _ _ _
      | exact spec_Filled.mono _ _ _ _
      | exact LeO.none _
      | refine LeO.ite ?_ ?_
      | refine LeO.bind ?_ (fun _ => ?_)
    · intro y0 y1 y2 y3 y4 y5 y6 y7 y8 y9
      unfold laws_FnCustom.l1
      repeat' first
      | (with_reducible exact ih0 _ _ _ _)
      | (with_reducible exact ih1 _ _ _ _ _ _ _)
      | (with_reducible exact ih2 _ _ _ _ _ _ _ _ _ _)
      | (with_reducible exact ih3 _ _ _ _ _)
      | (with_reducible exact ih4 _ _ _ _ _ _)
      | (with_reducible exact ih5 _ _ _ _ _ _)
      | (with_reducible exact impl_Custom.mono _ _ _ _ _)
      | (with_reducible exact spec_Filled.mono _ _ _ _)
      | (with_reducible exact LeO.refl _)
      | (with_reducible exact LeO.none _)
      | (with_reducible refine LeO.ite ?_ ?_)
      | (with_reducible refine LeO.bind ?_ (fun _ => ?_))
      | exact ih0 _ _ _ _
      | exact ih1 _ _ _ _ _ _ _
      | exact ih2 _ _ _ _ _ _ _ _ _ _
      | exact ih3 _ _ _ _ _
      | exact ih4 _ _ _ _ _ _
      | exact ih5 _ _ _ _ _ _
      | exact impl_Custom.mono _ _ _ _ _
      | exact spec_Filled.mono _ _ _ _
      | exact LeO.none _
      | refine LeO.ite ?_ ?_
      | refine LeO.bind ?_ (fun _ => ?_)
    · intro y0 y1 y2 y3 y4
      unfold laws_FnCustom.j3
      repeat' first
      | (with_reducible exact ih0 _ _ _ _)
      | (with_reducible exact ih1 _ _ _ _ _ _ _)
      | (with_reducible exact ih2 _ _ _ _ _ _ _ _ _ _)
      | (with_reducible exact ih3 _ _ _ _ _)
      | (with_reducible exact ih4 _ _ _ _ _ _)
      | (with_reducible exact ih5 _ _ _ _ _ _)
      | (with_reducible exact impl_Custom.mono _ _ _ _ _)
      | (with_reducible exact spec_Filled.mono _ _ _ _)
      | (with_reducible exact LeO.refl _)
      | (with_reducible exact LeO.none _)
      | (with_reducible refine LeO.ite ?_ ?_)
      | (with_reducible refine LeO.bind ?_ (fun _ => ?_))
      | exact ih0 _ _ _ _
      | exact ih1 _ _ _ _ _ _ _
      | exact ih2 _ _ _ _ _ _ _ _ _ _
      | exact ih3 _ _ _ _ _
      | exact ih4 _ _ _ _ _ _
      | exact ih5 _ _ _ _ _ _
      | exact impl_Custom.mono _ _ _ _ _
      | exact spec_Filled.mono _ _ _ _
      | exact LeO.none _
      | refine LeO.ite ?_ ?_
      | refine LeO.bind ?_ (fun _ => ?_)
    · intro y0 y1 y2 y3 y4 y5
      unfold laws_FnCustom.j5
      repeat' first
      | (with_reducible exact ih0 _ _ _ _)
      | (with_reducible exact ih1 _ _ _ _ _ _ _)
      | (with_reducible exact ih2 _ _ _ _ _ _ _ _ _ _)
      | (with_reducible exact ih3 _ _ _ _ _)
      | (with_reducible exact ih4 _ _ _ _ _ _)
      | (with_reducible exact ih5 _ _ _ _ _ _)
      | (with_reducible exact impl_Custom.mono _ _ _ _ _)
      | (with_reducible exact spec_Filled.mono _ _ _ _)
      | (with_reducible exact LeO.refl _)
      | (with_reducible exact LeO.none _)
      | (with_reducible refine LeO.ite ?_ ?_)
      | (with_reducible refine LeO.bind ?_ (fun _ => ?_))
      | exact ih0 _ _ _ _
      | exact ih1 _ _ _ _ _ _ _
      | exact ih2 _ _ _ _ _ _ _ _ _ _
      | exact ih3 _ _ _ _ _
      | exact ih4 _ _ _ _ _ _
      | exact ih5 _ _ _ _ _ _
      | exact impl_Custom.mono _ _ _ _ _
      | exact spec_Filled.mono _ _ _ _
      | exact LeO.none _
      | refine LeO.ite ?_ ?_
      | refine LeO.bind ?_ (fun _ => ?_)
    · intro y0 y1 y2 y3 y4 y5
      unfold laws_FnCustom.l2
      repeat' first
      | (with_reducible exact ih0 _ _ _ _)
      | (with_reducible exact ih1 _ _ _ _ _ _ _)
      | (with_reducible exact ih2 _ _ _ _ _ _ _ _ _ _)
      | (with_reducible exact ih3 _ _ _ _ _)
      | (with_reducible exact ih4 _ _ _ _ _ _)
      | (with_reducible exact ih5 _ _ _ _ _ _)
      | (with_reducible exact impl_Custom.mono _ _ _ _ _)
      | (with_reducible exact spec_Filled.mono _ _ _ _)
      | (with_reducible exact LeO.refl _)
      | (with_reducible exact LeO.none _)
      | (with_reducible refine LeO.ite ?_ ?_)
      | (with_reducible refine LeO.bind ?_ (fun _ => ?_))
      | exact ih0 _ _ _ _
      | exact ih1 _ _ _ _ _ _ _
      | exact ih2 _ _ _ _ _ _ _ _ _ _
      | exact ih3 _ _ _ _ _
      | exact ih4 _ _ _ _ _ _
      | exact ih5 _ _ _ _ _ _
      | exact impl_Custom.mono _ _ _ _ _
      | exact spec_Filled.mono _ _ _ _
      | exact LeO.none _
      | refine LeO.ite ?_ ?_
      | refine LeO.bind ?_ (fun _ => ?_)
theorem laws_FnCustom.mono : ∀ a0 a1 a2 k, LeO (laws_FnCustom.f k a0 a1 a2) (laws_FnCustom.f (k + 1) a0 a1 a2) := by
  intro a0 a1 a2 k
  obtain ⟨ih0, ih1, ih2, ih3, ih4, ih5⟩ := laws_FnCustom.mono_l k
  unfold laws_FnCustom.f
  repeat' first
      | (with_reducible exact ih0 _ _ _ _)
      | (with_reducible exact ih1 _ _ _ _ _ _ _)
      | (with_reducible exact ih2 _ _ _ _ _ _ _ _ _ _)
      | (with_reducible exact ih3 _ _ _ _ _)
      | (with_reducible exact ih4 _ _ _ _ _ _)
      | (with_reducible exact ih5 _ _ _ _ _ _)
      | (with_reducible exact impl_Custom.mono _ _ _ _ _)
      | (with_reducible exact spec_Filled.mono _ _ _ _)
      | (with_reducible exact LeO.refl _)
      | (with_reducible exact LeO.none _)
      | (with_reducible refine LeO.ite ?_ ?_)
      | (with_reducible refine LeO.bind ?_ (fun _ => ?_))
      | exact ih0 _ _ _ _
      | exact ih1 _ _ _ _ _ _ _
      | exact ih2 _ _ _ _ _ _ _ _ _ _
      | exact ih3 _ _ _ _ _
      | exact ih4 _ _ _ _ _ _
      | exact ih5 _ _ _ _ _ _
      | exact impl_Custom.mono _ _ _ _ _
      | exact spec_Filled.mono _ _ _ _
      | exact LeO.none _
      | refine LeO.ite ?_ ?_
      | refine LeO.bind ?_ (fun _ => ?_)
def laws_FnCustom.T21 : Bool × List (List Nat × List Nat) := (true, [([], []), ([], []), ([1], [1]), ([0, 2], [0, 2]), ([3], [3]), ([], []), ([], []), ([6], [6]), ([7], [7]), ([5, 8], [5, 8]), ([9], [9]), ([4, 0, 1, 2, 3, 4], [4]), ([10, 11, 0, 1, 2, 3, 4, 5, 6, 7, 8, 9, 10, 11], [10])])
def laws_FnCustom.B21 : List Nat := [0, 0, 2, 7, 15, 0, 0, 64, 192, 480, 992, 31, 4095]
theorem laws_FnCustom.tab21 : rtab .any (opsOf Tryd.f4 21) = laws_FnCustom.T21 := by kernel_rfl
theorem laws_FnCustom.bits21 : waitsOk laws_FnCustom.T21.2 laws_FnCustom.B21 = true := by kernel_rfl
def laws_FnCustom.T30 : Bool × List (List Nat × List Nat) := (true, [([], []), ([], []), ([], []), ([], []), ([0, 1, 2, 3], [0, 1, 2, 3]), ([], []), ([], []), ([5, 6], [5, 6]), ([7], [7]), ([8], [8]), ([], []), ([], []), ([], []), ([11, 12], [11, 12]), ([13], [13]), ([14], [14]), ([10, 15], [10, 15]), ([], []), ([9, 16, 17, 4], [9, 16, 17]), ([4, 18], [4, 18]), ([19, 18, 0, 1, 2, 3, 4, 5, 6, 7, 8, 9, 10, 11, 12, 13, 14, 15, 16, 17, 18, 19], [19])])
def laws_FnCustom.B30 : List Nat := [0, 0, 0, 0, 15, 0, 0, 96, 224, 480, 0, 0, 0, 6144, 14336, 30720, 64512, 0, 262143, 524287, 1048575]
theorem laws_FnCustom.tab30 : rtab .any (opsOf Tryd.f4 30) = laws_FnCustom.T30 := by kernel_rfl
theorem laws_FnCustom.bits30 : waitsOk laws_FnCustom.T30.2 laws_FnCustom.B30 = true := by kernel_rfl
set_option maxHeartbeats 8000000 in
set_option maxRecDepth 100000 in
theorem laws_FnCustom.calls (k : Nat) (a0 : Int) (A1 : Option Addr) (c1 : Nat) (l1 : List Int) (a2 : Int) (r : Bool) (w : World) (hr1 : Kd.C (Kd.int .u32) w A1 l1.length l1) (hc1 : l1.length ≤ c1) (h : laws_FnCustom.f k a0 l1 a2 = some r) (ht_ : Aside0 (Go.Proofs.YtmdgbbiipjmenaaDoor.Ord.Tab w)) :
    Calls Tryd.prog 4 #[.int .i64 a0, .slice A1 l1.length c1, .int .u8 a2] w fun e w' => e = .returned (.bool r) ∧ Below w.heap.size w w' := by
  have hu30 := Tryd.underlying30
  have HR1 := Aside0.mk hr1
  have HC1 := Aside0.mk hc1
  clear hr1 hc1
  have HB := Aside0.mk (Below.refl w.heap.size w)
  have H : (if (l1.length : Int) > 2147483647 then (some true) else (if a0 = (-9223372036854775808) then (laws_FnCustom.j0 k a0 l1 a2 true) else (if (l1.length : Int) = 0 then (laws_FnCustom.j0 k a0 l1 a2 true) else (laws_FnCustom.j0 k a0 l1 a2 (decide ((l1.length : Int) > 8)))))) = some r := h
  clear h
  by_cases c4 : (l1.length : Int) > 2147483647
  · rw [if_pos c4] at H
    have c4b0 : decide (2147483647 < (l1.length : Int)) = true := decide_eq_true c4
    have c4b1 : decide (2147483647 < l1.length) = true := decide_eq_true (by omega)
    clear c4
    obtain rfl := Option.some.inj H
    go_enter Tryd.func4, Tryd.ntmps4
    go_wp2
    go_ret
    exact ⟨by first | rfl | (simp [errW_none, errW_some] <;> rfl) | (simp [*, errW_none, errW_some] <;> rfl), by repeat (first | (with_reducible first | exact HB.out | apply below_alloc | apply pw_below_drewN | apply below_drew1) | exact HB.out)⟩
  · rw [if_neg c4] at H
    have c4b0 : decide (2147483647 < (l1.length : Int)) = false := decide_eq_false c4
    have c4b1 : decide (2147483647 < l1.length) = false := decide_eq_false (by omega)
    clear c4
    have HC5 := Aside0.mk H
    clear H
    go_enter Tryd.func4, Tryd.ntmps4
    go_upto_region 3 with (fail)
    go_cut [34] (fun v34 wc => ∃ (kq : Nat) (x34_4 : Bool), v34 = .bool x34_4 ∧ Aside0 (laws_FnCustom.j0 kq a0 l1 a2 x34_4 = some r) ∧ Aside0 (kq ≤ k) ∧ Aside0 (Below w.heap.size w wc))
    case first =>
      have H := HC5.out
      clear HC5
      by_cases c6 : a0 = (-9223372036854775808)
      · rw [if_pos c6] at H
        have c6b0 : (a0 == (-9223372036854775808)) = true := beq_iff_eq.mpr c6
        have c6b1 : (a0 != (-9223372036854775808)) = false := bne_eq_false_iff_eq.mpr c6
        clear c6
        (first | rw [c6b0] | (simp only [i64_w, i32_w]; rw [c6b0]) | rw [c6b2] | skip)
        have H' := Aside0.mk H
        clear H
        go_wp2
        go_meet
        case rel => exact ⟨_, (true), (by first | rfl | (simp; done) | (simp [*]; done)), H', ⟨by first | omega | exact Nat.le_refl _⟩, ⟨by repeat (first | (with_reducible first | exact HB.out | apply below_alloc | apply pw_below_drewN | apply below_drew1) | exact HB.out)⟩⟩
      · rw [if_neg c6] at H
        have c6b0 : (a0 == (-9223372036854775808)) = false := beq_eq_false_iff_ne.mpr c6
        have c6b1 : (a0 != (-9223372036854775808)) = true := bne_iff_ne.mpr c6
        (first | rw [c6b0] | (simp only [i64_w, i32_w]; rw [c6b0]) | rw [c6b2] | skip)
        by_cases c7 : (l1.length : Int) = 0
        · rw [if_pos c7] at H
          have c7b0 : ((l1.length : Int) == 0) = true := beq_iff_eq.mpr c7
          have c7b1 : ((l1.length : Int) != 0) = false := bne_eq_false_iff_eq.mpr c7
          clear c7
          have H' := Aside0.mk H
          clear H
          go_wp2
          go_meet
          case rel => exact ⟨_, (true), (by first | rfl | (simp; done) | (simp [*]; done)), H', ⟨by first | omega | exact Nat.le_refl _⟩, ⟨by repeat (first | (with_reducible first | exact HB.out | apply below_alloc | apply pw_below_drewN | apply below_drew1) | exact HB.out)⟩⟩
        · rw [if_neg c7] at H
          have c7b0 : ((l1.length : Int) == 0) = false := beq_eq_false_iff_ne.mpr c7
          have c7b1 : ((l1.length : Int) != 0) = true := bne_iff_ne.mpr c7
          have c7b2 : ¬ (l1 = []) := fun h_ => c7 (by rw [h_]; rfl)
          have H' := Aside0.mk H
          clear H
          go_wp2
          go_meet
          case rel => exact ⟨_, (decide ((l1.length : Int) > 8)), (by first | rfl | (simp; done) | (simp [*]; done)), H', ⟨by first | omega | exact Nat.le_refl _⟩, ⟨by repeat (first | (with_reducible first | exact HB.out | apply below_alloc | apply pw_below_drewN | apply below_drew1) | exact HB.out)⟩⟩
    case rest =>
      clear HC5
      try clear c1
      try clear p2
      try clear c4
      try clear c4b0
      try clear c4b1
      try clear c6
      try clear c6b0
      try clear c6b1
      try clear c6b2
      try clear c7
      try clear c7b0
      try clear c7b1
      try clear c7b2
      obtain ⟨kq, x34_4, rfl, HA, HJ4, HB⟩ := hcut
      cases kq with
      | zero => exact absurd HA.out (by simp [laws_FnCustom.j0])
      | succ kj4 =>
        have H := HA.out
        clear HA
        simp only [laws_FnCustom.j0] at H
        by_cases c8 : x34_4 = true
        · subst c8
          have H1 : (some true) = some r := by rw [if_pos rfl] at H; exact H
          clear H
          have H := H1
          clear H1
          obtain rfl := Option.some.inj H
          go_wp2
          go_ret
          exact ⟨by first | rfl | (simp [errW_none, errW_some] <;> rfl) | (simp [*, errW_none, errW_some] <;> rfl), by repeat (first | (with_reducible first | exact HB.out | apply below_alloc | apply pw_below_drewN | apply below_drew1) | exact HB.out)⟩
        · replace c8 := Bool.eq_false_iff.mpr c8
          subst c8
          have H1 : (laws_FnCustom.l0 kj4 a0 a2 (([] : List (S30))) 0 l1 (l1.length : Int) 0) = some r := by rw [if_neg (show ¬ (false = true) by decide)] at H; exact H
          clear H
          have H := H1
          clear H1
          obtain ⟨y137, hy137⟩ : ∃ y_ : List (S30), y_ = (([] : List (S30))) := ⟨_, rfl⟩
          replace H : (laws_FnCustom.l0 kj4 a0 a2 y137 0 l1 (l1.length : Int) 0) = some r := by first | (rw [hy137]; with_reducible exact H) | (have H2_ := (Option.bind_some _ _).symm.trans H; rw [hy137]; with_reducible exact H2_) | (have H2_ := (Option.bind_some _ _).symm.trans H; with_reducible exact H2_) | with_reducible exact H | (rw [hy137]; exact H) | exact H
          have Ny137 := Aside0.mk hy137
          clear hy137
          have H' := Aside0.mk H
          clear H
          go_wp2_with (first | ((with_reducible refine gate_dst (N := 35) rfl ?_); (try (refine gate_guard (by rfl) ?_; dsimp only)); refine Kd.R_lit k30 _ 30 ?hg (N := 35) ?hd (xs := ([] : List (S30))) (inner := []) (ok := fun _ => True) (okp := fun _ => True) ?hr ?hp (fun _ hk => hk) trivial (Below.refl _ _) (Nat.le_refl _) (by simp) ?_; (case hd => rfl); (case hg => rfl); (case hr => first | (go_simp; done) | (go_simp; rfl)); (case hp => exact (Reps.none _ _)); intro v138 w9 ho10 hb hg_ hnew_; clear hg_ hnew_; (first | rw [← Ny137.out] at ho10 | (simp only [Int.reduceToNat] at ho10; rw [← Ny137.out] at ho10)); have n0_ := Aside0.mk (Kd.R_lower ho10 (below_size (by repeat (first | (with_reducible first | exact HB.out | apply below_alloc | apply pw_below_drewN | apply below_drew1) | exact HB.out)))); have n1_ := Aside0.mk (below_step (by repeat (first | (with_reducible first | exact HB.out | apply below_alloc | apply pw_below_drewN | apply below_drew1) | exact HB.out)) hb); clear HB; have HO139 := n0_; have HB := n1_; clear n0_ n1_; clear hb ho10))
          go_loopg [7, 8, 38] kj4 (fun kq v7 v8 v38 w' => ∃ (x7_2 : List (S30)) (x8_2 : Int) (x38_2 : Int), v8 = .int .i64 x8_2 ∧ v38 = .int .i64 x38_2 ∧ Aside0 (laws_FnCustom.l0 kq a0 a2 x7_2 x8_2 l1 (l1.length : Int) x38_2 = some r) ∧ Aside0 (kq ≤ kj4) ∧ Aside0 (Kd.R k30 30 w' w.heap.size (fun _ => True) v7 x7_2) ∧ Aside0 (Below w.heap.size w w'))
          case atStart => exact ⟨(y137), (0), (0), (by first | rfl | (simp; done) | (simp [*]; done)), (by first | rfl | (simp; done) | (simp [*]; done)), H', ⟨Nat.le_refl _⟩, ⟨by (with_reducible repeat (first | apply Kd.R_alloc | apply Kd.R_drewN | apply Kd.R_drew)); exact HO139.out⟩, ⟨by repeat (first | (with_reducible first | exact HB.out | apply below_alloc | apply pw_below_drewN | apply below_drew1) | exact HB.out)⟩⟩
          case round =>
            clear H'
            try clear c1
            try clear p2
            try clear c4
            try clear c4b0
            try clear c4b1
            try clear c6
            try clear c6b0
            try clear c6b1
            try clear c6b2
            try clear c7
            try clear c7b0
            try clear c7b1
            try clear c7b2
            try clear c8
            try clear p2
            obtain ⟨x7_2, x8_2, x38_2, rfl, rfl, HA, HK2, HO_7, HB⟩ := hrel
            cases gk with
            | zero => exact absurd HA.out (by simp [laws_FnCustom.l0])
            | succ k2 =>
              have H := HA.out
              clear HA
              simp only [laws_FnCustom.l0] at H
              by_cases c11 : x38_2 < (l1.length : Int)
              · rw [if_pos c11] at H
                have c11b0 : decide (x38_2 < (l1.length : Int)) = true := decide_eq_true c11
                clear c11
                by_cases c12 : 0 ≤ x38_2
                · rw [if_pos c12] at H
                  have c12b0 : decide (0 ≤ x38_2) = true := decide_eq_true c12
                  clear c12
                  by_cases c13 : x38_2 < (l1.length : Int)
                  · rw [if_pos c13] at H
                    have c13b0 : decide (x38_2 < (l1.length : Int)) = true := decide_eq_true c13
                    clear c13
                    obtain ⟨ji14, hji14⟩ : ∃ j_ : Int, (Int.tmod (rd l1 x38_2) 24) = j_ := ⟨_, rfl⟩
                    replace H : (if 0 ≤ (ji14) then (laws_FnCustom.l1 k2 a0 a2 x7_2 (wrap64 (x8_2 + (wrap64 ((shl .i64 (wrap64 (rd l1 x38_2)) (ji14)) + 1)))) (rd l1 x38_2) (⟨#[]⟩ : ByteArray) l1 (l1.length : Int) x38_2 0) else (none)) = some r := by first | (rw [hji14] at H; exact H) | (simp only [hji14] at H ⊢; exact H)
                    by_cases c15 : 0 ≤ (ji14)
                    · rw [if_pos c15] at H
                      have c15b0 := eq_true c15
                      have c15b1 : decide (0 ≤ (ji14)) = true := decide_eq_true c15
                      clear c15
                      obtain ⟨ji16, hji16⟩ : ∃ j_ : Int, (shl .i64 (wrap64 (rd l1 x38_2)) (ji14)) = j_ := ⟨_, rfl⟩
                      replace H : (laws_FnCustom.l1 k2 a0 a2 x7_2 (wrap64 (x8_2 + (wrap64 ((ji16) + 1)))) (rd l1 x38_2) (⟨#[]⟩ : ByteArray) l1 (l1.length : Int) x38_2 0) = some r := by first | (rw [hji16] at H; exact H) | (simp only [hji16] at H ⊢; exact H)
                      have hji16_ : (IntKind.i64.wrap ((wrap64 (rd l1 x38_2)) * 2 ^ min (ji14).toNat 64)) = ji16 := hji16
                      have hji16z : (ji14) ≤ 64 → (IntKind.i64.wrap ((wrap64 (rd l1 x38_2)) * 2 ^ (ji14).toNat)) = ji16 := shl_small hji16
                      have hji16y : (wrap64 ((wrap64 (rd l1 x38_2)) * 2 ^ min (ji14).toNat 64)) = ji16 := (i64_w _).symm.trans hji16_
                      have hji16x : (ji14) ≤ 64 → (wrap64 ((wrap64 (rd l1 x38_2)) * 2 ^ (ji14).toNat)) = ji16 := fun h_ => (i64_w _).symm.trans (hji16z h_)
                      have H' := Aside0.mk H
                      clear H
                      have p140 : 0 ≤ (x38_2 : Int) := of_decide_eq_true (by first | (with_reducible assumption) | assumption)
                      have q140 : x38_2 < (l1.length : Int) := of_decide_eq_true (by first | (with_reducible assumption) | assumption)
                      obtain ⟨ad140, e140, hx140_0⟩ := Kd.at_int HR1.out x38_2 p140 q140
                      cases e140
                      replace hx140_0 := (HB.out.cell (World.block_lt_of_cell? w _ hx140_0)).trans hx140_0
                      replace p140 := eq_true p140
                      replace q140 := eq_true q140
                      go_wp2
                      go_loopg [11, 50] k2 (fun kq v11 v50 w' => ∃ (x11_3 : ByteArray) (x50_3 : Int), v11 = .string x11_3 ∧ v50 = .int .i64 x50_3 ∧ Aside0 (laws_FnCustom.l1 kq a0 a2 x7_2 (wrap64 (x8_2 + (wrap64 ((ji16) + 1)))) (rd l1 x38_2) x11_3 l1 (l1.length : Int) x38_2 x50_3 = some r) ∧ Aside0 (kq ≤ k2) ∧ Aside0 (Kd.R k30 30 w' w.heap.size (fun _ => True) u7 x7_2) ∧ Aside0 (Below w.heap.size w w'))
                      case atStart => exact ⟨((⟨#[]⟩ : ByteArray)), (0), (by first | rfl | (simp; done) | (simp [*]; done)), (by first | rfl | (simp; done) | (simp [*]; done)), H', ⟨Nat.le_refl _⟩, ⟨by (with_reducible repeat (first | apply Kd.R_alloc | apply Kd.R_drewN | apply Kd.R_drew)); exact HO_7.out⟩, ⟨by repeat (first | (with_reducible first | exact HB.out | apply below_alloc | apply pw_below_drewN | apply below_drew1) | exact HB.out)⟩⟩
                      case round =>
                        clear H'
                        try clear c1
                        try clear p1
                        try clear q1
                        try clear hx1
                        try clear p2
                        try clear c4
                        try clear c4b0
                        try clear c4b1
                        try clear c6
                        try clear c6b0
                        try clear c6b1
                        try clear c6b2
                        try clear p6
                        try clear c7
                        try clear c7b0
                        try clear c7b1
                        try clear c7b2
                        try clear c8
                        try clear c11
                        try clear c11b0
                        try clear c12
                        try clear c12b0
                        try clear c13
                        try clear c13b0
                        try clear p14
                        try clear q14
                        try clear hx14
                        try clear c15
                        try clear c15b0
                        try clear c15b1
                        try clear hx140_0
                        try clear p140
                        try clear p2
                        try clear q140
                        obtain ⟨x11_3, x50_3, rfl, rfl, HA, HK3, HO_7, HB⟩ := hrel
                        cases gk with
                        | zero => exact absurd HA.out (by simp [laws_FnCustom.l1])
                        | succ k3 =>
                          have H := HA.out
                          clear HA
                          simp only [laws_FnCustom.l1] at H
                          by_cases c17 : x50_3 < 4
                          · rw [if_pos c17] at H
                            have c17b0 : decide (x50_3 < 4) = true := decide_eq_true c17
                            clear c17
                            obtain ⟨y141, hy141⟩ : ∃ y_ : List ByteArray, y_ = (([(⟨#[37, 100]⟩ : ByteArray), (⟨#[37, 115]⟩ : ByteArray), (⟨#[37, 37]⟩ : ByteArray), (⟨#[32, 120]⟩ : ByteArray), (⟨#[121, 32]⟩ : ByteArray), (⟨#[122]⟩ : ByteArray)] : List ByteArray)) := ⟨_, rfl⟩
                            replace H : (if 0 ≤ (wrap64 ((wrap64 (3 * x50_3)) + 5)) then (if 0 ≤ (Int.tmod (shr .u32 (rd l1 x38_2) (wrap64 ((wrap64 (3 * x50_3)) + 5))) 6) then (if (Int.tmod (shr .u32 (rd l1 x38_2) (wrap64 ((wrap64 (3 * x50_3)) + 5))) 6) < (y141.length : Int) then (if x11_3.size + (rdOf ByteArray.empty y141 (Int.tmod (shr .u32 (rd l1 x38_2) (wrap64 ((wrap64 (3 * x50_3)) + 5))) 6)).size ≤ 9223372036854775807 then (laws_FnCustom.l1 k3 a0 a2 x7_2 (wrap64 (x8_2 + (wrap64 ((ji16) + 1)))) (rd l1 x38_2) (x11_3 ++ (rdOf ByteArray.empty y141 (Int.tmod (shr .u32 (rd l1 x38_2) (wrap64 ((wrap64 (3 * x50_3)) + 5))) 6))) l1 (l1.length : Int) x38_2 (wrap64 (x50_3 + 1))) else (none)) else (none)) else (none)) else (none)) = some r := by first | (rw [hy141]; with_reducible exact H) | (have H2_ := (Option.bind_some _ _).symm.trans H; rw [hy141]; with_reducible exact H2_) | (have H2_ := (Option.bind_some _ _).symm.trans H; with_reducible exact H2_) | with_reducible exact H | (rw [hy141]; exact H) | exact H
                            have Ny141 := Aside0.mk hy141
                            clear hy141
                            obtain ⟨ji18, hji18⟩ : ∃ j_ : Int, (wrap64 ((wrap64 (3 * x50_3)) + 5)) = j_ := ⟨_, rfl⟩
                            replace H : (if 0 ≤ (ji18) then (if 0 ≤ (Int.tmod (shr .u32 (rd l1 x38_2) (ji18)) 6) then (if (Int.tmod (shr .u32 (rd l1 x38_2) (ji18)) 6) < (y141.length : Int) then (if x11_3.size + (rdOf ByteArray.empty y141 (Int.tmod (shr .u32 (rd l1 x38_2) (ji18)) 6)).size ≤ 9223372036854775807 then (laws_FnCustom.l1 k3 a0 a2 x7_2 (wrap64 (x8_2 + (wrap64 ((ji16) + 1)))) (rd l1 x38_2) (x11_3 ++ (rdOf ByteArray.empty y141 (Int.tmod (shr .u32 (rd l1 x38_2) (ji18)) 6))) l1 (l1.length : Int) x38_2 (wrap64 (x50_3 + 1))) else (none)) else (none)) else (none)) else (none)) = some r := by first | (rw [hji18] at H; exact H) | (simp only [hji18] at H ⊢; exact H)
                            have hji18w : (IntKind.i64.wrap ((wrap64 (3 * x50_3)) + 5)) = ji18 := (i64_w _).trans hji18
                            by_cases c19 : 0 ≤ (ji18)
                            · rw [if_pos c19] at H
                              have c19b0 := eq_true c19
                              have c19b1 : decide (0 ≤ (ji18)) = true := decide_eq_true c19
                              clear c19
                              obtain ⟨ji20, hji20⟩ : ∃ j_ : Int, (shr .u32 (rd l1 x38_2) (ji18)) = j_ := ⟨_, rfl⟩
                              replace H : (if 0 ≤ (Int.tmod (ji20) 6) then (if (Int.tmod (ji20) 6) < (y141.length : Int) then (if x11_3.size + (rdOf ByteArray.empty y141 (Int.tmod (ji20) 6)).size ≤ 9223372036854775807 then (laws_FnCustom.l1 k3 a0 a2 x7_2 (wrap64 (x8_2 + (wrap64 ((ji16) + 1)))) (rd l1 x38_2) (x11_3 ++ (rdOf ByteArray.empty y141 (Int.tmod (ji20) 6))) l1 (l1.length : Int) x38_2 (wrap64 (x50_3 + 1))) else (none)) else (none)) else (none)) = some r := by first | (rw [hji20] at H; exact H) | (simp only [hji20] at H ⊢; exact H)
                              have hji20_ : ((rd l1 x38_2) / 2 ^ min (ji18).toNat 32) = ji20 := hji20
                              have hji20z : (ji18) ≤ 32 → ((rd l1 x38_2) / 2 ^ (ji18).toNat) = ji20 := shr_small hji20
                              obtain ⟨ji21, hji21⟩ : ∃ j_ : Int, (Int.tmod (ji20) 6) = j_ := ⟨_, rfl⟩
                              replace H : (if 0 ≤ (ji21) then (if (ji21) < (y141.length : Int) then (if x11_3.size + (rdOf ByteArray.empty y141 (ji21)).size ≤ 9223372036854775807 then (laws_FnCustom.l1 k3 a0 a2 x7_2 (wrap64 (x8_2 + (wrap64 ((ji16) + 1)))) (rd l1 x38_2) (x11_3 ++ (rdOf ByteArray.empty y141 (ji21))) l1 (l1.length : Int) x38_2 (wrap64 (x50_3 + 1))) else (none)) else (none)) else (none)) = some r := by first | (rw [hji21] at H; exact H) | (simp only [hji21] at H ⊢; exact H)
                              by_cases c22 : 0 ≤ (ji21)
                              · rw [if_pos c22] at H
                                have c22b0 : decide (0 ≤ (ji21)) = true := decide_eq_true c22
                                clear c22
                                by_cases c23 : (ji21) < (y141.length : Int)
                                · rw [if_pos c23] at H
                                  have c23b0 : decide ((ji21) < (y141.length : Int)) = true := decide_eq_true c23
                                  clear c23
                                  by_cases c24 : x11_3.size + (rdOf ByteArray.empty y141 (ji21)).size ≤ 9223372036854775807
                                  · rw [if_pos c24] at H
                                    have c24b0 := eq_true c24
                                    have c24b1 : decide (x11_3.size + (rdOf ByteArray.empty y141 (ji21)).size ≤ 9223372036854775807) = true := decide_eq_true c24
                                    try have c24b2 : (9223372036854775807 < x11_3.size + (rdOf ByteArray.empty y141 (ji21)).size) = False := eq_false (Nat.not_lt.2 c24)
                                    have H' := Aside0.mk H
                                    clear H
                                    go_wp2_with (first | ((with_reducible refine gate_dst (N := 54) rfl ?_); (try (refine gate_guard (by rfl) ?_; dsimp only)); refine Kd.R_lit Kd.string _ 9 ?hg (N := 54) ?hd (xs := ([(⟨#[37, 100]⟩ : ByteArray), (⟨#[37, 115]⟩ : ByteArray), (⟨#[37, 37]⟩ : ByteArray), (⟨#[32, 120]⟩ : ByteArray), (⟨#[121, 32]⟩ : ByteArray), (⟨#[122]⟩ : ByteArray)] : List ByteArray)) (inner := [.string (⟨#[37, 100]⟩ : ByteArray), .string (⟨#[37, 115]⟩ : ByteArray), .string (⟨#[37, 37]⟩ : ByteArray), .string (⟨#[32, 120]⟩ : ByteArray), .string (⟨#[121, 32]⟩ : ByteArray), .string (⟨#[122]⟩ : ByteArray)]) (ok := fun _ => True) (okp := fun _ => True) ?hr ?hp (fun _ hk => hk) trivial (Below.refl _ _) (Nat.le_refl _) (by simp) ?_; (case hd => rfl); (case hg => rfl); (case hr => first | (go_simp; done) | (go_simp; rfl)); (case hp => exact (Reps.one (show Kd.M Kd.string _ _ _ (⟨#[37, 100]⟩ : ByteArray) [.string (⟨#[37, 100]⟩ : ByteArray)] from rfl) (Reps.one (show Kd.M Kd.string _ _ _ (⟨#[37, 115]⟩ : ByteArray) [.string (⟨#[37, 115]⟩ : ByteArray)] from rfl) (Reps.one (show Kd.M Kd.string _ _ _ (⟨#[37, 37]⟩ : ByteArray) [.string (⟨#[37, 37]⟩ : ByteArray)] from rfl) (Reps.one (show Kd.M Kd.string _ _ _ (⟨#[32, 120]⟩ : ByteArray) [.string (⟨#[32, 120]⟩ : ByteArray)] from rfl) (Reps.one (show Kd.M Kd.string _ _ _ (⟨#[121, 32]⟩ : ByteArray) [.string (⟨#[121, 32]⟩ : ByteArray)] from rfl) (Reps.one (show Kd.M Kd.string _ _ _ (⟨#[122]⟩ : ByteArray) [.string (⟨#[122]⟩ : ByteArray)] from rfl) (Reps.none _ _)))))))); intro v142 w25 ho26 hb hg_ hnew_; clear hg_ hnew_; (first | rw [← Ny141.out] at ho26 | (simp only [Int.reduceToNat] at ho26; rw [← Ny141.out] at ho26)); have n0_ := Aside0.mk (Kd.R_below (by (with_reducible repeat (first | apply Kd.R_alloc | apply Kd.R_drewN | apply Kd.R_drew)); exact HO_7.out) hb); have n1_ := Aside0.mk (Kd.R_lower ho26 (below_size (by repeat (first | (with_reducible first | exact HB.out | apply below_alloc | apply pw_below_drewN | apply below_drew1) | exact HB.out)))); have n2_ := Aside0.mk (below_step (by repeat (first | (with_reducible first | exact HB.out | apply below_alloc | apply pw_below_drewN | apply below_drew1) | exact HB.out)) hb); clear HO_7; clear HB; have HO_7 := n0_; have HO143 := n1_; have HB := n2_; clear n0_ n1_ n2_; clear hb ho26; obtain ⟨Ao27, co27, eo27⟩ := Kd.R_slice HO143.out; subst eo27; have p144 : 0 ≤ ((ji21) : Int) := of_decide_eq_true (by first | (with_reducible assumption) | assumption); have q144 : (ji21) < (y141.length : Int) := of_decide_eq_true (by first | (with_reducible assumption) | assumption); obtain ⟨ad144, e144, hx144_0⟩ := Kd.at_string (Kd.R_reads' HO143.out).2.2 (ji21) p144 q144; cases e144; replace p144 := eq_true p144; replace q144 := eq_true q144))
                                    go_roundg k3
                                    case measure => have := HJ4.out; have := HK2.out; have := HK3.out; omega
                                    case rel => exact ⟨(x11_3 ++ (rdOf ByteArray.empty y141 (ji21))), (wrap64 (x50_3 + 1)), (by first | rfl | (simp; done) | (simp only [← hji21] <;> (first | rfl | simp)) | (simp [*]; done)), (by first | rfl | (simp; done) | (simp [*]; done)), H', ⟨by have := HJ4.out; have := HK2.out; have := HK3.out; omega⟩, ⟨by (with_reducible repeat (first | apply Kd.R_alloc | apply Kd.R_drewN | apply Kd.R_drew)); exact HO_7.out⟩, ⟨by repeat (first | (with_reducible first | exact HB.out | apply below_alloc | apply pw_below_drewN | apply below_drew1) | exact HB.out)⟩⟩
                                  · rw [if_neg c24] at H
                                    exact absurd H (by simp)
                                · rw [if_neg c23] at H
                                  exact absurd H (by simp)
                              · rw [if_neg c22] at H
                                exact absurd H (by simp)
                            · rw [if_neg c19] at H
                              exact absurd H (by simp)
                          · rw [if_neg c17] at H
                            have c17b0 : decide (x50_3 < 4) = false := decide_eq_false c17
                            clear c17
                            by_cases c28 : x7_2.length < 4398046511104
                            · rw [if_pos c28] at H
                              have LMc28 := Aside0.mk c28
                              clear c28
                              obtain ⟨y145, hy145⟩ : ∃ y_ : List (S30), y_ = (x7_2 ++ [(⟨(wrap64 (x8_2 + (wrap64 ((ji16) + 1)))), x11_3, (1 + ((rd l1 x38_2) / 128)) % 4294967296⟩ : S30)]) := ⟨_, rfl⟩
                              replace H : (laws_FnCustom.l0 k3 a0 a2 y145 (wrap64 (x8_2 + (wrap64 ((ji16) + 1)))) l1 (l1.length : Int) (wrap64 (x38_2 + 1))) = some r := by first | (rw [hy145]; with_reducible exact H) | (have H2_ := (Option.bind_some _ _).symm.trans H; rw [hy145]; with_reducible exact H2_) | (have H2_ := (Option.bind_some _ _).symm.trans H; with_reducible exact H2_) | with_reducible exact H | (rw [hy145]; exact H) | exact H
                              have Ny145 := Aside0.mk hy145
                              clear hy145
                              have H' := Aside0.mk H
                              clear H
                              go_wp2_with (first | ((with_reducible refine gate_builtin (b := .append) (xs := #[.tmp 65, .tmp 73]) rfl ?_); (try (refine gate_guard (by rfl) ?_; dsimp only)); at_builtin; refine Kd.R_append k30 (w0 := w) w.heap.size rfl (.tmp 65) (.tmp 73) 25 30 (.agg #[(.int .i64 0), (.string ⟨#[]⟩), (.int .i64 0)]) 32 rfl Tryd.underlying25 info30 rfl (by decide) (by omega) u7 x7_2 (⟨(wrap64 (x8_2 + (wrap64 ((ji16) + 1)))), x11_3, (1 + ((rd l1 x38_2) / 128)) % 4294967296⟩ : S30) [.int .i64 (wrap64 (x8_2 + (wrap64 ((ji16) + 1)))), .string x11_3, .int .i64 ((1 + ((rd l1 x38_2) / 128)) % 4294967296)] (fun _ => True) (fun _ => False) rfl rfl ?aP (fun _ hk => hk.elim) ?aF ?aO ?aB ?aS ?aL ?_; (case aP => exact k30_mkM _ _ _ (⟨(wrap64 (x8_2 + (wrap64 ((ji16) + 1)))), x11_3, (1 + ((rd l1 x38_2) / 128)) % 4294967296⟩ : S30)); (case aB => exact (by repeat (first | (with_reducible first | exact HB.out | apply below_alloc | apply pw_below_drewN | apply below_drew1) | exact HB.out))); (case aF => exact (fun _ _ => trivial)); (case aO => exact (by (with_reducible repeat (first | apply Kd.R_alloc | apply Kd.R_drewN | apply Kd.R_drew)); exact HO_7.out)); (case aS => exact (below_size (by repeat (first | (with_reducible first | exact HB.out | apply below_alloc | apply pw_below_drewN | apply below_drew1) | exact HB.out)))); (case aL => have := LMc28.out; omega); intro v146 w29 ho hb hg hat; rw [← Ny145.out] at ho; have n0_ := Aside0.mk (hb); have n1_ := Aside0.mk (ho); clear HB; clear HO_7; have HB := n0_; have HO147 := n1_; clear n0_ n1_; clear ho hb hg hat))
                              go_roundg k3
                              case measure => have := HJ4.out; have := HK2.out; have := HK3.out; omega
                              case rel => exact ⟨(y145), ((wrap64 (x8_2 + (wrap64 ((ji16) + 1))))), (wrap64 (x38_2 + 1)), (by first | rfl | (simp; done) | (simp only [← hji16] <;> (first | rfl | simp)) | (simp [*]; done)), (by first | rfl | (simp; done) | (simp [*]; done)), H', ⟨by have := HJ4.out; have := HK2.out; have := HK3.out; omega⟩, ⟨by (with_reducible repeat (first | apply Kd.R_alloc | apply Kd.R_drewN | apply Kd.R_drew)); exact HO147.out⟩, ⟨by repeat (first | (with_reducible first | exact HB.out | apply below_alloc | apply pw_below_drewN | apply below_drew1) | exact HB.out)⟩⟩
                            · rw [if_neg c28] at H
                              exact absurd H (by simp)
                    · rw [if_neg c15] at H
                      exact absurd H (by simp)
                  · rw [if_neg c13] at H
                    exact absurd H (by simp)
                · rw [if_neg c12] at H
                  exact absurd H (by simp)
              · rw [if_neg c11] at H
                have c11b0 : decide (x38_2 < (l1.length : Int)) = false := decide_eq_false c11
                clear c11
                obtain ⟨y148, hy148⟩ : ∃ y_ : List ByteArray, y_ = (([(⟨#[97, 103, 111]⟩ : ByteArray), (⟨#[102, 114, 111, 109, 32, 110, 111, 119]⟩ : ByteArray), (⟨#[108, 97, 116, 101, 114]⟩ : ByteArray)] : List ByteArray)) := ⟨_, rfl⟩
                replace H : (if 0 ≤ (Int.tmod a2 3) then (if (Int.tmod a2 3) < (y148.length : Int) then (if 0 ≤ (((a2 + 1) % 256) % 3) then (if (((a2 + 1) % 256) % 3) < (y148.length : Int) then (if a0 < 0 then (laws_FnCustom.j3 k2 a0 x7_2 (wrap64 (-a0)) (rdOf ByteArray.empty y148 (((a2 + 1) % 256) % 3)) (rdOf ByteArray.empty y148 (Int.tmod a2 3))) else (laws_FnCustom.j3 k2 a0 x7_2 a0 (rdOf ByteArray.empty y148 (Int.tmod a2 3)) (rdOf ByteArray.empty y148 (((a2 + 1) % 256) % 3)))) else (none)) else (none)) else (none)) else (none)) = some r := by first | (rw [hy148]; with_reducible exact H) | (have H2_ := (Option.bind_some _ _).symm.trans H; rw [hy148]; with_reducible exact H2_) | (have H2_ := (Option.bind_some _ _).symm.trans H; with_reducible exact H2_) | with_reducible exact H | (rw [hy148]; exact H) | exact H
                have Ny148 := Aside0.mk hy148
                clear hy148
                obtain ⟨ji30, hji30⟩ : ∃ j_ : Int, (Int.tmod a2 3) = j_ := ⟨_, rfl⟩
                replace H : (if 0 ≤ (ji30) then (if (ji30) < (y148.length : Int) then (if 0 ≤ (((a2 + 1) % 256) % 3) then (if (((a2 + 1) % 256) % 3) < (y148.length : Int) then (if a0 < 0 then (laws_FnCustom.j3 k2 a0 x7_2 (wrap64 (-a0)) (rdOf ByteArray.empty y148 (((a2 + 1) % 256) % 3)) (rdOf ByteArray.empty y148 (ji30))) else (laws_FnCustom.j3 k2 a0 x7_2 a0 (rdOf ByteArray.empty y148 (ji30)) (rdOf ByteArray.empty y148 (((a2 + 1) % 256) % 3)))) else (none)) else (none)) else (none)) else (none)) = some r := by first | (rw [hji30] at H; exact H) | (simp only [hji30] at H ⊢; exact H)
                by_cases c31 : 0 ≤ (ji30)
                · rw [if_pos c31] at H
                  have c31b0 : decide (0 ≤ (ji30)) = true := decide_eq_true c31
                  clear c31
                  by_cases c32 : (ji30) < (y148.length : Int)
                  · rw [if_pos c32] at H
                    have c32b0 : decide ((ji30) < (y148.length : Int)) = true := decide_eq_true c32
                    clear c32
                    obtain ⟨ji33, hji33⟩ : ∃ j_ : Int, (((a2 + 1) % 256) % 3) = j_ := ⟨_, rfl⟩
                    have hji33w : Int.tmod (IntKind.u8.wrap (a2 + 1)) 3 = ji33 := (show Int.tmod ((a2 + 1) % 256) 3 = _ by rw [Int.tmod_eq_emod_of_nonneg (by omega)]).trans hji33
                    replace H : (if 0 ≤ (ji33) then (if (ji33) < (y148.length : Int) then (if a0 < 0 then (laws_FnCustom.j3 k2 a0 x7_2 (wrap64 (-a0)) (rdOf ByteArray.empty y148 (ji33)) (rdOf ByteArray.empty y148 (ji30))) else (laws_FnCustom.j3 k2 a0 x7_2 a0 (rdOf ByteArray.empty y148 (ji30)) (rdOf ByteArray.empty y148 (ji33)))) else (none)) else (none)) = some r := by first | (rw [hji33] at H; exact H) | (simp only [hji33] at H ⊢; exact H)
                    by_cases c34 : 0 ≤ (ji33)
                    · rw [if_pos c34] at H
                      have c34b0 : decide (0 ≤ (ji33)) = true := decide_eq_true c34
                      clear c34
                      by_cases c35 : (ji33) < (y148.length : Int)
                      · rw [if_pos c35] at H
                        have c35b0 : decide ((ji33) < (y148.length : Int)) = true := decide_eq_true c35
                        clear c35
                        have HC36 := Aside0.mk H
                        clear H
                        try go_wp2_with (first | ((with_reducible refine gate_dst (N := 77) rfl ?_); (try (refine gate_guard (by rfl) ?_; dsimp only)); refine Kd.R_lit Kd.string _ 9 ?hg (N := 77) ?hd (xs := ([(⟨#[97, 103, 111]⟩ : ByteArray), (⟨#[102, 114, 111, 109, 32, 110, 111, 119]⟩ : ByteArray), (⟨#[108, 97, 116, 101, 114]⟩ : ByteArray)] : List ByteArray)) (inner := [.string (⟨#[97, 103, 111]⟩ : ByteArray), .string (⟨#[102, 114, 111, 109, 32, 110, 111, 119]⟩ : ByteArray), .string (⟨#[108, 97, 116, 101, 114]⟩ : ByteArray)]) (ok := fun _ => True) (okp := fun _ => True) ?hr ?hp (fun _ hk => hk) trivial (Below.refl _ _) (Nat.le_refl _) (by simp) ?_; (case hd => rfl); (case hg => rfl); (case hr => first | (go_simp; done) | (go_simp; rfl)); (case hp => exact (Reps.one (show Kd.M Kd.string _ _ _ (⟨#[97, 103, 111]⟩ : ByteArray) [.string (⟨#[97, 103, 111]⟩ : ByteArray)] from rfl) (Reps.one (show Kd.M Kd.string _ _ _ (⟨#[102, 114, 111, 109, 32, 110, 111, 119]⟩ : ByteArray) [.string (⟨#[102, 114, 111, 109, 32, 110, 111, 119]⟩ : ByteArray)] from rfl) (Reps.one (show Kd.M Kd.string _ _ _ (⟨#[108, 97, 116, 101, 114]⟩ : ByteArray) [.string (⟨#[108, 97, 116, 101, 114]⟩ : ByteArray)] from rfl) (Reps.none _ _))))); intro v149 w37 ho38 hb hg_ hnew_; clear hg_ hnew_; (first | rw [← Ny148.out] at ho38 | (simp only [Int.reduceToNat] at ho38; rw [← Ny148.out] at ho38)); have n0_ := Aside0.mk (Kd.R_below (by (with_reducible repeat (first | apply Kd.R_alloc | apply Kd.R_drewN | apply Kd.R_drew)); exact HO_7.out) hb); have n1_ := Aside0.mk (Kd.R_lower ho38 (below_size (by repeat (first | (with_reducible first | exact HB.out | apply below_alloc | apply pw_below_drewN | apply below_drew1) | exact HB.out)))); have n2_ := Aside0.mk (below_step (by repeat (first | (with_reducible first | exact HB.out | apply below_alloc | apply pw_below_drewN | apply below_drew1) | exact HB.out)) hb); clear HO_7; clear HB; have HO_7 := n0_; have HO150 := n1_; have HB := n2_; clear n0_ n1_ n2_; clear hb ho38))
                        have n0_ := Aside0.mk (Kd.R_drew HO_7.out)
                        have n1_ := Aside0.mk (Kd.R_drew HO150.out)
                        have n2_ := Aside0.mk (below_drew1 HB.out)
                        clear HO_7
                        clear HO150
                        clear HB
                        have HO_7 := n0_
                        have HO150 := n1_
                        have HB := n2_
                        clear n0_ n1_ n2_
                        obtain ⟨Ao40, co40, eo40⟩ := Kd.R_slice HO150.out
                        (first | subst eo40 | (injection eo40 with f1_ f2_ f3_; have f4_ := f1_.symm; have f5_ := f3_.symm; clear f1_ f2_ f3_; subst f4_; subst f5_))
                        have p151 : 0 ≤ ((ji30) : Int) := of_decide_eq_true (by first | (with_reducible assumption) | assumption)
                        have q151 : (ji30) < (y148.length : Int) := of_decide_eq_true (by first | (with_reducible assumption) | assumption)
                        obtain ⟨ad151, e151, hx151_0⟩ := Kd.at_string (Kd.R_reads' HO150.out).2.2 (ji30) p151 q151
                        cases e151
                        replace p151 := eq_true p151
                        replace q151 := eq_true q151
                        have p152 : 0 ≤ ((ji33) : Int) := of_decide_eq_true (by first | (with_reducible assumption) | assumption)
                        have q152 : (ji33) < (y148.length : Int) := of_decide_eq_true (by first | (with_reducible assumption) | assumption)
                        obtain ⟨ad152, e152, hx152_0⟩ := Kd.at_string (Kd.R_reads' HO150.out).2.2 (ji33) p152 q152
                        obtain rfl : ad151 = ad152 := (by injection e152)
                        replace p152 := eq_true p152
                        replace q152 := eq_true q152
                        refine start_ (n := 13) (S := fun w' => w'.cell? (ad151.add ((ji30)).toNat) = some (.string (rdOf ByteArray.empty y148 (ji30))) ∧ w'.cell? (ad151.add ((ji33)).toNat) = some (.string (rdOf ByteArray.empty y148 (ji33)))) (ds := []) #[false, false, false, false, false, false, false, false, false, false, false, false, false] (by kernel_rfl) rfl rfl ⟨hx151_0, hx152_0⟩ (fun hHeld => ?_); refine with_tabW laws_FnCustom.tab21 laws_FnCustom.bits21 (fun HT_ HW_ => ?_)
                        generalize w37.drew = w39 at HO_7 HO150 HB hx151_0 hx152_0 hHeld ⊢
                        refine pure_ (i := 0) (N := some 78) (v := ?_) (a' := ?_) #[true, false, false, false, false, false, false, false, false, false, false, false, false] rfl rfl (any_of HT_.out (by kernel_rfl)) (fun _ _ _ h => h) (Or.inl ⟨by rfl, ?_⟩) ?_ ?_
                        rotate_left
                        · intro w'
                          go_simp
                          with_reducible rfl
                        rotate_left
                        · simp only [Act.put, List.setIfInBounds_toArray, List.set_cons_zero, List.set_cons_succ, i64_w, i32_w]
                          rfl
                        refine pure_ (i := 1) (N := some 79) (v := ?_) (a' := ?_) #[true, true, false, false, false, false, false, false, false, false, false, false, false] rfl rfl (any_of HT_.out (by kernel_rfl)) (fun _ _ _ h => h) (Or.inl ⟨by rfl, ?_⟩) ?_ ?_
                        rotate_left
                        · intro w'
                          go_simp
                          with_reducible rfl
                        rotate_left
                        · simp only [Act.put, List.setIfInBounds_toArray, List.set_cons_zero, List.set_cons_succ, i64_w, i32_w]
                          rfl
                        refine pure_ (i := 2) (N := some 80) (v := ?_) (a' := ?_) #[true, true, true, false, false, false, false, false, false, false, false, false, false] rfl rfl (any_of HT_.out (by kernel_rfl)) (fun _ _ _ h => h) (Or.inl ⟨by rfl, ?_⟩) ?_ ?_
                        rotate_left
                        · intro w'
                          go_simp
                          with_reducible rfl
                        rotate_left
                        · simp only [Act.put, List.setIfInBounds_toArray, List.set_cons_zero, List.set_cons_succ, i64_w, i32_w]
                          rfl
                        refine pure_ (i := 3) (N := some 81) (v := ?_) (a' := ?_) #[true, true, true, true, false, false, false, false, false, false, false, false, false] rfl rfl (any_of HT_.out (by kernel_rfl)) (fun _ _ _ h => h) (Or.inl ⟨by rfl, ?_⟩) ?_ ?_
                        rotate_left
                        · intro w'
                          go_simp
                          with_reducible rfl
                        rotate_left
                        · simp only [Act.put, List.setIfInBounds_toArray, List.set_cons_zero, List.set_cons_succ, i64_w, i32_w]
                          rfl
                        refine pure_ (i := 5) (N := some 83) (v := ?_) (a' := ?_) #[true, true, true, true, false, true, false, false, false, false, false, false, false] rfl rfl (any_of HT_.out (by kernel_rfl)) (fun _ _ _ h => h) (Or.inl ⟨by rfl, ?_⟩) ?_ ?_
                        rotate_left
                        · intro w'
                          go_simp
                          with_reducible rfl
                        rotate_left
                        · simp only [Act.put, List.setIfInBounds_toArray, List.set_cons_zero, List.set_cons_succ, i64_w, i32_w]
                          rfl
                        refine pure_ (i := 6) (N := some 84) (v := ?_) (a' := ?_) #[true, true, true, true, false, true, true, false, false, false, false, false, false] rfl rfl (any_of HT_.out (by kernel_rfl)) (fun _ _ _ h => h) (Or.inl ⟨by rfl, ?_⟩) ?_ ?_
                        rotate_left
                        · intro w'
                          go_simp
                          with_reducible rfl
                        rotate_left
                        · simp only [Act.put, List.setIfInBounds_toArray, List.set_cons_zero, List.set_cons_succ, i64_w, i32_w]
                          rfl
                        refine pure_ (i := 7) (N := some 85) (v := ?_) (a' := ?_) #[true, true, true, true, false, true, true, true, false, false, false, false, false] rfl rfl (any_of HT_.out (by kernel_rfl)) (fun _ _ _ h => h) (Or.inl ⟨by rfl, ?_⟩) ?_ ?_
                        rotate_left
                        · intro w'
                          go_simp
                          with_reducible rfl
                        rotate_left
                        · simp only [Act.put, List.setIfInBounds_toArray, List.set_cons_zero, List.set_cons_succ, i64_w, i32_w]
                          rfl
                        refine pure_ (i := 8) (N := some 86) (v := ?_) (a' := ?_) #[true, true, true, true, false, true, true, true, true, false, false, false, false] rfl rfl (any_of HT_.out (by kernel_rfl)) (fun _ _ _ h => h) (Or.inl ⟨by rfl, ?_⟩) ?_ ?_
                        rotate_left
                        · intro w'
                          go_simp
                          with_reducible rfl
                        rotate_left
                        · simp only [Act.put, List.setIfInBounds_toArray, List.set_cons_zero, List.set_cons_succ, i64_w, i32_w]
                          rfl
                        refine pure_ (i := 9) (N := some 87) (v := ?_) (a' := ?_) #[true, true, true, true, false, true, true, true, true, true, false, false, false] rfl rfl (any_of HT_.out (by kernel_rfl)) (fun _ _ _ h => h) (Or.inl ⟨by rfl, ?_⟩) ?_ ?_
                        rotate_left
                        · intro w'
                          go_simp
                          with_reducible rfl
                        rotate_left
                        · simp only [Act.put, List.setIfInBounds_toArray, List.set_cons_zero, List.set_cons_succ, i64_w, i32_w]
                          rfl
                        refine take_ (i := 4) (N := some 82) (v := ?_) (a' := ?_) #[true, true, true, true, true, true, true, true, true, true, false, false, false] rfl rfl (take_ofW HT_.out HW_.out (by kernel_rfl)) (fun _ _ _ h => h) (Or.inl ⟨by rfl, ?_⟩) hHeld ?_ ?_
                        rotate_left
                        · rintro w' ⟨s0, s1⟩
                          go_simp
                          with_reducible rfl
                        rotate_left
                        · simp only [Act.put, List.setIfInBounds_toArray, List.set_cons_zero, List.set_cons_succ, i64_w, i32_w]
                          rfl
                        refine pure_ (i := 11) (N := some 15) (v := ?_) (a' := ?_) #[true, true, true, true, true, true, true, true, true, true, false, true, false] rfl rfl (any_of HT_.out (by kernel_rfl)) (fun _ _ _ h => h) (Or.inl ⟨by rfl, ?_⟩) ?_ ?_
                        rotate_left
                        · intro w'
                          go_simp
                          with_reducible rfl
                        rotate_left
                        · simp only [Act.put, List.setIfInBounds_toArray, List.set_cons_zero, List.set_cons_succ, i64_w, i32_w]
                          rfl
                        refine take_ (i := 10) (N := some 88) (v := ?_) (a' := ?_) #[true, true, true, true, true, true, true, true, true, true, true, true, false] rfl rfl (take_ofW HT_.out HW_.out (by kernel_rfl)) (fun _ _ _ h => h) (Or.inl ⟨by rfl, ?_⟩) hHeld ?_ ?_
                        rotate_left
                        · rintro w' ⟨s0, s1⟩
                          go_simp
                          with_reducible rfl
                        rotate_left
                        · simp only [Act.put, List.setIfInBounds_toArray, List.set_cons_zero, List.set_cons_succ, i64_w, i32_w]
                          rfl
                        refine pure_ (i := 12) (N := some 16) (v := ?_) (a' := ?_) #[true, true, true, true, true, true, true, true, true, true, true, true, true] rfl rfl (any_of HT_.out (by kernel_rfl)) (fun _ _ _ h => h) (Or.inl ⟨by rfl, ?_⟩) ?_ ?_
                        rotate_left
                        · intro w'
                          go_simp
                          with_reducible rfl
                        rotate_left
                        · simp only [Act.put, List.setIfInBounds_toArray, List.set_cons_zero, List.set_cons_succ, i64_w, i32_w]
                          rfl
                        refine done_ (done_of HT_.out (by kernel_rfl)) ?_
                        go_upto_if 90 with (fail)
                        go_cut [13, 15, 16] (fun v13 v15 v16 wc => ∃ (kq : Nat) (x13_35 : Int) (x15_35 : ByteArray) (x16_35 : ByteArray), v13 = .int .i64 x13_35 ∧ v15 = .string x15_35 ∧ v16 = .string x16_35 ∧ Aside0 (laws_FnCustom.j3 kq a0 x7_2 x13_35 x15_35 x16_35 = some r) ∧ Aside0 (kq ≤ k2) ∧ Aside0 (Kd.R k30 30 wc w.heap.size (fun _ => True) u7 x7_2) ∧ Aside0 (Below w.heap.size w wc))
                        case first =>
                          have H := HC36.out
                          clear HC36
                          by_cases c41 : a0 < 0
                          · rw [if_pos c41] at H
                            have c41b0 : decide (a0 < 0) = true := decide_eq_true c41
                            clear c41
                            (first | rw [c41b0] | (simp only [i64_w, i32_w]; rw [c41b0]) | rw [c41b2] | skip)
                            have H' := Aside0.mk H
                            clear H
                            go_wp2
                            go_meet
                            case rel => exact ⟨_, (wrap64 (-a0)), (rdOf ByteArray.empty y148 (ji33)), (rdOf ByteArray.empty y148 (ji30)), (by first | rfl | (simp; done) | (simp [*]; done)), (by first | rfl | (simp; done) | (simp only [← hji33] <;> (first | rfl | simp)) | (simp [*]; done)), (by first | rfl | (simp; done) | (simp only [← hji30] <;> (first | rfl | simp)) | (simp [*]; done)), H', ⟨by have := HJ4.out; have := HK2.out; first | omega | exact Nat.le_refl _⟩, ⟨by (with_reducible repeat (first | apply Kd.R_alloc | apply Kd.R_drewN | apply Kd.R_drew)); exact HO_7.out⟩, ⟨by repeat (first | (with_reducible first | exact HB.out | apply below_alloc | apply pw_below_drewN | apply below_drew1) | exact HB.out)⟩⟩
                          · rw [if_neg c41] at H
                            have c41b0 : decide (a0 < 0) = false := decide_eq_false c41
                            clear c41
                            (first | rw [c41b0] | (simp only [i64_w, i32_w]; rw [c41b0]) | rw [c41b2] | skip)
                            have H' := Aside0.mk H
                            clear H
                            go_wp2
                            go_meet
                            case rel => exact ⟨_, (a0), (rdOf ByteArray.empty y148 (ji30)), (rdOf ByteArray.empty y148 (ji33)), (by first | rfl | (simp; done) | (simp [*]; done)), (by first | rfl | (simp; done) | (simp only [← hji30] <;> (first | rfl | simp)) | (simp [*]; done)), (by first | rfl | (simp; done) | (simp only [← hji33] <;> (first | rfl | simp)) | (simp [*]; done)), H', ⟨by have := HJ4.out; have := HK2.out; first | omega | exact Nat.le_refl _⟩, ⟨by (with_reducible repeat (first | apply Kd.R_alloc | apply Kd.R_drewN | apply Kd.R_drew)); exact HO_7.out⟩, ⟨by repeat (first | (with_reducible first | exact HB.out | apply below_alloc | apply pw_below_drewN | apply below_drew1) | exact HB.out)⟩⟩
                        case rest =>
                          clear HC36
                          try clear c1
                          try clear p1
                          try clear q1
                          try clear hx1
                          try clear c2
                          try clear p2
                          try clear c3
                          try clear c4
                          try clear c4b0
                          try clear c4b1
                          try clear c6
                          try clear c6b0
                          try clear c6b1
                          try clear c6b2
                          try clear p6
                          try clear c7
                          try clear c7b0
                          try clear c7b1
                          try clear c7b2
                          try clear c8
                          try clear c11
                          try clear c11b0
                          try clear c12
                          try clear c12b0
                          try clear c13
                          try clear c13b0
                          try clear p14
                          try clear q14
                          try clear hx14
                          try clear c15
                          try clear c15b0
                          try clear c15b1
                          try clear p15
                          try clear q15
                          try clear hx15
                          try clear c17
                          try clear c17b0
                          try clear c19
                          try clear c19b0
                          try clear c19b1
                          try clear c22
                          try clear c22b0
                          try clear c23
                          try clear c23b0
                          try clear c24
                          try clear c24b0
                          try clear c24b1
                          try clear c24b2
                          try clear c28
                          try clear c31
                          try clear c31b0
                          try clear c32
                          try clear c32b0
                          try clear c34
                          try clear c34b0
                          try clear c35
                          try clear c35b0
                          try clear c41
                          try clear c41b0
                          try clear c41b2
                          try clear hx140_0
                          try clear hx144_0
                          try clear hx151_0
                          try clear hx152_0
                          try clear p1
                          try clear p14
                          try clear p140
                          try clear p144
                          try clear p151
                          try clear p152
                          try clear p2
                          try clear p6
                          try clear q1
                          try clear q14
                          try clear q140
                          try clear q144
                          try clear q151
                          try clear q152
                          obtain ⟨kq, x13_35, x15_35, x16_35, rfl, rfl, rfl, HA, HJ35, HO_7, HB⟩ := hcut
                          cases kq with
                          | zero => exact absurd HA.out (by simp [laws_FnCustom.j3])
                          | succ kj35 =>
                            have H := HA.out
                            clear HA
                            simp only [laws_FnCustom.j3] at H
                            have HC42 := Aside0.mk H
                            clear H
                            go_upto_block 4 with (fail)
                            go_cut [17] (fun v17 wc => ∃ (kq : Nat) (x17_41 : Int), v17 = .int .i64 x17_41 ∧ Aside0 (laws_FnCustom.j5 kq a0 x7_2 x13_35 x15_35 x16_35 x17_41 = some r) ∧ Aside0 (kq ≤ kj35) ∧ Aside0 (Kd.R k30 30 wc w.heap.size (fun _ => True) u7 x7_2) ∧ Aside0 (Below w.heap.size w wc))
                            case first =>
                              have H := HC42.out
                              clear HC42
                              have H' := Aside0.mk H
                              clear H
                              go_wp2
                              go_loopg [17] kj35 (fun kq v17 w' => ∃ (x17_4 : Int), v17 = .int .i64 x17_4 ∧ Aside0 (laws_FnCustom.l2 kq a0 x7_2 x13_35 x15_35 x16_35 x17_4 = some r) ∧ Aside0 (kq ≤ kj35) ∧ Aside0 (Kd.R k30 30 w' w.heap.size (fun _ => True) u7 x7_2) ∧ Aside0 (Below w.heap.size w w'))
                              case atStart => exact ⟨(0), (by first | rfl | (simp; done) | (simp [*]; done)), H', ⟨Nat.le_refl _⟩, ⟨by (with_reducible repeat (first | apply Kd.R_alloc | apply Kd.R_drewN | apply Kd.R_drew)); exact HO_7.out⟩, ⟨by repeat (first | (with_reducible first | exact HB.out | apply below_alloc | apply pw_below_drewN | apply below_drew1) | exact HB.out)⟩⟩
                              case round =>
                                clear H'
                                try clear c1
                                try clear p1
                                try clear q1
                                try clear hx1
                                try clear c2
                                try clear p2
                                try clear c3
                                try clear c4
                                try clear c4b0
                                try clear c4b1
                                try clear c6
                                try clear c6b0
                                try clear c6b1
                                try clear c6b2
                                try clear p6
                                try clear c7
                                try clear c7b0
                                try clear c7b1
                                try clear c7b2
                                try clear c8
                                try clear c11
                                try clear c11b0
                                try clear c12
                                try clear c12b0
                                try clear c13
                                try clear c13b0
                                try clear p14
                                try clear q14
                                try clear hx14
                                try clear c15
                                try clear c15b0
                                try clear c15b1
                                try clear p15
                                try clear q15
                                try clear hx15
                                try clear c17
                                try clear c17b0
                                try clear c19
                                try clear c19b0
                                try clear c19b1
                                try clear c22
                                try clear c22b0
                                try clear c23
                                try clear c23b0
                                try clear c24
                                try clear c24b0
                                try clear c24b1
                                try clear c24b2
                                try clear c28
                                try clear c31
                                try clear c31b0
                                try clear c32
                                try clear c32b0
                                try clear c34
                                try clear c34b0
                                try clear c35
                                try clear c35b0
                                try clear c41
                                try clear c41b0
                                try clear c41b2
                                try clear hx140_0
                                try clear hx144_0
                                try clear hx151_0
                                try clear hx152_0
                                try clear p1
                                try clear p14
                                try clear p140
                                try clear p144
                                try clear p15
                                try clear p151
                                try clear p152
                                try clear p2
                                try clear p6
                                try clear q1
                                try clear q14
                                try clear q140
                                try clear q144
                                try clear q15
                                try clear q151
                                try clear q152
                                obtain ⟨x17_4, rfl, HA, HK4, HO_7, HB⟩ := hrel
                                cases gk with
                                | zero => exact absurd HA.out (by simp [laws_FnCustom.l2])
                                | succ k4 =>
                                  have H := HA.out
                                  clear HA
                                  simp only [laws_FnCustom.l2] at H
                                  by_cases c43 : x17_4 < (wrap64 ((x7_2.length : Int) - 1))
                                  · rw [if_pos c43] at H
                                    have c43b0 : decide (x17_4 < (wrap64 ((x7_2.length : Int) - 1))) = true := decide_eq_true c43
                                    clear c43
                                    (first | rw [c43b0] | (simp only [i64_w, i32_w]; rw [c43b0]) | rw [c43b2] | skip)
                                    by_cases c44 : 0 ≤ x17_4
                                    · rw [if_pos c44] at H
                                      have c44b0 : decide (0 ≤ x17_4) = true := decide_eq_true c44
                                      clear c44
                                      by_cases c45 : x17_4 < (x7_2.length : Int)
                                      · rw [if_pos c45] at H
                                        have c45b0 : decide (x17_4 < (x7_2.length : Int)) = true := decide_eq_true c45
                                        clear c45
                                        by_cases c46 : ((rd_T30 x7_2 x17_4).f0) ≤ x13_35
                                        · rw [if_pos c46] at H
                                          have c46b0 : decide (((rd_T30 x7_2 x17_4).f0) ≤ x13_35) = true := decide_eq_true c46
                                          clear c46
                                          have H' := Aside0.mk H
                                          clear H
                                          obtain ⟨Ao47, co47, eo47⟩ := Kd.R_slice HO_7.out
                                          subst eo47
                                          have p153 : 0 ≤ (x17_4 : Int) := of_decide_eq_true (by first | (with_reducible assumption) | assumption)
                                          have q153 : x17_4 < (x7_2.length : Int) := of_decide_eq_true (by first | (with_reducible assumption) | assumption)
                                          obtain ⟨ad153, e153, hx153_0, hx153_1, hx153_2⟩ := at_T30 (Kd.R_reads' HO_7.out).2.2 x17_4 p153 q153
                                          cases e153
                                          replace p153 := eq_true p153
                                          replace q153 := eq_true q153
                                          go_wp2
                                          go_roundg k4
                                          case measure => have := HJ4.out; have := HK2.out; have := HJ35.out; have := HK4.out; omega
                                          case rel => exact ⟨(wrap64 (x17_4 + 1)), (by first | rfl | (simp; done) | (simp [*]; done)), H', ⟨by have := HJ4.out; have := HK2.out; have := HJ35.out; have := HK4.out; omega⟩, ⟨by (with_reducible repeat (first | apply Kd.R_alloc | apply Kd.R_drewN | apply Kd.R_drew)); exact HO_7.out⟩, ⟨by repeat (first | (with_reducible first | exact HB.out | apply below_alloc | apply pw_below_drewN | apply below_drew1) | exact HB.out)⟩⟩
                                        · rw [if_neg c46] at H
                                          have c46b0 : decide (((rd_T30 x7_2 x17_4).f0) ≤ x13_35) = false := decide_eq_false c46
                                          clear c46
                                          have H' := Aside0.mk H
                                          clear H
                                          obtain ⟨Ao48, co48, eo48⟩ := Kd.R_slice HO_7.out
                                          subst eo48
                                          have p153 : 0 ≤ (x17_4 : Int) := of_decide_eq_true (by first | (with_reducible assumption) | assumption)
                                          have q153 : x17_4 < (x7_2.length : Int) := of_decide_eq_true (by first | (with_reducible assumption) | assumption)
                                          obtain ⟨ad153, e153, hx153_0, hx153_1, hx153_2⟩ := at_T30 (Kd.R_reads' HO_7.out).2.2 x17_4 p153 q153
                                          cases e153
                                          replace p153 := eq_true p153
                                          replace q153 := eq_true q153
                                          go_wp2
                                          go_meet
                                          case rel => exact ⟨_, (x17_4), (by first | rfl | (simp; done) | (simp [*]; done)), H', ⟨by have := HJ4.out; have := HK2.out; have := HJ35.out; have := HK4.out; first | omega | exact Nat.le_refl _⟩, ⟨by (with_reducible repeat (first | apply Kd.R_alloc | apply Kd.R_drewN | apply Kd.R_drew)); exact HO_7.out⟩, ⟨by repeat (first | (with_reducible first | exact HB.out | apply below_alloc | apply pw_below_drewN | apply below_drew1) | exact HB.out)⟩⟩
                                      · rw [if_neg c45] at H
                                        exact absurd H (by simp)
                                    · rw [if_neg c44] at H
                                      exact absurd H (by simp)
                                  · rw [if_neg c43] at H
                                    have c43b0 : decide (x17_4 < (wrap64 ((x7_2.length : Int) - 1))) = false := decide_eq_false c43
                                    clear c43
                                    (first | rw [c43b0] | (simp only [i64_w, i32_w]; rw [c43b0]) | rw [c43b2] | skip)
                                    have H' := Aside0.mk H
                                    clear H
                                    obtain ⟨Ao49, co49, eo49⟩ := Kd.R_slice HO_7.out
                                    subst eo49
                                    go_wp2
                                    go_meet
                                    case rel => exact ⟨_, (x17_4), (by first | rfl | (simp; done) | (simp [*]; done)), H', ⟨by have := HJ4.out; have := HK2.out; have := HJ35.out; have := HK4.out; first | omega | exact Nat.le_refl _⟩, ⟨by (with_reducible repeat (first | apply Kd.R_alloc | apply Kd.R_drewN | apply Kd.R_drew)); exact HO_7.out⟩, ⟨by repeat (first | (with_reducible first | exact HB.out | apply below_alloc | apply pw_below_drewN | apply below_drew1) | exact HB.out)⟩⟩
                            case rest =>
                              clear HC42
                              try clear c1
                              try clear p1
                              try clear q1
                              try clear hx1
                              try clear c2
                              try clear p2
                              try clear c3
                              try clear c4
                              try clear c4b0
                              try clear c4b1
                              try clear c6
                              try clear c6b0
                              try clear c6b1
                              try clear c6b2
                              try clear p6
                              try clear c7
                              try clear c7b0
                              try clear c7b1
                              try clear c7b2
                              try clear c8
                              try clear c11
                              try clear c11b0
                              try clear c12
                              try clear c12b0
                              try clear c13
                              try clear c13b0
                              try clear p14
                              try clear q14
                              try clear hx14
                              try clear c15
                              try clear c15b0
                              try clear c15b1
                              try clear p15
                              try clear q15
                              try clear hx15
                              try clear c17
                              try clear c17b0
                              try clear c19
                              try clear c19b0
                              try clear c19b1
                              try clear c22
                              try clear c22b0
                              try clear c23
                              try clear c23b0
                              try clear c24
                              try clear c24b0
                              try clear c24b1
                              try clear c24b2
                              try clear c28
                              try clear c31
                              try clear c31b0
                              try clear c32
                              try clear c32b0
                              try clear c34
                              try clear c34b0
                              try clear c35
                              try clear c35b0
                              try clear c41
                              try clear c41b0
                              try clear c41b2
                              try clear c43
                              try clear c43b0
                              try clear c43b2
                              try clear c44
                              try clear c44b0
                              try clear c45
                              try clear c45b0
                              try clear c46
                              try clear c46b0
                              try clear hx140_0
                              try clear hx144_0
                              try clear hx151_0
                              try clear hx152_0
                              try clear hx153_0
                              try clear hx153_1
                              try clear hx153_2
                              try clear p1
                              try clear p14
                              try clear p140
                              try clear p144
                              try clear p15
                              try clear p151
                              try clear p152
                              try clear p153
                              try clear p2
                              try clear p6
                              try clear q1
                              try clear q14
                              try clear q140
                              try clear q144
                              try clear q15
                              try clear q151
                              try clear q152
                              try clear q153
                              obtain ⟨kq, x17_41, rfl, HA, HJ41, HO_7, HB⟩ := hcut
                              cases kq with
                              | zero => exact absurd HA.out (by simp [laws_FnCustom.j5])
                              | succ kj41 =>
                                have H := HA.out
                                clear HA
                                simp only [laws_FnCustom.j5] at H
                                by_cases c50 : a0 < 0
                                · rw [if_pos c50] at H
                                  have c50b0 : decide (a0 < 0) = true := decide_eq_true c50
                                  clear c50
                                  replace H := Option.bind_eq_some_iff.mp H
                                  obtain ⟨t154, A510, H⟩ := H
                                  replace H : (if 0 ≤ x17_41 then (if x17_41 < (x7_2.length : Int) then (if ((rd_T30 x7_2 x17_41).f2) = 0 then (none) else ((spec_Filled.f kj41 ((rd_T30 x7_2 x17_41).f1) (wrap64 (Int.tdiv x13_35 ((rd_T30 x7_2 x17_41).f2))) x15_35).bind fun t157 => (some (t154.toList == t157.toList)))) else (none)) else (none)) = some r := H
                                  have A51 := Aside0.mk A510
                                  clear A510
                                  by_cases c52 : 0 ≤ x17_41
                                  · rw [if_pos c52] at H
                                    have c52b0 : decide (0 ≤ x17_41) = true := decide_eq_true c52
                                    clear c52
                                    by_cases c53 : x17_41 < (x7_2.length : Int)
                                    · rw [if_pos c53] at H
                                      have c53b0 : decide (x17_41 < (x7_2.length : Int)) = true := decide_eq_true c53
                                      clear c53
                                      by_cases c54 : ((rd_T30 x7_2 x17_41).f2) = 0
                                      · rw [if_pos c54] at H
                                        exact absurd H (by simp)
                                      · rw [if_neg c54] at H
                                        have c54b0 : (((rd_T30 x7_2 x17_41).f2) == 0) = false := beq_eq_false_iff_ne.mpr c54
                                        have c54b1 : (((rd_T30 x7_2 x17_41).f2) != 0) = true := bne_iff_ne.mpr c54
                                        replace H := Option.bind_eq_some_iff.mp H
                                        obtain ⟨t157, A550, H⟩ := H
                                        replace H : (some (t154.toList == t157.toList)) = some r := H
                                        have A55 := Aside0.mk A550
                                        clear A550
                                        obtain rfl := Option.some.inj H
                                        try go_wp2
                                        have n0_ := Aside0.mk (Kd.R_drew HO_7.out)
                                        have n1_ := Aside0.mk (below_drew1 HB.out)
                                        clear HO_7
                                        clear HB
                                        have HO_7 := n0_
                                        have HB := n1_
                                        clear n0_ n1_
                                        obtain ⟨Ao57, co57, eo57⟩ := Kd.R_slice HO_7.out
                                        (first | subst eo57 | (injection eo57 with f1_ f2_ f3_; have f4_ := f1_.symm; have f5_ := f3_.symm; clear f1_ f2_ f3_; subst f4_; subst f5_))
                                        have p155 : 0 ≤ (x17_41 : Int) := of_decide_eq_true (by first | (with_reducible assumption) | assumption)
                                        have q155 : x17_41 < (x7_2.length : Int) := of_decide_eq_true (by first | (with_reducible assumption) | assumption)
                                        obtain ⟨ad155, e155, hx155_0, hx155_1, hx155_2⟩ := at_T30 (Kd.R_reads' HO_7.out).2.2 x17_41 p155 q155
                                        cases e155
                                        replace p155 := eq_true p155
                                        replace q155 := eq_true q155
                                        have p156 : 0 ≤ (x17_41 : Int) := of_decide_eq_true (by first | (with_reducible assumption) | assumption)
                                        have q156 : x17_41 < (x7_2.length : Int) := of_decide_eq_true (by first | (with_reducible assumption) | assumption)
                                        obtain ⟨ad156, e156, hx156_0, hx156_1, hx156_2⟩ := at_T30 (Kd.R_reads' HO_7.out).2.2 x17_41 p156 q156
                                        obtain rfl : ad155 = ad156 := (by injection e156)
                                        replace p156 := eq_true p156
                                        replace q156 := eq_true q156
                                        refine start_ (n := 21) (S := fun w' => w'.cell? (ad155.add ((x17_41).toNat * 3)) = some (.int .i64 ((rd_T30 x7_2 x17_41).f0)) ∧ w'.cell? ⟨(ad155.add ((x17_41).toNat * 3)).block, (ad155.add ((x17_41).toNat * 3)).off + 1, none⟩ = some (.string ((rd_T30 x7_2 x17_41).f1)) ∧ w'.cell? ⟨(ad155.add ((x17_41).toNat * 3)).block, (ad155.add ((x17_41).toNat * 3)).off + 2, none⟩ = some (.int .i64 ((rd_T30 x7_2 x17_41).f2)) ∧ w'.cell? (ad155.add ((x17_41).toNat * 3)) = some (.int .i64 ((rd_T30 x7_2 x17_41).f0)) ∧ w'.cell? ⟨(ad155.add ((x17_41).toNat * 3)).block, (ad155.add ((x17_41).toNat * 3)).off + 1, none⟩ = some (.string ((rd_T30 x7_2 x17_41).f1)) ∧ w'.cell? ⟨(ad155.add ((x17_41).toNat * 3)).block, (ad155.add ((x17_41).toNat * 3)).off + 2, none⟩ = some (.int .i64 ((rd_T30 x7_2 x17_41).f2))) (ds := []) #[false, false, false, false, false, false, false, false, false, false, false, false, false, false, false, false, false, false, false, false, false] (by kernel_rfl) rfl rfl ⟨hx155_0, hx155_1, hx155_2, hx156_0, hx156_1, hx156_2⟩ (fun hHeld => ?_); refine with_tabW laws_FnCustom.tab30 laws_FnCustom.bits30 (fun HT_ HW_ => ?_)
                                        generalize wc.drew = w56 at HO_7 HB hx155_0 hx155_1 hx155_2 hx156_0 hx156_1 hx156_2 hHeld ⊢
                                        refine pure_ (i := 0) (N := some 117) (v := ?_) (a' := ?_) #[true, false, false, false, false, false, false, false, false, false, false, false, false, false, false, false, false, false, false, false, false] rfl rfl (any_of HT_.out (by kernel_rfl)) (fun _ _ _ h => h) (Or.inl ⟨by rfl, ?_⟩) ?_ ?_
                                        rotate_left
                                        · intro w'
                                          go_simp
                                          with_reducible rfl
                                        rotate_left
                                        · simp only [Act.put, List.setIfInBounds_toArray, List.set_cons_zero, List.set_cons_succ, i64_w, i32_w]
                                          rfl
                                        refine pure_ (i := 1) (N := some 118) (v := ?_) (a' := ?_) #[true, true, false, false, false, false, false, false, false, false, false, false, false, false, false, false, false, false, false, false, false] rfl rfl (any_of HT_.out (by kernel_rfl)) (fun _ _ _ h => h) (Or.inl ⟨by rfl, ?_⟩) ?_ ?_
                                        rotate_left
                                        · intro w'
                                          go_simp
                                          with_reducible rfl
                                        rotate_left
                                        · simp only [Act.put, List.setIfInBounds_toArray, List.set_cons_zero, List.set_cons_succ, i64_w, i32_w]
                                          rfl
                                        refine pure_ (i := 2) (N := some 119) (v := ?_) (a' := ?_) #[true, true, true, false, false, false, false, false, false, false, false, false, false, false, false, false, false, false, false, false, false] rfl rfl (any_of HT_.out (by kernel_rfl)) (fun _ _ _ h => h) (Or.inl ⟨by rfl, ?_⟩) ?_ ?_
                                        rotate_left
                                        · intro w'
                                          go_simp
                                          with_reducible rfl
                                        rotate_left
                                        · simp only [Act.put, List.setIfInBounds_toArray, List.set_cons_zero, List.set_cons_succ, i64_w, i32_w]
                                          rfl
                                        refine pure_ (i := 3) (N := some 120) (v := ?_) (a' := ?_) #[true, true, true, true, false, false, false, false, false, false, false, false, false, false, false, false, false, false, false, false, false] rfl rfl (any_of HT_.out (by kernel_rfl)) (fun _ _ _ h => h) (Or.inl ⟨by rfl, ?_⟩) ?_ ?_
                                        rotate_left
                                        · intro w'
                                          go_simp
                                          with_reducible rfl
                                        rotate_left
                                        · simp only [Act.put, List.setIfInBounds_toArray, List.set_cons_zero, List.set_cons_succ, i64_w, i32_w]
                                          rfl
                                        refine pure_ (i := 5) (N := some 122) (v := ?_) (a' := ?_) #[true, true, true, true, false, true, false, false, false, false, false, false, false, false, false, false, false, false, false, false, false] rfl rfl (any_of HT_.out (by kernel_rfl)) (fun _ _ _ h => h) (Or.inl ⟨by rfl, ?_⟩) ?_ ?_
                                        rotate_left
                                        · intro w'
                                          go_simp
                                          with_reducible rfl
                                        rotate_left
                                        · simp only [Act.put, List.setIfInBounds_toArray, List.set_cons_zero, List.set_cons_succ, i64_w, i32_w]
                                          rfl
                                        refine pure_ (i := 6) (N := some 123) (v := ?_) (a' := ?_) #[true, true, true, true, false, true, true, false, false, false, false, false, false, false, false, false, false, false, false, false, false] rfl rfl (any_of HT_.out (by kernel_rfl)) (fun _ _ _ h => h) (Or.inl ⟨by rfl, ?_⟩) ?_ ?_
                                        rotate_left
                                        · intro w'
                                          go_simp
                                          with_reducible rfl
                                        rotate_left
                                        · simp only [Act.put, List.setIfInBounds_toArray, List.set_cons_zero, List.set_cons_succ, i64_w, i32_w]
                                          rfl
                                        refine pure_ (i := 7) (N := some 124) (v := ?_) (a' := ?_) #[true, true, true, true, false, true, true, true, false, false, false, false, false, false, false, false, false, false, false, false, false] rfl rfl (any_of HT_.out (by kernel_rfl)) (fun _ _ _ h => h) (Or.inl ⟨by rfl, ?_⟩) ?_ ?_
                                        rotate_left
                                        · intro w'
                                          go_simp
                                          with_reducible rfl
                                        rotate_left
                                        · simp only [Act.put, List.setIfInBounds_toArray, List.set_cons_zero, List.set_cons_succ, i64_w, i32_w]
                                          rfl
                                        refine pure_ (i := 8) (N := some 125) (v := ?_) (a' := ?_) #[true, true, true, true, false, true, true, true, true, false, false, false, false, false, false, false, false, false, false, false, false] rfl rfl (any_of HT_.out (by kernel_rfl)) (fun _ _ _ h => h) (Or.inl ⟨by rfl, ?_⟩) ?_ ?_
                                        rotate_left
                                        · intro w'
                                          go_simp
                                          with_reducible rfl
                                        rotate_left
                                        · simp only [Act.put, List.setIfInBounds_toArray, List.set_cons_zero, List.set_cons_succ, i64_w, i32_w]
                                          rfl
                                        refine pure_ (i := 10) (N := some 127) (v := ?_) (a' := ?_) #[true, true, true, true, false, true, true, true, true, false, true, false, false, false, false, false, false, false, false, false, false] rfl rfl (any_of HT_.out (by kernel_rfl)) (fun _ _ _ h => h) (Or.inl ⟨by rfl, ?_⟩) ?_ ?_
                                        rotate_left
                                        · intro w'
                                          go_simp
                                          with_reducible rfl
                                        rotate_left
                                        · simp only [Act.put, List.setIfInBounds_toArray, List.set_cons_zero, List.set_cons_succ, i64_w, i32_w]
                                          rfl
                                        refine pure_ (i := 11) (N := some 128) (v := ?_) (a' := ?_) #[true, true, true, true, false, true, true, true, true, false, true, true, false, false, false, false, false, false, false, false, false] rfl rfl (any_of HT_.out (by kernel_rfl)) (fun _ _ _ h => h) (Or.inl ⟨by rfl, ?_⟩) ?_ ?_
                                        rotate_left
                                        · intro w'
                                          go_simp
                                          with_reducible rfl
                                        rotate_left
                                        · simp only [Act.put, List.setIfInBounds_toArray, List.set_cons_zero, List.set_cons_succ, i64_w, i32_w]
                                          rfl
                                        refine pure_ (i := 12) (N := some 129) (v := ?_) (a' := ?_) #[true, true, true, true, false, true, true, true, true, false, true, true, true, false, false, false, false, false, false, false, false] rfl rfl (any_of HT_.out (by kernel_rfl)) (fun _ _ _ h => h) (Or.inl ⟨by rfl, ?_⟩) ?_ ?_
                                        rotate_left
                                        · intro w'
                                          go_simp
                                          with_reducible rfl
                                        rotate_left
                                        · simp only [Act.put, List.setIfInBounds_toArray, List.set_cons_zero, List.set_cons_succ, i64_w, i32_w]
                                          rfl
                                        refine pure_ (i := 13) (N := some 130) (v := ?_) (a' := ?_) #[true, true, true, true, false, true, true, true, true, false, true, true, true, true, false, false, false, false, false, false, false] rfl rfl (any_of HT_.out (by kernel_rfl)) (fun _ _ _ h => h) (Or.inl ⟨by rfl, ?_⟩) ?_ ?_
                                        rotate_left
                                        · intro w'
                                          go_simp
                                          with_reducible rfl
                                        rotate_left
                                        · simp only [Act.put, List.setIfInBounds_toArray, List.set_cons_zero, List.set_cons_succ, i64_w, i32_w]
                                          rfl
                                        refine pure_ (i := 14) (N := some 131) (v := ?_) (a' := ?_) #[true, true, true, true, false, true, true, true, true, false, true, true, true, true, true, false, false, false, false, false, false] rfl rfl (any_of HT_.out (by kernel_rfl)) (fun _ _ _ h => h) (Or.inl ⟨by rfl, ?_⟩) ?_ ?_
                                        rotate_left
                                        · intro w'
                                          go_simp
                                          with_reducible rfl
                                        rotate_left
                                        · simp only [Act.put, List.setIfInBounds_toArray, List.set_cons_zero, List.set_cons_succ, i64_w, i32_w]
                                          rfl
                                        refine pure_ (i := 17) (N := some 134) (v := ?_) (a' := ?_) #[true, true, true, true, false, true, true, true, true, false, true, true, true, true, true, false, false, true, false, false, false] rfl rfl (any_of HT_.out (by kernel_rfl)) (fun _ _ _ h => h) (Or.inl ⟨by rfl, ?_⟩) ?_ ?_
                                        rotate_left
                                        · intro w'
                                          go_simp
                                          with_reducible rfl
                                        rotate_left
                                        · simp only [Act.put, List.setIfInBounds_toArray, List.set_cons_zero, List.set_cons_succ, i64_w, i32_w]
                                          rfl
                                        refine take_ (i := 9) (N := some 126) (v := ?_) (a' := ?_) #[true, true, true, true, false, true, true, true, true, true, true, true, true, true, true, false, false, true, false, false, false] rfl rfl (take_ofW HT_.out HW_.out (by kernel_rfl)) (fun _ _ _ h => h) (Or.inl ⟨by rfl, ?_⟩) hHeld ?_ ?_
                                        rotate_left
                                        · rintro w' ⟨s0, s1, s2, s3, s4, s5⟩
                                          go_simp
                                          with_reducible rfl
                                        rotate_left
                                        · simp only [Act.put, List.setIfInBounds_toArray, List.set_cons_zero, List.set_cons_succ, i64_w, i32_w]
                                          rfl
                                        refine take_ (i := 15) (N := some 132) (v := ?_) (a' := ?_) #[true, true, true, true, false, true, true, true, true, true, true, true, true, true, true, true, false, true, false, false, false] rfl rfl (take_ofW HT_.out HW_.out (by kernel_rfl)) (fun _ _ _ h => h) (Or.inl ⟨by rfl, ?_⟩) hHeld ?_ ?_
                                        rotate_left
                                        · rintro w' ⟨s0, s1, s2, s3, s4, s5⟩
                                          go_simp
                                          with_reducible rfl
                                        rotate_left
                                        · simp only [Act.put, List.setIfInBounds_toArray, List.set_cons_zero, List.set_cons_succ, i64_w, i32_w]
                                          rfl
                                        refine pure_ (i := 16) (N := some 133) (v := ?_) (a' := ?_) #[true, true, true, true, false, true, true, true, true, true, true, true, true, true, true, true, true, true, false, false, false] rfl rfl (any_of HT_.out (by kernel_rfl)) (fun _ _ _ h => h) (Or.inl ⟨by rfl, ?_⟩) ?_ ?_
                                        rotate_left
                                        · intro w'
                                          go_simp
                                          with_reducible rfl
                                        rotate_left
                                        · simp only [Act.put, List.setIfInBounds_toArray, List.set_cons_zero, List.set_cons_succ, i64_w, i32_w]
                                          rfl
                                        refine one_ (i := 4) (N := some 121) #[true, true, true, true, true, true, true, true, true, true, true, true, true, true, true, true, true, true, false, false, false] rfl rfl (one_of HT_.out (by kernel_rfl)) (by decide) (fun K hK => ?_)
                                        refine goes_ Tryd.func9 (by kernel_rfl) rfl #[.int .i64 a0, .string x16_35, .string x15_35, .slice (some ad155) x7_2.length co57] (by rfl) rfl rfl (by (try simp only [List.map_toArray, List.map_cons, List.map_nil]); first | done | rfl | (simp only [List.length_drop, List.length_take]; rfl)) ?_
                                        with_reducible refine (impl_Custom.calls kj41 a0 x16_35 x15_35 _ _ x7_2 t154 _ ?side1 ?side2 A51.out ?side3).mono ?_
                                        case side3 => exact ⟨Go.Proofs.YtmdgbbiipjmenaaDoor.Rel.below_tab (by repeat (first | (with_reducible first | exact HB.out | apply below_alloc | apply pw_below_drewN | apply below_drew1) | exact HB.out)) ht_.out⟩
                                        (case side1 => repeat (first | exact (Kd.R_reads' HO_7.out).2.2 | (with_reducible refine Kd.C_alloc ?_ _) | (with_reducible refine Kd.C_drewN ?_ _) | (with_reducible refine Kd.C_drew ?_)))
                                        (case side2 => exact (Kd.R_reads' HO_7.out).2.1)
                                        rintro e w58 ⟨rfl, hb⟩
                                        have HS0_ := (hb.cell (World.block_lt_of_cell? _ _ (hHeld.1))).trans (hHeld.1)
                                        have HS1_ := (hb.cell (World.block_lt_of_cell? _ _ (hHeld.2.1))).trans (hHeld.2.1)
                                        have HS2_ := (hb.cell (World.block_lt_of_cell? _ _ (hHeld.2.2.1))).trans (hHeld.2.2.1)
                                        have HS3_ := (hb.cell (World.block_lt_of_cell? _ _ (hHeld.2.2.2.1))).trans (hHeld.2.2.2.1)
                                        have HS4_ := (hb.cell (World.block_lt_of_cell? _ _ (hHeld.2.2.2.2.1))).trans (hHeld.2.2.2.2.1)
                                        have HS5_ := (hb.cell (World.block_lt_of_cell? _ _ (hHeld.2.2.2.2.2))).trans (hHeld.2.2.2.2.2)
                                        refine ⟨_, rfl, ?_⟩
                                        have n0_ := Aside0.mk (Kd.R_below (by (with_reducible repeat (first | apply Kd.R_alloc | apply Kd.R_drewN | apply Kd.R_drew)); exact HO_7.out) hb)
                                        have n1_ := Aside0.mk (below_step (by repeat (first | (with_reducible first | exact HB.out | apply below_alloc | apply pw_below_drewN | apply below_drew1) | exact HB.out)) hb)
                                        clear HO_7
                                        clear HB
                                        have HO_7 := n0_
                                        have HB := n1_
                                        clear n0_ n1_
                                        (try clear hb)
                                        (try clear hb2)
                                        (try clear hk)
                                        (try clear hi)
                                        refine hK.out _ _ ⟨HS0_, HS1_, HS2_, HS3_, HS4_, HS5_⟩ (fun hHeld => ?_)
                                        clear hK K
                                        refine norm_ (a' := ?_) ?_ ?_
                                        rotate_left
                                        · show Act.put _ (some 121) _ = _
                                          simp only [Act.put, List.setIfInBounds_toArray, List.set_cons_zero, List.set_cons_succ, i64_w, i32_w]
                                          rfl
                                        refine one_ (i := 18) (N := some 135) #[true, true, true, true, true, true, true, true, true, true, true, true, true, true, true, true, true, true, true, false, false] rfl rfl (one_of HT_.out (by kernel_rfl)) (by decide) (fun K hK => ?_)
                                        refine goes_ Tryd.func10 (by kernel_rfl) rfl #[.string ((rd_T30 x7_2 x17_41).f1), .int .i64 (wrap64 (Int.tdiv x13_35 ((rd_T30 x7_2 x17_41).f2))), .string x15_35] (by rfl) rfl rfl (by (try simp only [List.map_toArray, List.map_cons, List.map_nil]); first | done | rfl | (simp only [List.length_drop, List.length_take]; rfl)) ?_
                                        with_reducible refine (spec_Filled.calls kj41 ((rd_T30 x7_2 x17_41).f1) (wrap64 (Int.tdiv x13_35 ((rd_T30 x7_2 x17_41).f2))) x15_35 t157 _ A55.out).mono ?_
                                        rintro e w' ⟨rfl, ⟨nd, rfl⟩⟩
                                        refine ⟨_, rfl, ?_⟩
                                        refine hK.out _ _ ⟨hHeld.1, hHeld.2.1, hHeld.2.2.1, hHeld.2.2.2.1, hHeld.2.2.2.2.1, hHeld.2.2.2.2.2⟩ (fun hHeld => ?_)
                                        clear hK K
                                        refine norm_ (a' := ?_) ?_ ?_
                                        rotate_left
                                        · show Act.put _ (some 135) _ = _
                                          simp only [Act.put, List.setIfInBounds_toArray, List.set_cons_zero, List.set_cons_succ, i64_w, i32_w]
                                          rfl
                                        refine pure_ (i := 19) (N := some 136) (v := ?_) (a' := ?_) #[true, true, true, true, true, true, true, true, true, true, true, true, true, true, true, true, true, true, true, true, false] rfl rfl (any_of HT_.out (by kernel_rfl)) (fun _ _ _ h => h) (Or.inl ⟨by rfl, ?_⟩) ?_ ?_
                                        rotate_left
                                        · intro w'
                                          go_simp
                                          with_reducible rfl
                                        rotate_left
                                        · simp only [Act.put, List.setIfInBounds_toArray, List.set_cons_zero, List.set_cons_succ, i64_w, i32_w]
                                          rfl
                                        refine pure_ (i := 20) (N := some 6) (v := ?_) (a' := ?_) #[true, true, true, true, true, true, true, true, true, true, true, true, true, true, true, true, true, true, true, true, true] rfl rfl (any_of HT_.out (by kernel_rfl)) (fun _ _ _ h => h) (Or.inl ⟨by rfl, ?_⟩) ?_ ?_
                                        rotate_left
                                        · intro w'
                                          go_simp
                                          with_reducible rfl
                                        rotate_left
                                        · simp only [Act.put, List.setIfInBounds_toArray, List.set_cons_zero, List.set_cons_succ, i64_w, i32_w]
                                          rfl
                                        refine done_ (done_of HT_.out (by kernel_rfl)) ?_
                                        try go_wp2
                                        go_ret
                                        exact ⟨by first | rfl | (simp [errW_none, errW_some] <;> rfl) | (simp only [← hji30, ← hji33]; first | rfl | (simp [errW_none, errW_some] <;> rfl)) | (simp [*, errW_none, errW_some] <;> rfl), by repeat (first | (with_reducible first | exact HB.out | apply below_alloc | apply pw_below_drewN | apply below_drew1) | exact HB.out)⟩
                                    · rw [if_neg c53] at H
                                      exact absurd H (by simp)
                                  · rw [if_neg c52] at H
                                    exact absurd H (by simp)
                                · rw [if_neg c50] at H
                                  have c50b0 : decide (a0 < 0) = false := decide_eq_false c50
                                  clear c50
                                  replace H := Option.bind_eq_some_iff.mp H
                                  obtain ⟨t158, A590, H⟩ := H
                                  replace H : (if 0 ≤ x17_41 then (if x17_41 < (x7_2.length : Int) then (if ((rd_T30 x7_2 x17_41).f2) = 0 then (none) else ((spec_Filled.f kj41 ((rd_T30 x7_2 x17_41).f1) (wrap64 (Int.tdiv x13_35 ((rd_T30 x7_2 x17_41).f2))) x15_35).bind fun t161 => (some (t158.toList == t161.toList)))) else (none)) else (none)) = some r := H
                                  have A59 := Aside0.mk A590
                                  clear A590
                                  by_cases c60 : 0 ≤ x17_41
                                  · rw [if_pos c60] at H
                                    have c60b0 : decide (0 ≤ x17_41) = true := decide_eq_true c60
                                    clear c60
                                    by_cases c61 : x17_41 < (x7_2.length : Int)
                                    · rw [if_pos c61] at H
                                      have c61b0 : decide (x17_41 < (x7_2.length : Int)) = true := decide_eq_true c61
                                      clear c61
                                      by_cases c62 : ((rd_T30 x7_2 x17_41).f2) = 0
                                      · rw [if_pos c62] at H
                                        exact absurd H (by simp)
                                      · rw [if_neg c62] at H
                                        have c62b0 : (((rd_T30 x7_2 x17_41).f2) == 0) = false := beq_eq_false_iff_ne.mpr c62
                                        have c62b1 : (((rd_T30 x7_2 x17_41).f2) != 0) = true := bne_iff_ne.mpr c62
                                        replace H := Option.bind_eq_some_iff.mp H
                                        obtain ⟨t161, A630, H⟩ := H
                                        replace H : (some (t158.toList == t161.toList)) = some r := H
                                        have A63 := Aside0.mk A630
                                        clear A630
                                        obtain rfl := Option.some.inj H
                                        try go_wp2
                                        have n0_ := Aside0.mk (Kd.R_drew HO_7.out)
                                        have n1_ := Aside0.mk (below_drew1 HB.out)
                                        clear HO_7
                                        clear HB
                                        have HO_7 := n0_
                                        have HB := n1_
                                        clear n0_ n1_
                                        obtain ⟨Ao65, co65, eo65⟩ := Kd.R_slice HO_7.out
                                        (first | subst eo65 | (injection eo65 with f1_ f2_ f3_; have f4_ := f1_.symm; have f5_ := f3_.symm; clear f1_ f2_ f3_; subst f4_; subst f5_))
                                        have p159 : 0 ≤ (x17_41 : Int) := of_decide_eq_true (by first | (with_reducible assumption) | assumption)
                                        have q159 : x17_41 < (x7_2.length : Int) := of_decide_eq_true (by first | (with_reducible assumption) | assumption)
                                        obtain ⟨ad159, e159, hx159_0, hx159_1, hx159_2⟩ := at_T30 (Kd.R_reads' HO_7.out).2.2 x17_41 p159 q159
                                        cases e159
                                        replace p159 := eq_true p159
                                        replace q159 := eq_true q159
                                        have p160 : 0 ≤ (x17_41 : Int) := of_decide_eq_true (by first | (with_reducible assumption) | assumption)
                                        have q160 : x17_41 < (x7_2.length : Int) := of_decide_eq_true (by first | (with_reducible assumption) | assumption)
                                        obtain ⟨ad160, e160, hx160_0, hx160_1, hx160_2⟩ := at_T30 (Kd.R_reads' HO_7.out).2.2 x17_41 p160 q160
                                        obtain rfl : ad159 = ad160 := (by injection e160)
                                        replace p160 := eq_true p160
                                        replace q160 := eq_true q160
                                        refine start_ (n := 21) (S := fun w' => w'.cell? (ad159.add ((x17_41).toNat * 3)) = some (.int .i64 ((rd_T30 x7_2 x17_41).f0)) ∧ w'.cell? ⟨(ad159.add ((x17_41).toNat * 3)).block, (ad159.add ((x17_41).toNat * 3)).off + 1, none⟩ = some (.string ((rd_T30 x7_2 x17_41).f1)) ∧ w'.cell? ⟨(ad159.add ((x17_41).toNat * 3)).block, (ad159.add ((x17_41).toNat * 3)).off + 2, none⟩ = some (.int .i64 ((rd_T30 x7_2 x17_41).f2)) ∧ w'.cell? (ad159.add ((x17_41).toNat * 3)) = some (.int .i64 ((rd_T30 x7_2 x17_41).f0)) ∧ w'.cell? ⟨(ad159.add ((x17_41).toNat * 3)).block, (ad159.add ((x17_41).toNat * 3)).off + 1, none⟩ = some (.string ((rd_T30 x7_2 x17_41).f1)) ∧ w'.cell? ⟨(ad159.add ((x17_41).toNat * 3)).block, (ad159.add ((x17_41).toNat * 3)).off + 2, none⟩ = some (.int .i64 ((rd_T30 x7_2 x17_41).f2))) (ds := []) #[false, false, false, false, false, false, false, false, false, false, false, false, false, false, false, false, false, false, false, false, false] (by kernel_rfl) rfl rfl ⟨hx159_0, hx159_1, hx159_2, hx160_0, hx160_1, hx160_2⟩ (fun hHeld => ?_); refine with_tabW laws_FnCustom.tab30 laws_FnCustom.bits30 (fun HT_ HW_ => ?_)
                                        generalize wc.drew = w64 at HO_7 HB hx159_0 hx159_1 hx159_2 hx160_0 hx160_1 hx160_2 hHeld ⊢
                                        refine pure_ (i := 0) (N := some 117) (v := ?_) (a' := ?_) #[true, false, false, false, false, false, false, false, false, false, false, false, false, false, false, false, false, false, false, false, false] rfl rfl (any_of HT_.out (by kernel_rfl)) (fun _ _ _ h => h) (Or.inl ⟨by rfl, ?_⟩) ?_ ?_
                                        rotate_left
                                        · intro w'
                                          go_simp
                                          with_reducible rfl
                                        rotate_left
                                        · simp only [Act.put, List.setIfInBounds_toArray, List.set_cons_zero, List.set_cons_succ, i64_w, i32_w]
                                          rfl
                                        refine pure_ (i := 1) (N := some 118) (v := ?_) (a' := ?_) #[true, true, false, false, false, false, false, false, false, false, false, false, false, false, false, false, false, false, false, false, false] rfl rfl (any_of HT_.out (by kernel_rfl)) (fun _ _ _ h => h) (Or.inl ⟨by rfl, ?_⟩) ?_ ?_
                                        rotate_left
                                        · intro w'
                                          go_simp
                                          with_reducible rfl
                                        rotate_left
                                        · simp only [Act.put, List.setIfInBounds_toArray, List.set_cons_zero, List.set_cons_succ, i64_w, i32_w]
                                          rfl
                                        refine pure_ (i := 2) (N := some 119) (v := ?_) (a' := ?_) #[true, true, true, false, false, false, false, false, false, false, false, false, false, false, false, false, false, false, false, false, false] rfl rfl (any_of HT_.out (by kernel_rfl)) (fun _ _ _ h => h) (Or.inl ⟨by rfl, ?_⟩) ?_ ?_
                                        rotate_left
                                        · intro w'
                                          go_simp
                                          with_reducible rfl
                                        rotate_left
                                        · simp only [Act.put, List.setIfInBounds_toArray, List.set_cons_zero, List.set_cons_succ, i64_w, i32_w]
                                          rfl
                                        refine pure_ (i := 3) (N := some 120) (v := ?_) (a' := ?_) #[true, true, true, true, false, false, false, false, false, false, false, false, false, false, false, false, false, false, false, false, false] rfl rfl (any_of HT_.out (by kernel_rfl)) (fun _ _ _ h => h) (Or.inl ⟨by rfl, ?_⟩) ?_ ?_
                                        rotate_left
                                        · intro w'
                                          go_simp
                                          with_reducible rfl
                                        rotate_left
                                        · simp only [Act.put, List.setIfInBounds_toArray, List.set_cons_zero, List.set_cons_succ, i64_w, i32_w]
                                          rfl
                                        refine pure_ (i := 5) (N := some 122) (v := ?_) (a' := ?_) #[true, true, true, true, false, true, false, false, false, false, false, false, false, false, false, false, false, false, false, false, false] rfl rfl (any_of HT_.out (by kernel_rfl)) (fun _ _ _ h => h) (Or.inl ⟨by rfl, ?_⟩) ?_ ?_
                                        rotate_left
                                        · intro w'
                                          go_simp
                                          with_reducible rfl
                                        rotate_left
                                        · simp only [Act.put, List.setIfInBounds_toArray, List.set_cons_zero, List.set_cons_succ, i64_w, i32_w]
                                          rfl
                                        refine pure_ (i := 6) (N := some 123) (v := ?_) (a' := ?_) #[true, true, true, true, false, true, true, false, false, false, false, false, false, false, false, false, false, false, false, false, false] rfl rfl (any_of HT_.out (by kernel_rfl)) (fun _ _ _ h => h) (Or.inl ⟨by rfl, ?_⟩) ?_ ?_
                                        rotate_left
                                        · intro w'
                                          go_simp
                                          with_reducible rfl
                                        rotate_left
                                        · simp only [Act.put, List.setIfInBounds_toArray, List.set_cons_zero, List.set_cons_succ, i64_w, i32_w]
                                          rfl
                                        refine pure_ (i := 7) (N := some 124) (v := ?_) (a' := ?_) #[true, true, true, true, false, true, true, true, false, false, false, false, false, false, false, false, false, false, false, false, false] rfl rfl (any_of HT_.out (by kernel_rfl)) (fun _ _ _ h => h) (Or.inl ⟨by rfl, ?_⟩) ?_ ?_
                                        rotate_left
                                        · intro w'
                                          go_simp
                                          with_reducible rfl
                                        rotate_left
                                        · simp only [Act.put, List.setIfInBounds_toArray, List.set_cons_zero, List.set_cons_succ, i64_w, i32_w]
                                          rfl
                                        refine pure_ (i := 8) (N := some 125) (v := ?_) (a' := ?_) #[true, true, true, true, false, true, true, true, true, false, false, false, false, false, false, false, false, false, false, false, false] rfl rfl (any_of HT_.out (by kernel_rfl)) (fun _ _ _ h => h) (Or.inl ⟨by rfl, ?_⟩) ?_ ?_
                                        rotate_left
                                        · intro w'
                                          go_simp
                                          with_reducible rfl
                                        rotate_left
                                        · simp only [Act.put, List.setIfInBounds_toArray, List.set_cons_zero, List.set_cons_succ, i64_w, i32_w]
                                          rfl
                                        refine pure_ (i := 10) (N := some 127) (v := ?_) (a' := ?_) #[true, true, true, true, false, true, true, true, true, false, true, false, false, false, false, false, false, false, false, false, false] rfl rfl (any_of HT_.out (by kernel_rfl)) (fun _ _ _ h => h) (Or.inl ⟨by rfl, ?_⟩) ?_ ?_
                                        rotate_left
                                        · intro w'
                                          go_simp
                                          with_reducible rfl
                                        rotate_left
                                        · simp only [Act.put, List.setIfInBounds_toArray, List.set_cons_zero, List.set_cons_succ, i64_w, i32_w]
                                          rfl
                                        refine pure_ (i := 11) (N := some 128) (v := ?_) (a' := ?_) #[true, true, true, true, false, true, true, true, true, false, true, true, false, false, false, false, false, false, false, false, false] rfl rfl (any_of HT_.out (by kernel_rfl)) (fun _ _ _ h => h) (Or.inl ⟨by rfl, ?_⟩) ?_ ?_
                                        rotate_left
                                        · intro w'
                                          go_simp
                                          with_reducible rfl
                                        rotate_left
                                        · simp only [Act.put, List.setIfInBounds_toArray, List.set_cons_zero, List.set_cons_succ, i64_w, i32_w]
                                          rfl
                                        refine pure_ (i := 12) (N := some 129) (v := ?_) (a' := ?_) #[true, true, true, true, false, true, true, true, true, false, true, true, true, false, false, false, false, false, false, false, false] rfl rfl (any_of HT_.out (by kernel_rfl)) (fun _ _ _ h => h) (Or.inl ⟨by rfl, ?_⟩) ?_ ?_
                                        rotate_left
                                        · intro w'
                                          go_simp
                                          with_reducible rfl
                                        rotate_left
                                        · simp only [Act.put, List.setIfInBounds_toArray, List.set_cons_zero, List.set_cons_succ, i64_w, i32_w]
                                          rfl
                                        refine pure_ (i := 13) (N := some 130) (v := ?_) (a' := ?_) #[true, true, true, true, false, true, true, true, true, false, true, true, true, true, false, false, false, false, false, false, false] rfl rfl (any_of HT_.out (by kernel_rfl)) (fun _ _ _ h => h) (Or.inl ⟨by rfl, ?_⟩) ?_ ?_
                                        rotate_left
                                        · intro w'
                                          go_simp
                                          with_reducible rfl
                                        rotate_left
                                        · simp only [Act.put, List.setIfInBounds_toArray, List.set_cons_zero, List.set_cons_succ, i64_w, i32_w]
                                          rfl
                                        refine pure_ (i := 14) (N := some 131) (v := ?_) (a' := ?_) #[true, true, true, true, false, true, true, true, true, false, true, true, true, true, true, false, false, false, false, false, false] rfl rfl (any_of HT_.out (by kernel_rfl)) (fun _ _ _ h => h) (Or.inl ⟨by rfl, ?_⟩) ?_ ?_
                                        rotate_left
                                        · intro w'
                                          go_simp
                                          with_reducible rfl
                                        rotate_left
                                        · simp only [Act.put, List.setIfInBounds_toArray, List.set_cons_zero, List.set_cons_succ, i64_w, i32_w]
                                          rfl
                                        refine pure_ (i := 17) (N := some 134) (v := ?_) (a' := ?_) #[true, true, true, true, false, true, true, true, true, false, true, true, true, true, true, false, false, true, false, false, false] rfl rfl (any_of HT_.out (by kernel_rfl)) (fun _ _ _ h => h) (Or.inl ⟨by rfl, ?_⟩) ?_ ?_
                                        rotate_left
                                        · intro w'
                                          go_simp
                                          with_reducible rfl
                                        rotate_left
                                        · simp only [Act.put, List.setIfInBounds_toArray, List.set_cons_zero, List.set_cons_succ, i64_w, i32_w]
                                          rfl
                                        refine take_ (i := 9) (N := some 126) (v := ?_) (a' := ?_) #[true, true, true, true, false, true, true, true, true, true, true, true, true, true, true, false, false, true, false, false, false] rfl rfl (take_ofW HT_.out HW_.out (by kernel_rfl)) (fun _ _ _ h => h) (Or.inl ⟨by rfl, ?_⟩) hHeld ?_ ?_
                                        rotate_left
                                        · rintro w' ⟨s0, s1, s2, s3, s4, s5⟩
                                          go_simp
                                          with_reducible rfl
                                        rotate_left
                                        · simp only [Act.put, List.setIfInBounds_toArray, List.set_cons_zero, List.set_cons_succ, i64_w, i32_w]
                                          rfl
                                        refine take_ (i := 15) (N := some 132) (v := ?_) (a' := ?_) #[true, true, true, true, false, true, true, true, true, true, true, true, true, true, true, true, false, true, false, false, false] rfl rfl (take_ofW HT_.out HW_.out (by kernel_rfl)) (fun _ _ _ h => h) (Or.inl ⟨by rfl, ?_⟩) hHeld ?_ ?_
                                        rotate_left
                                        · rintro w' ⟨s0, s1, s2, s3, s4, s5⟩
                                          go_simp
                                          with_reducible rfl
                                        rotate_left
                                        · simp only [Act.put, List.setIfInBounds_toArray, List.set_cons_zero, List.set_cons_succ, i64_w, i32_w]
                                          rfl
                                        refine pure_ (i := 16) (N := some 133) (v := ?_) (a' := ?_) #[true, true, true, true, false, true, true, true, true, true, true, true, true, true, true, true, true, true, false, false, false] rfl rfl (any_of HT_.out (by kernel_rfl)) (fun _ _ _ h => h) (Or.inl ⟨by rfl, ?_⟩) ?_ ?_
                                        rotate_left
                                        · intro w'
                                          go_simp
                                          with_reducible rfl
                                        rotate_left
                                        · simp only [Act.put, List.setIfInBounds_toArray, List.set_cons_zero, List.set_cons_succ, i64_w, i32_w]
                                          rfl
                                        refine one_ (i := 4) (N := some 121) #[true, true, true, true, true, true, true, true, true, true, true, true, true, true, true, true, true, true, false, false, false] rfl rfl (one_of HT_.out (by kernel_rfl)) (by decide) (fun K hK => ?_)
                                        refine goes_ Tryd.func9 (by kernel_rfl) rfl #[.int .i64 a0, .string x15_35, .string x16_35, .slice (some ad159) x7_2.length co65] (by rfl) rfl rfl (by (try simp only [List.map_toArray, List.map_cons, List.map_nil]); first | done | rfl | (simp only [List.length_drop, List.length_take]; rfl)) ?_
                                        with_reducible refine (impl_Custom.calls kj41 a0 x15_35 x16_35 _ _ x7_2 t158 _ ?side1 ?side2 A59.out ?side3).mono ?_
                                        case side3 => exact ⟨Go.Proofs.YtmdgbbiipjmenaaDoor.Rel.below_tab (by repeat (first | (with_reducible first | exact HB.out | apply below_alloc | apply pw_below_drewN | apply below_drew1) | exact HB.out)) ht_.out⟩
                                        (case side1 => repeat (first | exact (Kd.R_reads' HO_7.out).2.2 | (with_reducible refine Kd.C_alloc ?_ _) | (with_reducible refine Kd.C_drewN ?_ _) | (with_reducible refine Kd.C_drew ?_)))
                                        (case side2 => exact (Kd.R_reads' HO_7.out).2.1)
                                        rintro e w66 ⟨rfl, hb⟩
                                        have HS0_ := (hb.cell (World.block_lt_of_cell? _ _ (hHeld.1))).trans (hHeld.1)
                                        have HS1_ := (hb.cell (World.block_lt_of_cell? _ _ (hHeld.2.1))).trans (hHeld.2.1)
                                        have HS2_ := (hb.cell (World.block_lt_of_cell? _ _ (hHeld.2.2.1))).trans (hHeld.2.2.1)
                                        have HS3_ := (hb.cell (World.block_lt_of_cell? _ _ (hHeld.2.2.2.1))).trans (hHeld.2.2.2.1)
                                        have HS4_ := (hb.cell (World.block_lt_of_cell? _ _ (hHeld.2.2.2.2.1))).trans (hHeld.2.2.2.2.1)
                                        have HS5_ := (hb.cell (World.block_lt_of_cell? _ _ (hHeld.2.2.2.2.2))).trans (hHeld.2.2.2.2.2)
                                        refine ⟨_, rfl, ?_⟩
                                        have n0_ := Aside0.mk (Kd.R_below (by (with_reducible repeat (first | apply Kd.R_alloc | apply Kd.R_drewN | apply Kd.R_drew)); exact HO_7.out) hb)
                                        have n1_ := Aside0.mk (below_step (by repeat (first | (with_reducible first | exact HB.out | apply below_alloc | apply pw_below_drewN | apply below_drew1) | exact HB.out)) hb)
                                        clear HO_7
                                        clear HB
                                        have HO_7 := n0_
                                        have HB := n1_
                                        clear n0_ n1_
                                        (try clear hb)
                                        (try clear hb2)
                                        (try clear hk)
                                        (try clear hi)
                                        refine hK.out _ _ ⟨HS0_, HS1_, HS2_, HS3_, HS4_, HS5_⟩ (fun hHeld => ?_)
                                        clear hK K
                                        refine norm_ (a' := ?_) ?_ ?_
                                        rotate_left
                                        · show Act.put _ (some 121) _ = _
                                          simp only [Act.put, List.setIfInBounds_toArray, List.set_cons_zero, List.set_cons_succ, i64_w, i32_w]
                                          rfl
                                        refine one_ (i := 18) (N := some 135) #[true, true, true, true, true, true, true, true, true, true, true, true, true, true, true, true, true, true, true, false, false] rfl rfl (one_of HT_.out (by kernel_rfl)) (by decide) (fun K hK => ?_)
                                        refine goes_ Tryd.func10 (by kernel_rfl) rfl #[.string ((rd_T30 x7_2 x17_41).f1), .int .i64 (wrap64 (Int.tdiv x13_35 ((rd_T30 x7_2 x17_41).f2))), .string x15_35] (by rfl) rfl rfl (by (try simp only [List.map_toArray, List.map_cons, List.map_nil]); first | done | rfl | (simp only [List.length_drop, List.length_take]; rfl)) ?_
                                        with_reducible refine (spec_Filled.calls kj41 ((rd_T30 x7_2 x17_41).f1) (wrap64 (Int.tdiv x13_35 ((rd_T30 x7_2 x17_41).f2))) x15_35 t161 _ A63.out).mono ?_
                                        rintro e w' ⟨rfl, ⟨nd, rfl⟩⟩
                                        refine ⟨_, rfl, ?_⟩
                                        refine hK.out _ _ ⟨hHeld.1, hHeld.2.1, hHeld.2.2.1, hHeld.2.2.2.1, hHeld.2.2.2.2.1, hHeld.2.2.2.2.2⟩ (fun hHeld => ?_)
                                        clear hK K
                                        refine norm_ (a' := ?_) ?_ ?_
                                        rotate_left
                                        · show Act.put _ (some 135) _ = _
                                          simp only [Act.put, List.setIfInBounds_toArray, List.set_cons_zero, List.set_cons_succ, i64_w, i32_w]
                                          rfl
                                        refine pure_ (i := 19) (N := some 136) (v := ?_) (a' := ?_) #[true, true, true, true, true, true, true, true, true, true, true, true, true, true, true, true, true, true, true, true, false] rfl rfl (any_of HT_.out (by kernel_rfl)) (fun _ _ _ h => h) (Or.inl ⟨by rfl, ?_⟩) ?_ ?_
                                        rotate_left
                                        · intro w'
                                          go_simp
                                          with_reducible rfl
                                        rotate_left
                                        · simp only [Act.put, List.setIfInBounds_toArray, List.set_cons_zero, List.set_cons_succ, i64_w, i32_w]
                                          rfl
                                        refine pure_ (i := 20) (N := some 6) (v := ?_) (a' := ?_) #[true, true, true, true, true, true, true, true, true, true, true, true, true, true, true, true, true, true, true, true, true] rfl rfl (any_of HT_.out (by kernel_rfl)) (fun _ _ _ h => h) (Or.inl ⟨by rfl, ?_⟩) ?_ ?_
                                        rotate_left
                                        · intro w'
                                          go_simp
                                          with_reducible rfl
                                        rotate_left
                                        · simp only [Act.put, List.setIfInBounds_toArray, List.set_cons_zero, List.set_cons_succ, i64_w, i32_w]
                                          rfl
                                        refine done_ (done_of HT_.out (by kernel_rfl)) ?_
                                        try go_wp2
                                        go_ret
                                        exact ⟨by first | rfl | (simp [errW_none, errW_some] <;> rfl) | (simp only [← hji30, ← hji33]; first | rfl | (simp [errW_none, errW_some] <;> rfl)) | (simp [*, errW_none, errW_some] <;> rfl), by repeat (first | (with_reducible first | exact HB.out | apply below_alloc | apply pw_below_drewN | apply below_drew1) | exact HB.out)⟩
                                    · rw [if_neg c61] at H
                                      exact absurd H (by simp)
                                  · rw [if_neg c60] at H
                                    exact absurd H (by simp)
                      · rw [if_neg c35] at H
                        exact absurd H (by simp)
                    · rw [if_neg c34] at H
                      exact absurd H (by simp)
                  · rw [if_neg c32] at H
                    exact absurd H (by simp)
                · rw [if_neg c31] at H
                  exact absurd H (by simp)

/-- THE ONE PURE STATEMENT of laws_FnCustom: yours. -/
def laws_FnCustom.Pure : Prop := ∀ (a0 : Int) (l1 : List Int) (a2 : Int), (Lit.int .i64 a0).wf = true → l1.length ≤ maxLen → l1.length * 4 ≤ 140737488351232 → (∀ x ∈ l1, (Lit.int .u32 x).wf = true) → (Lit.int .u8 a2).wf = true → ∃ k, laws_FnCustom.f k a0 l1 a2 = some true
theorem laws_FnCustom.walk (P : laws_FnCustom.Pure) (a0 : Int) (a1 : Option Addr) (len1 cap1 : Nat) (z1 : List Int) (a2 : Int) (w : World) (w0 : (Lit.int .i64 a0).wf = true) (w1 : (a1 = none ∧ len1 = 0 ∧ cap1 = 0 ∧ z1 = []) ∨ ∃ x, a1 = some x ∧ len1 ≤ cap1 ∧ cap1 ≤ maxLen ∧ z1.length = cap1 ∧ (∀ i, i < z1.length → w.cell? (x.add i) = some (.int .u32 (z1.getD i 0))) ∧ ∀ n ∈ z1, (Lit.int .u32 n).wf = true) (y1 : len1 * 4 ≤ 140737488351232) (w2 : (Lit.int .u8 a2).wf = true) (ht_ : Aside0 (Go.Proofs.YtmdgbbiipjmenaaDoor.Ord.Tab w)) :
    Calls Tryd.prog 4 #[.int .i64 a0, .slice a1 len1 cap1, .int .u8 a2] w fun e w' => e = .returned (.bool true) ∧ Below w.heap.size w w' := by
  obtain ⟨l1, rfl, hr1, hm1, hw1, hc1⟩ := ReadsInt.ofRowC w1
  obtain ⟨k, h⟩ := P a0 l1 a2 w0 hm1 y1 hw1 w2
  refine (laws_FnCustom.calls k a0 _ _ l1 a2 true w (Kd.C_of_reads (d := (0 : Int)) (h1 := fun _ => rfl) hr1) hc1 h ht_).mono ?_
  rintro e w' ⟨rfl, hd⟩
  exact ⟨rfl, hd⟩

end Go.Proofs.YtmdgbbiipjmenaaDoor.PCus
