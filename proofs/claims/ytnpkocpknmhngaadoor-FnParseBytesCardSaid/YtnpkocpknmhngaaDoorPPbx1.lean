-- written by a program of this work
import Derived.Test.YtnpkocpknmhngaaDoorPPbx0
namespace Go.Proofs.YtnpkocpknmhngaaDoor.PPb
open Go.RowKit Go.Proofs.YtnpkocpknmhngaaDoorW.PrintWords Go.Proofs.YtnpkocpknmhngaaDoorW.PrintLast Go.Proofs.YtnpkocpknmhngaaDoorW.PrintMore
attribute [local go_sem] max2_int min2_int max_two min_two max_three min_three max_four min_four   -- for this text's walks alone
set_option linter.unusedVariables false
set_option linter.unusedSimpArgs false

/-! ### laws_nameOf: function 4 -/
def laws_nameOf.l0 : Nat → Int → ByteArray → ByteArray → Int → Int → Option (ByteArray × ByteArray)
  | 0, _, _, _, _, _ => none
  | k + 1, x1, x7, x8, x21, x22 => if x22 < x21 then (if 0 ≤ x22 then (if x22 < (x7.size : Int) then (if (Go.bits .and .u8 (shr .u8 x1 x22) 1) = 1 then (if x8.size + (Utf8.encode (((bt x7 x22) - 32) % 256)).size ≤ 9223372036854775807 then (laws_nameOf.l0 k x1 x7 (x8 ++ (Utf8.encode (((bt x7 x22) - 32) % 256))) x21 (wrap64 (x22 + 1))) else (none)) else (if x8.size + (Utf8.encode (wrap32 (bt x7 x22))).size ≤ 9223372036854775807 then (laws_nameOf.l0 k x1 x7 (x8 ++ (Utf8.encode (wrap32 (bt x7 x22)))) x21 (wrap64 (x22 + 1))) else (none))) else (none)) else (none)) else (some (x8, x7))
def laws_nameOf.f (k : Nat) (a0 : Int) (a1 : Int) : Option (ByteArray × ByteArray) := (some (([(⟨#[]⟩ : ByteArray), (⟨#[98]⟩ : ByteArray), (⟨#[107, 98]⟩ : ByteArray), (⟨#[109, 98]⟩ : ByteArray), (⟨#[103, 98]⟩ : ByteArray), (⟨#[116, 98]⟩ : ByteArray), (⟨#[112, 98]⟩ : ByteArray), (⟨#[101, 98]⟩ : ByteArray), (⟨#[107, 105, 98]⟩ : ByteArray), (⟨#[109, 105, 98]⟩ : ByteArray), (⟨#[103, 105, 98]⟩ : ByteArray), (⟨#[116, 105, 98]⟩ : ByteArray), (⟨#[112, 105, 98]⟩ : ByteArray), (⟨#[101, 105, 98]⟩ : ByteArray), (⟨#[107]⟩ : ByteArray), (⟨#[109]⟩ : ByteArray), (⟨#[103]⟩ : ByteArray), (⟨#[116]⟩ : ByteArray), (⟨#[112]⟩ : ByteArray), (⟨#[101]⟩ : ByteArray), (⟨#[107, 105]⟩ : ByteArray), (⟨#[109, 105]⟩ : ByteArray), (⟨#[103, 105]⟩ : ByteArray), (⟨#[116, 105]⟩ : ByteArray), (⟨#[112, 105]⟩ : ByteArray), (⟨#[101, 105]⟩ : ByteArray), (⟨#[113]⟩ : ByteArray), (⟨#[98, 98]⟩ : ByteArray), (⟨#[107, 98, 105]⟩ : ByteArray)] : List ByteArray) : List ByteArray)).bind fun y101 => (if (y101.length : Int) = 0 then (none) else (if 0 ≤ (Int.tmod (wrap64 (a0)) (y101.length : Int)) then (if (Int.tmod (wrap64 (a0)) (y101.length : Int)) < (y101.length : Int) then (laws_nameOf.l0 k a1 (rdOf ByteArray.empty y101 (Int.tmod (wrap64 (a0)) (y101.length : Int))) (⟨#[]⟩ : ByteArray) ((rdOf ByteArray.empty y101 (Int.tmod (wrap64 (a0)) (y101.length : Int))).size : Int) 0) else (none)) else (none)))
theorem laws_nameOf.mono_l : ∀ k, (∀ y0 y1 y2 y3 y4, LeO (laws_nameOf.l0 k y0 y1 y2 y3 y4) (laws_nameOf.l0 (k + 1) y0 y1 y2 y3 y4))
  | 0 => fun _ _ _ _ _ r h => by simp [laws_nameOf.l0] at h
  | k + 1 => by
    have ih0 := laws_nameOf.mono_l k
    · intro y0 y1 y2 y3 y4
      unfold laws_nameOf.l0
      repeat' first
      | (with_reducible exact ih0 _ _ _ _ _)
      | (with_reducible exact LeO.refl _)
      | (with_reducible exact LeO.none _)
      | (with_reducible refine LeO.ite ?_ ?_)
      | (with_reducible refine LeO.bind ?_ (fun _ => ?_))
      | exact ih0 _ _ _ _ _
      | exact LeO.none _
      | refine LeO.ite ?_ ?_
      | refine LeO.bind ?_ (fun _ => ?_)
theorem laws_nameOf.mono : ∀ a0 a1 k, LeO (laws_nameOf.f k a0 a1) (laws_nameOf.f (k + 1) a0 a1) := by
  intro a0 a1 k
  have ih0 := laws_nameOf.mono_l k
  unfold laws_nameOf.f
  repeat' first
      | (with_reducible exact ih0 _ _ _ _ _)
      | (with_reducible exact LeO.refl _)
      | (with_reducible exact LeO.none _)
      | (with_reducible refine LeO.ite ?_ ?_)
      | (with_reducible refine LeO.bind ?_ (fun _ => ?_))
      | exact ih0 _ _ _ _ _
      | exact LeO.none _
      | refine LeO.ite ?_ ?_
      | refine LeO.bind ?_ (fun _ => ?_)
set_option maxHeartbeats 8000000 in
set_option maxRecDepth 100000 in
theorem laws_nameOf.calls (k : Nat) (a0 : Int) (a1 : Int) (r1 : ByteArray) (r2 : ByteArray) (w : World) (h : laws_nameOf.f k a0 a1 = some (r1, r2)) :
    Calls Tryd.prog 4 #[.int .u8 a0, .int .u8 a1] w fun e w' => e = .returned (.tuple #[.string r1, .string r2]) ∧ Below w.heap.size w w' := by
  have HB := Aside0.mk (Below.refl w.heap.size w)
  have H : ((some (([(⟨#[]⟩ : ByteArray), (⟨#[98]⟩ : ByteArray), (⟨#[107, 98]⟩ : ByteArray), (⟨#[109, 98]⟩ : ByteArray), (⟨#[103, 98]⟩ : ByteArray), (⟨#[116, 98]⟩ : ByteArray), (⟨#[112, 98]⟩ : ByteArray), (⟨#[101, 98]⟩ : ByteArray), (⟨#[107, 105, 98]⟩ : ByteArray), (⟨#[109, 105, 98]⟩ : ByteArray), (⟨#[103, 105, 98]⟩ : ByteArray), (⟨#[116, 105, 98]⟩ : ByteArray), (⟨#[112, 105, 98]⟩ : ByteArray), (⟨#[101, 105, 98]⟩ : ByteArray), (⟨#[107]⟩ : ByteArray), (⟨#[109]⟩ : ByteArray), (⟨#[103]⟩ : ByteArray), (⟨#[116]⟩ : ByteArray), (⟨#[112]⟩ : ByteArray), (⟨#[101]⟩ : ByteArray), (⟨#[107, 105]⟩ : ByteArray), (⟨#[109, 105]⟩ : ByteArray), (⟨#[103, 105]⟩ : ByteArray), (⟨#[116, 105]⟩ : ByteArray), (⟨#[112, 105]⟩ : ByteArray), (⟨#[101, 105]⟩ : ByteArray), (⟨#[113]⟩ : ByteArray), (⟨#[98, 98]⟩ : ByteArray), (⟨#[107, 98, 105]⟩ : ByteArray)] : List ByteArray) : List ByteArray)).bind fun y101 => (if (y101.length : Int) = 0 then (none) else (if 0 ≤ (Int.tmod (wrap64 (a0)) (y101.length : Int)) then (if (Int.tmod (wrap64 (a0)) (y101.length : Int)) < (y101.length : Int) then (laws_nameOf.l0 k a1 (rdOf ByteArray.empty y101 (Int.tmod (wrap64 (a0)) (y101.length : Int))) (⟨#[]⟩ : ByteArray) ((rdOf ByteArray.empty y101 (Int.tmod (wrap64 (a0)) (y101.length : Int))).size : Int) 0) else (none)) else (none)))) = some (r1, r2) := h
  clear h
  obtain ⟨y101, hy101⟩ : ∃ y_ : List ByteArray, y_ = (([(⟨#[]⟩ : ByteArray), (⟨#[98]⟩ : ByteArray), (⟨#[107, 98]⟩ : ByteArray), (⟨#[109, 98]⟩ : ByteArray), (⟨#[103, 98]⟩ : ByteArray), (⟨#[116, 98]⟩ : ByteArray), (⟨#[112, 98]⟩ : ByteArray), (⟨#[101, 98]⟩ : ByteArray), (⟨#[107, 105, 98]⟩ : ByteArray), (⟨#[109, 105, 98]⟩ : ByteArray), (⟨#[103, 105, 98]⟩ : ByteArray), (⟨#[116, 105, 98]⟩ : ByteArray), (⟨#[112, 105, 98]⟩ : ByteArray), (⟨#[101, 105, 98]⟩ : ByteArray), (⟨#[107]⟩ : ByteArray), (⟨#[109]⟩ : ByteArray), (⟨#[103]⟩ : ByteArray), (⟨#[116]⟩ : ByteArray), (⟨#[112]⟩ : ByteArray), (⟨#[101]⟩ : ByteArray), (⟨#[107, 105]⟩ : ByteArray), (⟨#[109, 105]⟩ : ByteArray), (⟨#[103, 105]⟩ : ByteArray), (⟨#[116, 105]⟩ : ByteArray), (⟨#[112, 105]⟩ : ByteArray), (⟨#[101, 105]⟩ : ByteArray), (⟨#[113]⟩ : ByteArray), (⟨#[98, 98]⟩ : ByteArray), (⟨#[107, 98, 105]⟩ : ByteArray)] : List ByteArray)) := ⟨_, rfl⟩
  replace H : (if (y101.length : Int) = 0 then (none) else (if 0 ≤ (Int.tmod (wrap64 (a0)) (y101.length : Int)) then (if (Int.tmod (wrap64 (a0)) (y101.length : Int)) < (y101.length : Int) then (laws_nameOf.l0 k a1 (rdOf ByteArray.empty y101 (Int.tmod (wrap64 (a0)) (y101.length : Int))) (⟨#[]⟩ : ByteArray) ((rdOf ByteArray.empty y101 (Int.tmod (wrap64 (a0)) (y101.length : Int))).size : Int) 0) else (none)) else (none))) = some (r1, r2) := by first | (rw [hy101]; with_reducible exact H) | (have H2_ := (Option.bind_some _ _).symm.trans H; rw [hy101]; with_reducible exact H2_) | (have H2_ := (Option.bind_some _ _).symm.trans H; with_reducible exact H2_) | with_reducible exact H | (rw [hy101]; exact H) | exact H
  have Ny101 := Aside0.mk hy101
  clear hy101
  by_cases c3 : (y101.length : Int) = 0
  · rw [if_pos c3] at H
    exact absurd H (by simp)
  · rw [if_neg c3] at H
    have c3b0 : ((y101.length : Int) == 0) = false := beq_eq_false_iff_ne.mpr c3
    have c3b1 : ((y101.length : Int) != 0) = true := bne_iff_ne.mpr c3
    have c3b2 : ¬ (y101 = []) := fun h_ => c3 (by rw [h_]; rfl)
    obtain ⟨ji4, hji4⟩ : ∃ j_ : Int, (Int.tmod (wrap64 (a0)) (y101.length : Int)) = j_ := ⟨_, rfl⟩
    replace H : (if 0 ≤ (ji4) then (if (ji4) < (y101.length : Int) then (laws_nameOf.l0 k a1 (rdOf ByteArray.empty y101 (ji4)) (⟨#[]⟩ : ByteArray) ((rdOf ByteArray.empty y101 (ji4)).size : Int) 0) else (none)) else (none)) = some (r1, r2) := by first | (rw [hji4] at H; exact H) | (simp only [hji4] at H ⊢; exact H)
    by_cases c5 : 0 ≤ (ji4)
    · rw [if_pos c5] at H
      have c5b0 : decide (0 ≤ (ji4)) = true := decide_eq_true c5
      clear c5
      by_cases c6 : (ji4) < (y101.length : Int)
      · rw [if_pos c6] at H
        have c6b0 : decide ((ji4) < (y101.length : Int)) = true := decide_eq_true c6
        clear c6
        have H' := Aside0.mk H
        clear H
        go_enter Tryd.func4, Tryd.ntmps4
        go_wp2_with (first | ((with_reducible refine gate_dst (N := 11) rfl ?_); refine Kd.R_lit Kd.string _ 9 ?hg (N := 11) ?hd (xs := ([(⟨#[]⟩ : ByteArray), (⟨#[98]⟩ : ByteArray), (⟨#[107, 98]⟩ : ByteArray), (⟨#[109, 98]⟩ : ByteArray), (⟨#[103, 98]⟩ : ByteArray), (⟨#[116, 98]⟩ : ByteArray), (⟨#[112, 98]⟩ : ByteArray), (⟨#[101, 98]⟩ : ByteArray), (⟨#[107, 105, 98]⟩ : ByteArray), (⟨#[109, 105, 98]⟩ : ByteArray), (⟨#[103, 105, 98]⟩ : ByteArray), (⟨#[116, 105, 98]⟩ : ByteArray), (⟨#[112, 105, 98]⟩ : ByteArray), (⟨#[101, 105, 98]⟩ : ByteArray), (⟨#[107]⟩ : ByteArray), (⟨#[109]⟩ : ByteArray), (⟨#[103]⟩ : ByteArray), (⟨#[116]⟩ : ByteArray), (⟨#[112]⟩ : ByteArray), (⟨#[101]⟩ : ByteArray), (⟨#[107, 105]⟩ : ByteArray), (⟨#[109, 105]⟩ : ByteArray), (⟨#[103, 105]⟩ : ByteArray), (⟨#[116, 105]⟩ : ByteArray), (⟨#[112, 105]⟩ : ByteArray), (⟨#[101, 105]⟩ : ByteArray), (⟨#[113]⟩ : ByteArray), (⟨#[98, 98]⟩ : ByteArray), (⟨#[107, 98, 105]⟩ : ByteArray)] : List ByteArray)) (inner := [.string (⟨#[]⟩ : ByteArray), .string (⟨#[98]⟩ : ByteArray), .string (⟨#[107, 98]⟩ : ByteArray), .string (⟨#[109, 98]⟩ : ByteArray), .string (⟨#[103, 98]⟩ : ByteArray), .string (⟨#[116, 98]⟩ : ByteArray), .string (⟨#[112, 98]⟩ : ByteArray), .string (⟨#[101, 98]⟩ : ByteArray), .string (⟨#[107, 105, 98]⟩ : ByteArray), .string (⟨#[109, 105, 98]⟩ : ByteArray), .string (⟨#[103, 105, 98]⟩ : ByteArray), .string (⟨#[116, 105, 98]⟩ : ByteArray), .string (⟨#[112, 105, 98]⟩ : ByteArray), .string (⟨#[101, 105, 98]⟩ : ByteArray), .string (⟨#[107]⟩ : ByteArray), .string (⟨#[109]⟩ : ByteArray), .string (⟨#[103]⟩ : ByteArray), .string (⟨#[116]⟩ : ByteArray), .string (⟨#[112]⟩ : ByteArray), .string (⟨#[101]⟩ : ByteArray), .string (⟨#[107, 105]⟩ : ByteArray), .string (⟨#[109, 105]⟩ : ByteArray), .string (⟨#[103, 105]⟩ : ByteArray), .string (⟨#[116, 105]⟩ : ByteArray), .string (⟨#[112, 105]⟩ : ByteArray), .string (⟨#[101, 105]⟩ : ByteArray), .string (⟨#[113]⟩ : ByteArray), .string (⟨#[98, 98]⟩ : ByteArray), .string (⟨#[107, 98, 105]⟩ : ByteArray)]) (ok := fun _ => True) (okp := fun _ => True) ?hr ?hp (fun _ hk => hk) trivial (Below.refl _ _) (Nat.le_refl _) (by simp) ?_; (case hd => rfl); (case hg => rfl); (case hr => first | (go_simp; done) | (go_simp; rfl)); (case hp => exact (Reps.one (show Kd.M Kd.string _ _ _ (⟨#[]⟩ : ByteArray) [.string (⟨#[]⟩ : ByteArray)] from rfl) (Reps.one (show Kd.M Kd.string _ _ _ (⟨#[98]⟩ : ByteArray) [.string (⟨#[98]⟩ : ByteArray)] from rfl) (Reps.one (show Kd.M Kd.string _ _ _ (⟨#[107, 98]⟩ : ByteArray) [.string (⟨#[107, 98]⟩ : ByteArray)] from rfl) (Reps.one (show Kd.M Kd.string _ _ _ (⟨#[109, 98]⟩ : ByteArray) [.string (⟨#[109, 98]⟩ : ByteArray)] from rfl) (Reps.one (show Kd.M Kd.string _ _ _ (⟨#[103, 98]⟩ : ByteArray) [.string (⟨#[103, 98]⟩ : ByteArray)] from rfl) (Reps.one (show Kd.M Kd.string _ _ _ (⟨#[116, 98]⟩ : ByteArray) [.string (⟨#[116, 98]⟩ : ByteArray)] from rfl) (Reps.one (show Kd.M Kd.string _ _ _ (⟨#[112, 98]⟩ : ByteArray) [.string (⟨#[112, 98]⟩ : ByteArray)] from rfl) (Reps.one (show Kd.M Kd.string _ _ _ (⟨#[101, 98]⟩ : ByteArray) [.string (⟨#[101, 98]⟩ : ByteArray)] from rfl) (Reps.one (show Kd.M Kd.string _ _ _ (⟨#[107, 105, 98]⟩ : ByteArray) [.string (⟨#[107, 105, 98]⟩ : ByteArray)] from rfl) (Reps.one (show Kd.M Kd.string _ _ _ (⟨#[109, 105, 98]⟩ : ByteArray) [.string (⟨#[109, 105, 98]⟩ : ByteArray)] from rfl) (Reps.one (show Kd.M Kd.string _ _ _ (⟨#[103, 105, 98]⟩ : ByteArray) [.string (⟨#[103, 105, 98]⟩ : ByteArray)] from rfl) (Reps.one (show Kd.M Kd.string _ _ _ (⟨#[116, 105, 98]⟩ : ByteArray) [.string (⟨#[116, 105, 98]⟩ : ByteArray)] from rfl) (Reps.one (show Kd.M Kd.string _ _ _ (⟨#[112, 105, 98]⟩ : ByteArray) [.string (⟨#[112, 105, 98]⟩ : ByteArray)] from rfl) (Reps.one (show Kd.M Kd.string _ _ _ (⟨#[101, 105, 98]⟩ : ByteArray) [.string (⟨#[101, 105, 98]⟩ : ByteArray)] from rfl) (Reps.one (show Kd.M Kd.string _ _ _ (⟨#[107]⟩ : ByteArray) [.string (⟨#[107]⟩ : ByteArray)] from rfl) (Reps.one (show Kd.M Kd.string _ _ _ (⟨#[109]⟩ : ByteArray) [.string (⟨#[109]⟩ : ByteArray)] from rfl) (Reps.one (show Kd.M Kd.string _ _ _ (⟨#[103]⟩ : ByteArray) [.string (⟨#[103]⟩ : ByteArray)] from rfl) (Reps.one (show Kd.M Kd.string _ _ _ (⟨#[116]⟩ : ByteArray) [.string (⟨#[116]⟩ : ByteArray)] from rfl) (Reps.one (show Kd.M Kd.string _ _ _ (⟨#[112]⟩ : ByteArray) [.string (⟨#[112]⟩ : ByteArray)] from rfl) (Reps.one (show Kd.M Kd.string _ _ _ (⟨#[101]⟩ : ByteArray) [.string (⟨#[101]⟩ : ByteArray)] from rfl) (Reps.one (show Kd.M Kd.string _ _ _ (⟨#[107, 105]⟩ : ByteArray) [.string (⟨#[107, 105]⟩ : ByteArray)] from rfl) (Reps.one (show Kd.M Kd.string _ _ _ (⟨#[109, 105]⟩ : ByteArray) [.string (⟨#[109, 105]⟩ : ByteArray)] from rfl) (Reps.one (show Kd.M Kd.string _ _ _ (⟨#[103, 105]⟩ : ByteArray) [.string (⟨#[103, 105]⟩ : ByteArray)] from rfl) (Reps.one (show Kd.M Kd.string _ _ _ (⟨#[116, 105]⟩ : ByteArray) [.string (⟨#[116, 105]⟩ : ByteArray)] from rfl) (Reps.one (show Kd.M Kd.string _ _ _ (⟨#[112, 105]⟩ : ByteArray) [.string (⟨#[112, 105]⟩ : ByteArray)] from rfl) (Reps.one (show Kd.M Kd.string _ _ _ (⟨#[101, 105]⟩ : ByteArray) [.string (⟨#[101, 105]⟩ : ByteArray)] from rfl) (Reps.one (show Kd.M Kd.string _ _ _ (⟨#[113]⟩ : ByteArray) [.string (⟨#[113]⟩ : ByteArray)] from rfl) (Reps.one (show Kd.M Kd.string _ _ _ (⟨#[98, 98]⟩ : ByteArray) [.string (⟨#[98, 98]⟩ : ByteArray)] from rfl) (Reps.one (show Kd.M Kd.string _ _ _ (⟨#[107, 98, 105]⟩ : ByteArray) [.string (⟨#[107, 98, 105]⟩ : ByteArray)] from rfl) (Reps.none _ _))))))))))))))))))))))))))))))); intro v102 w7 ho8 hb hg_ hnew_; clear hg_ hnew_; (first | rw [← Ny101.out] at ho8 | (simp only [Int.reduceToNat] at ho8; rw [← Ny101.out] at ho8)); have n0_ := Aside0.mk (Kd.R_lower ho8 (below_size (by repeat (first | (with_reducible first | exact HB.out | apply below_alloc | apply pw_below_drewN | apply below_drew1) | exact HB.out)))); have n1_ := Aside0.mk (below_step (by repeat (first | (with_reducible first | exact HB.out | apply below_alloc | apply pw_below_drewN | apply below_drew1) | exact HB.out)) hb); clear HB; have HO103 := n0_; have HB := n1_; clear n0_ n1_; clear hb ho8; obtain ⟨Ao9, co9, eo9⟩ := Kd.R_slice HO103.out; subst eo9; have p104 : 0 ≤ ((ji4) : Int) := of_decide_eq_true (by first | (with_reducible assumption) | assumption); have q104 : (ji4) < (y101.length : Int) := of_decide_eq_true (by first | (with_reducible assumption) | assumption); obtain ⟨ad104, e104, hx104_0⟩ := Kd.at_string (Kd.R_reads' HO103.out).2.2 (ji4) p104 q104; cases e104; replace p104 := eq_true p104; replace q104 := eq_true q104))
        go_loopg [8, 22] k (fun kq v8 v22 w' => ∃ (x8_1 : ByteArray) (x22_1 : Int), v8 = .string x8_1 ∧ v22 = .int .i64 x22_1 ∧ Aside0 (laws_nameOf.l0 kq a1 (rdOf ByteArray.empty y101 (ji4)) x8_1 ((rdOf ByteArray.empty y101 (ji4)).size : Int) x22_1 = some (r1, r2)) ∧ Aside0 (kq ≤ k) ∧ Aside0 (Below w.heap.size w w'))
        case atStart => exact ⟨((⟨#[]⟩ : ByteArray)), (0), (by first | rfl | (simp; done) | (simp [*]; done)), (by first | rfl | (simp; done) | (simp [*]; done)), H', ⟨Nat.le_refl _⟩, ⟨by repeat (first | (with_reducible first | exact HB.out | apply below_alloc | apply pw_below_drewN | apply below_drew1) | exact HB.out)⟩⟩
        case round =>
          clear H'
          try clear p1
          try clear q1
          try clear hx1
          try clear p2
          try clear c3
          try clear c3b0
          try clear c3b1
          try clear c3b2
          try clear c4
          try clear c5
          try clear c5b0
          try clear c6
          try clear c6b0
          try clear p6
          try clear hx104_0
          try clear p104
          try clear q104
          obtain ⟨x8_1, x22_1, rfl, rfl, HA, HK1, HB⟩ := hrel
          cases gk with
          | zero => exact absurd HA.out (by simp [laws_nameOf.l0])
          | succ k1 =>
            have H := HA.out
            clear HA
            simp only [laws_nameOf.l0] at H
            by_cases c10 : x22_1 < ((rdOf ByteArray.empty y101 (ji4)).size : Int)
            · rw [if_pos c10] at H
              have c10b0 : decide (x22_1 < ((rdOf ByteArray.empty y101 (ji4)).size : Int)) = true := decide_eq_true c10
              clear c10
              by_cases c11 : 0 ≤ x22_1
              · rw [if_pos c11] at H
                have c11b0 : decide (0 ≤ x22_1) = true := decide_eq_true c11
                clear c11
                by_cases c12 : x22_1 < ((rdOf ByteArray.empty y101 (ji4)).size : Int)
                · rw [if_pos c12] at H
                  have c12b0 : decide (x22_1 < ((rdOf ByteArray.empty y101 (ji4)).size : Int)) = true := decide_eq_true c12
                  clear c12
                  have c14b0 := eq_true (of_decide_eq_true (by first | (with_reducible assumption) | assumption) : 0 ≤ x22_1)
                  obtain ⟨ji15, hji15⟩ : ∃ j_ : Int, (shr .u8 a1 x22_1) = j_ := ⟨_, rfl⟩
                  replace H : (if (Go.bits .and .u8 (ji15) 1) = 1 then (if x8_1.size + (Utf8.encode (((bt (rdOf ByteArray.empty y101 (ji4)) x22_1) - 32) % 256)).size ≤ 9223372036854775807 then (laws_nameOf.l0 k1 a1 (rdOf ByteArray.empty y101 (ji4)) (x8_1 ++ (Utf8.encode (((bt (rdOf ByteArray.empty y101 (ji4)) x22_1) - 32) % 256))) ((rdOf ByteArray.empty y101 (ji4)).size : Int) (wrap64 (x22_1 + 1))) else (none)) else (if x8_1.size + (Utf8.encode (wrap32 (bt (rdOf ByteArray.empty y101 (ji4)) x22_1))).size ≤ 9223372036854775807 then (laws_nameOf.l0 k1 a1 (rdOf ByteArray.empty y101 (ji4)) (x8_1 ++ (Utf8.encode (wrap32 (bt (rdOf ByteArray.empty y101 (ji4)) x22_1)))) ((rdOf ByteArray.empty y101 (ji4)).size : Int) (wrap64 (x22_1 + 1))) else (none))) = some (r1, r2) := by first | (rw [hji15] at H; exact H) | (simp only [hji15] at H ⊢; exact H)
                  have hji15_ : (a1 / 2 ^ min x22_1.toNat 8) = ji15 := hji15
                  have hji15z : x22_1 ≤ 8 → (a1 / 2 ^ x22_1.toNat) = ji15 := shr_small hji15
                  by_cases c16 : (Go.bits .and .u8 (ji15) 1) = 1
                  · rw [if_pos c16] at H
                    have c16b0 : ((Go.bits .and .u8 (ji15) 1) == 1) = true := beq_iff_eq.mpr c16
                    have c16b1 : ((Go.bits .and .u8 (ji15) 1) != 1) = false := bne_eq_false_iff_eq.mpr c16
                    clear c16
                    by_cases c17 : x8_1.size + (Utf8.encode (((bt (rdOf ByteArray.empty y101 (ji4)) x22_1) - 32) % 256)).size ≤ 9223372036854775807
                    · rw [if_pos c17] at H
                      have c17b0 := eq_true c17
                      have c17b1 : decide (x8_1.size + (Utf8.encode (((bt (rdOf ByteArray.empty y101 (ji4)) x22_1) - 32) % 256)).size ≤ 9223372036854775807) = true := decide_eq_true c17
                      try have c17b2 : (9223372036854775807 < x8_1.size + (Utf8.encode (((bt (rdOf ByteArray.empty y101 (ji4)) x22_1) - 32) % 256)).size) = False := eq_false (Nat.not_lt.2 c17)
                      have H' := Aside0.mk H
                      clear H
                      have p13 : 0 ≤ (x22_1 : Int) := of_decide_eq_true (by first | (with_reducible assumption) | assumption)
                      have q13 : x22_1 < ((rdOf ByteArray.empty y101 (ji4)).size : Int) := of_decide_eq_true (by first | (with_reducible assumption) | assumption)
                      have hx13 := bt_at (rdOf ByteArray.empty y101 (ji4)) x22_1
                      replace p13 := eq_true p13
                      replace q13 := eq_true q13
                      go_wp2
                      go_roundg k1
                      case measure => have := HK1.out; omega
                      case rel => exact ⟨(x8_1 ++ (Utf8.encode (((bt (rdOf ByteArray.empty y101 (ji4)) x22_1) - 32) % 256))), (wrap64 (x22_1 + 1)), (by first | rfl | (simp; done) | (simp only [← hji4] <;> (first | rfl | simp)) | (simp [*]; done)), (by first | rfl | (simp; done) | (simp [*]; done)), H', ⟨by have := HK1.out; omega⟩, ⟨by repeat (first | (with_reducible first | exact HB.out | apply below_alloc | apply pw_below_drewN | apply below_drew1) | exact HB.out)⟩⟩
                    · rw [if_neg c17] at H
                      exact absurd H (by simp)
                  · rw [if_neg c16] at H
                    have c16b0 : ((Go.bits .and .u8 (ji15) 1) == 1) = false := beq_eq_false_iff_ne.mpr c16
                    have c16b1 : ((Go.bits .and .u8 (ji15) 1) != 1) = true := bne_iff_ne.mpr c16
                    by_cases c18 : x8_1.size + (Utf8.encode (wrap32 (bt (rdOf ByteArray.empty y101 (ji4)) x22_1))).size ≤ 9223372036854775807
                    · rw [if_pos c18] at H
                      have c18b0 := eq_true c18
                      have c18b1 : decide (x8_1.size + (Utf8.encode (wrap32 (bt (rdOf ByteArray.empty y101 (ji4)) x22_1))).size ≤ 9223372036854775807) = true := decide_eq_true c18
                      try have c18b2 : (9223372036854775807 < x8_1.size + (Utf8.encode (wrap32 (bt (rdOf ByteArray.empty y101 (ji4)) x22_1))).size) = False := eq_false (Nat.not_lt.2 c18)
                      have H' := Aside0.mk H
                      clear H
                      have p13 : 0 ≤ (x22_1 : Int) := of_decide_eq_true (by first | (with_reducible assumption) | assumption)
                      have q13 : x22_1 < ((rdOf ByteArray.empty y101 (ji4)).size : Int) := of_decide_eq_true (by first | (with_reducible assumption) | assumption)
                      have hx13 := bt_at (rdOf ByteArray.empty y101 (ji4)) x22_1
                      replace p13 := eq_true p13
                      replace q13 := eq_true q13
                      go_wp2
                      go_roundg k1
                      case measure => have := HK1.out; omega
                      case rel => exact ⟨(x8_1 ++ (Utf8.encode (wrap32 (bt (rdOf ByteArray.empty y101 (ji4)) x22_1)))), (wrap64 (x22_1 + 1)), (by first | rfl | (simp; done) | (simp only [← hji4] <;> (first | rfl | simp)) | (simp [*]; done)), (by first | rfl | (simp; done) | (simp [*]; done)), H', ⟨by have := HK1.out; omega⟩, ⟨by repeat (first | (with_reducible first | exact HB.out | apply below_alloc | apply pw_below_drewN | apply below_drew1) | exact HB.out)⟩⟩
                    · rw [if_neg c18] at H
                      exact absurd H (by simp)
                · rw [if_neg c12] at H
                  exact absurd H (by simp)
              · rw [if_neg c11] at H
                exact absurd H (by simp)
            · rw [if_neg c10] at H
              have c10b0 : decide (x22_1 < ((rdOf ByteArray.empty y101 (ji4)).size : Int)) = false := decide_eq_false c10
              clear c10
              simp only [Option.some.injEq, Prod.mk.injEq] at H
              obtain ⟨rfl, rfl⟩ := H
              go_wp2
              go_ret2
              exact ⟨by first | rfl | (simp [errW_none, errW_some] <;> rfl) | (simp only [← hji4]; first | rfl | (simp [errW_none, errW_some] <;> rfl)) | (simp [*, errW_none, errW_some] <;> rfl), by repeat (first | (with_reducible first | exact HB.out | apply below_alloc | apply pw_below_drewN | apply below_drew1) | exact HB.out)⟩
      · rw [if_neg c6] at H
        exact absurd H (by simp)
    · rw [if_neg c5] at H
      exact absurd H (by simp)

/-! ### humanize_bytesSizeTable: function 16 -/
def humanize_bytesSizeTable.f (a0 : ByteArray) : Option (Int × Bool) := if a0.toList = ([98] : List UInt8) then (some (1, true)) else (if a0.toList = ([107, 105, 98] : List UInt8) then (some (1024, true)) else (if a0.toList = ([107, 98] : List UInt8) then (some (1000, true)) else (if a0.toList = ([109, 105, 98] : List UInt8) then (some (1048576, true)) else (if a0.toList = ([109, 98] : List UInt8) then (some (1000000, true)) else (if a0.toList = ([103, 105, 98] : List UInt8) then (some (1073741824, true)) else (if a0.toList = ([103, 98] : List UInt8) then (some (1000000000, true)) else (if a0.toList = ([116, 105, 98] : List UInt8) then (some (1099511627776, true)) else (if a0.toList = ([116, 98] : List UInt8) then (some (1000000000000, true)) else (if a0.toList = ([112, 105, 98] : List UInt8) then (some (1125899906842624, true)) else (if a0.toList = ([112, 98] : List UInt8) then (some (1000000000000000, true)) else (if a0.toList = ([101, 105, 98] : List UInt8) then (some (1152921504606846976, true)) else (if a0.toList = ([101, 98] : List UInt8) then (some (1000000000000000000, true)) else (if a0.toList = ([] : List UInt8) then (some (1, true)) else (if a0.toList = ([107, 105] : List UInt8) then (some (1024, true)) else (if a0.toList = ([107] : List UInt8) then (some (1000, true)) else (if a0.toList = ([109, 105] : List UInt8) then (some (1048576, true)) else (if a0.toList = ([109] : List UInt8) then (some (1000000, true)) else (if a0.toList = ([103, 105] : List UInt8) then (some (1073741824, true)) else (if a0.toList = ([103] : List UInt8) then (some (1000000000, true)) else (if a0.toList = ([116, 105] : List UInt8) then (some (1099511627776, true)) else (if a0.toList = ([116] : List UInt8) then (some (1000000000000, true)) else (if a0.toList = ([112, 105] : List UInt8) then (some (1125899906842624, true)) else (if a0.toList = ([112] : List UInt8) then (some (1000000000000000, true)) else (if a0.toList = ([101, 105] : List UInt8) then (some (1152921504606846976, true)) else (if a0.toList = ([101] : List UInt8) then (some (1000000000000000000, true)) else (some (0, false)))))))))))))))))))))))))))
set_option maxHeartbeats 8000000 in
set_option maxRecDepth 100000 in
theorem humanize_bytesSizeTable.calls (a0 : ByteArray) (r1 : Int) (r2 : Bool) (w : World) (h : humanize_bytesSizeTable.f a0 = some (r1, r2)) :
    Calls Tryd.prog 16 #[.string a0] w fun e w' => e = .returned (.tuple #[.int .u64 r1, .bool r2]) ∧ Drawn0 w w' := by
  have H : (if a0.toList = ([98] : List UInt8) then (some (1, true)) else (if a0.toList = ([107, 105, 98] : List UInt8) then (some (1024, true)) else (if a0.toList = ([107, 98] : List UInt8) then (some (1000, true)) else (if a0.toList = ([109, 105, 98] : List UInt8) then (some (1048576, true)) else (if a0.toList = ([109, 98] : List UInt8) then (some (1000000, true)) else (if a0.toList = ([103, 105, 98] : List UInt8) then (some (1073741824, true)) else (if a0.toList = ([103, 98] : List UInt8) then (some (1000000000, true)) else (if a0.toList = ([116, 105, 98] : List UInt8) then (some (1099511627776, true)) else (if a0.toList = ([116, 98] : List UInt8) then (some (1000000000000, true)) else (if a0.toList = ([112, 105, 98] : List UInt8) then (some (1125899906842624, true)) else (if a0.toList = ([112, 98] : List UInt8) then (some (1000000000000000, true)) else (if a0.toList = ([101, 105, 98] : List UInt8) then (some (1152921504606846976, true)) else (if a0.toList = ([101, 98] : List UInt8) then (some (1000000000000000000, true)) else (if a0.toList = ([] : List UInt8) then (some (1, true)) else (if a0.toList = ([107, 105] : List UInt8) then (some (1024, true)) else (if a0.toList = ([107] : List UInt8) then (some (1000, true)) else (if a0.toList = ([109, 105] : List UInt8) then (some (1048576, true)) else (if a0.toList = ([109] : List UInt8) then (some (1000000, true)) else (if a0.toList = ([103, 105] : List UInt8) then (some (1073741824, true)) else (if a0.toList = ([103] : List UInt8) then (some (1000000000, true)) else (if a0.toList = ([116, 105] : List UInt8) then (some (1099511627776, true)) else (if a0.toList = ([116] : List UInt8) then (some (1000000000000, true)) else (if a0.toList = ([112, 105] : List UInt8) then (some (1125899906842624, true)) else (if a0.toList = ([112] : List UInt8) then (some (1000000000000000, true)) else (if a0.toList = ([101, 105] : List UInt8) then (some (1152921504606846976, true)) else (if a0.toList = ([101] : List UInt8) then (some (1000000000000000000, true)) else (some (0, false)))))))))))))))))))))))))))) = some (r1, r2) := h
  clear h
  by_cases c2 : a0.toList = ([98] : List UInt8)
  · rw [if_pos c2] at H
    have c2b0 : (a0.toList == ([98] : List UInt8)) = true := beq_iff_eq.mpr c2
    have c2b1 : (a0.toList != ([98] : List UInt8)) = false := bne_eq_false_iff_eq.mpr c2
    clear c2
    simp only [Option.some.injEq, Prod.mk.injEq] at H
    obtain ⟨rfl, rfl⟩ := H
    go_enter Tryd.func16, Tryd.ntmps16
    go_wp2
    go_ret2
    exact ⟨by first | rfl | (simp; done) | (simp [*]; done), by repeat (first | exact Drawn0.refl _ | apply Drawn0.step)⟩
  · rw [if_neg c2] at H
    have c2b0 : (a0.toList == ([98] : List UInt8)) = false := beq_eq_false_iff_ne.mpr c2
    have c2b1 : (a0.toList != ([98] : List UInt8)) = true := bne_iff_ne.mpr c2
    by_cases c3 : a0.toList = ([107, 105, 98] : List UInt8)
    · rw [if_pos c3] at H
      have c3b0 : (a0.toList == ([107, 105, 98] : List UInt8)) = true := beq_iff_eq.mpr c3
      have c3b1 : (a0.toList != ([107, 105, 98] : List UInt8)) = false := bne_eq_false_iff_eq.mpr c3
      clear c3
      simp only [Option.some.injEq, Prod.mk.injEq] at H
      obtain ⟨rfl, rfl⟩ := H
      go_enter Tryd.func16, Tryd.ntmps16
      go_wp2
      go_ret2
      exact ⟨by first | rfl | (simp; done) | (simp [*]; done), by repeat (first | exact Drawn0.refl _ | apply Drawn0.step)⟩
    · rw [if_neg c3] at H
      have c3b0 : (a0.toList == ([107, 105, 98] : List UInt8)) = false := beq_eq_false_iff_ne.mpr c3
      have c3b1 : (a0.toList != ([107, 105, 98] : List UInt8)) = true := bne_iff_ne.mpr c3
      by_cases c4 : a0.toList = ([107, 98] : List UInt8)
      · rw [if_pos c4] at H
        have c4b0 : (a0.toList == ([107, 98] : List UInt8)) = true := beq_iff_eq.mpr c4
        have c4b1 : (a0.toList != ([107, 98] : List UInt8)) = false := bne_eq_false_iff_eq.mpr c4
        clear c4
        simp only [Option.some.injEq, Prod.mk.injEq] at H
        obtain ⟨rfl, rfl⟩ := H
        go_enter Tryd.func16, Tryd.ntmps16
        go_wp2
        go_ret2
        exact ⟨by first | rfl | (simp; done) | (simp [*]; done), by repeat (first | exact Drawn0.refl _ | apply Drawn0.step)⟩
      · rw [if_neg c4] at H
        have c4b0 : (a0.toList == ([107, 98] : List UInt8)) = false := beq_eq_false_iff_ne.mpr c4
        have c4b1 : (a0.toList != ([107, 98] : List UInt8)) = true := bne_iff_ne.mpr c4
        by_cases c5 : a0.toList = ([109, 105, 98] : List UInt8)
        · rw [if_pos c5] at H
          have c5b0 : (a0.toList == ([109, 105, 98] : List UInt8)) = true := beq_iff_eq.mpr c5
          have c5b1 : (a0.toList != ([109, 105, 98] : List UInt8)) = false := bne_eq_false_iff_eq.mpr c5
          clear c5
          simp only [Option.some.injEq, Prod.mk.injEq] at H
          obtain ⟨rfl, rfl⟩ := H
          go_enter Tryd.func16, Tryd.ntmps16
          go_wp2
          go_ret2
          exact ⟨by first | rfl | (simp; done) | (simp [*]; done), by repeat (first | exact Drawn0.refl _ | apply Drawn0.step)⟩
        · rw [if_neg c5] at H
          have c5b0 : (a0.toList == ([109, 105, 98] : List UInt8)) = false := beq_eq_false_iff_ne.mpr c5
          have c5b1 : (a0.toList != ([109, 105, 98] : List UInt8)) = true := bne_iff_ne.mpr c5
          by_cases c6 : a0.toList = ([109, 98] : List UInt8)
          · rw [if_pos c6] at H
            have c6b0 : (a0.toList == ([109, 98] : List UInt8)) = true := beq_iff_eq.mpr c6
            have c6b1 : (a0.toList != ([109, 98] : List UInt8)) = false := bne_eq_false_iff_eq.mpr c6
            clear c6
            simp only [Option.some.injEq, Prod.mk.injEq] at H
            obtain ⟨rfl, rfl⟩ := H
            go_enter Tryd.func16, Tryd.ntmps16
            go_wp2
            go_ret2
            exact ⟨by first | rfl | (simp; done) | (simp [*]; done), by repeat (first | exact Drawn0.refl _ | apply Drawn0.step)⟩
          · rw [if_neg c6] at H
            have c6b0 : (a0.toList == ([109, 98] : List UInt8)) = false := beq_eq_false_iff_ne.mpr c6
            have c6b1 : (a0.toList != ([109, 98] : List UInt8)) = true := bne_iff_ne.mpr c6
            by_cases c7 : a0.toList = ([103, 105, 98] : List UInt8)
            · rw [if_pos c7] at H
              have c7b0 : (a0.toList == ([103, 105, 98] : List UInt8)) = true := beq_iff_eq.mpr c7
              have c7b1 : (a0.toList != ([103, 105, 98] : List UInt8)) = false := bne_eq_false_iff_eq.mpr c7
              clear c7
              simp only [Option.some.injEq, Prod.mk.injEq] at H
              obtain ⟨rfl, rfl⟩ := H
              go_enter Tryd.func16, Tryd.ntmps16
              go_wp2
              go_ret2
              exact ⟨by first | rfl | (simp; done) | (simp [*]; done), by repeat (first | exact Drawn0.refl _ | apply Drawn0.step)⟩
            · rw [if_neg c7] at H
              have c7b0 : (a0.toList == ([103, 105, 98] : List UInt8)) = false := beq_eq_false_iff_ne.mpr c7
              have c7b1 : (a0.toList != ([103, 105, 98] : List UInt8)) = true := bne_iff_ne.mpr c7
              by_cases c8 : a0.toList = ([103, 98] : List UInt8)
              · rw [if_pos c8] at H
                have c8b0 : (a0.toList == ([103, 98] : List UInt8)) = true := beq_iff_eq.mpr c8
                have c8b1 : (a0.toList != ([103, 98] : List UInt8)) = false := bne_eq_false_iff_eq.mpr c8
                clear c8
                simp only [Option.some.injEq, Prod.mk.injEq] at H
                obtain ⟨rfl, rfl⟩ := H
                go_enter Tryd.func16, Tryd.ntmps16
                go_wp2
                go_ret2
                exact ⟨by first | rfl | (simp; done) | (simp [*]; done), by repeat (first | exact Drawn0.refl _ | apply Drawn0.step)⟩
              · rw [if_neg c8] at H
                have c8b0 : (a0.toList == ([103, 98] : List UInt8)) = false := beq_eq_false_iff_ne.mpr c8
                have c8b1 : (a0.toList != ([103, 98] : List UInt8)) = true := bne_iff_ne.mpr c8
                by_cases c9 : a0.toList = ([116, 105, 98] : List UInt8)
                · rw [if_pos c9] at H
                  have c9b0 : (a0.toList == ([116, 105, 98] : List UInt8)) = true := beq_iff_eq.mpr c9
                  have c9b1 : (a0.toList != ([116, 105, 98] : List UInt8)) = false := bne_eq_false_iff_eq.mpr c9
                  clear c9
                  simp only [Option.some.injEq, Prod.mk.injEq] at H
                  obtain ⟨rfl, rfl⟩ := H
                  go_enter Tryd.func16, Tryd.ntmps16
                  go_wp2
                  go_ret2
                  exact ⟨by first | rfl | (simp; done) | (simp [*]; done), by repeat (first | exact Drawn0.refl _ | apply Drawn0.step)⟩
                · rw [if_neg c9] at H
                  have c9b0 : (a0.toList == ([116, 105, 98] : List UInt8)) = false := beq_eq_false_iff_ne.mpr c9
                  have c9b1 : (a0.toList != ([116, 105, 98] : List UInt8)) = true := bne_iff_ne.mpr c9
                  by_cases c10 : a0.toList = ([116, 98] : List UInt8)
                  · rw [if_pos c10] at H
                    have c10b0 : (a0.toList == ([116, 98] : List UInt8)) = true := beq_iff_eq.mpr c10
                    have c10b1 : (a0.toList != ([116, 98] : List UInt8)) = false := bne_eq_false_iff_eq.mpr c10
                    clear c10
                    simp only [Option.some.injEq, Prod.mk.injEq] at H
                    obtain ⟨rfl, rfl⟩ := H
                    go_enter Tryd.func16, Tryd.ntmps16
                    go_wp2
                    go_ret2
                    exact ⟨by first | rfl | (simp; done) | (simp [*]; done), by repeat (first | exact Drawn0.refl _ | apply Drawn0.step)⟩
                  · rw [if_neg c10] at H
                    have c10b0 : (a0.toList == ([116, 98] : List UInt8)) = false := beq_eq_false_iff_ne.mpr c10
                    have c10b1 : (a0.toList != ([116, 98] : List UInt8)) = true := bne_iff_ne.mpr c10
                    by_cases c11 : a0.toList = ([112, 105, 98] : List UInt8)
                    · rw [if_pos c11] at H
                      have c11b0 : (a0.toList == ([112, 105, 98] : List UInt8)) = true := beq_iff_eq.mpr c11
                      have c11b1 : (a0.toList != ([112, 105, 98] : List UInt8)) = false := bne_eq_false_iff_eq.mpr c11
                      clear c11
                      simp only [Option.some.injEq, Prod.mk.injEq] at H
                      obtain ⟨rfl, rfl⟩ := H
                      go_enter Tryd.func16, Tryd.ntmps16
                      go_wp2
                      go_ret2
                      exact ⟨by first | rfl | (simp; done) | (simp [*]; done), by repeat (first | exact Drawn0.refl _ | apply Drawn0.step)⟩
                    · rw [if_neg c11] at H
                      have c11b0 : (a0.toList == ([112, 105, 98] : List UInt8)) = false := beq_eq_false_iff_ne.mpr c11
                      have c11b1 : (a0.toList != ([112, 105, 98] : List UInt8)) = true := bne_iff_ne.mpr c11
                      by_cases c12 : a0.toList = ([112, 98] : List UInt8)
                      · rw [if_pos c12] at H
                        have c12b0 : (a0.toList == ([112, 98] : List UInt8)) = true := beq_iff_eq.mpr c12
                        have c12b1 : (a0.toList != ([112, 98] : List UInt8)) = false := bne_eq_false_iff_eq.mpr c12
                        clear c12
                        simp only [Option.some.injEq, Prod.mk.injEq] at H
                        obtain ⟨rfl, rfl⟩ := H
                        go_enter Tryd.func16, Tryd.ntmps16
                        go_wp2
                        go_ret2
                        exact ⟨by first | rfl | (simp; done) | (simp [*]; done), by repeat (first | exact Drawn0.refl _ | apply Drawn0.step)⟩
                      · rw [if_neg c12] at H
                        have c12b0 : (a0.toList == ([112, 98] : List UInt8)) = false := beq_eq_false_iff_ne.mpr c12
                        have c12b1 : (a0.toList != ([112, 98] : List UInt8)) = true := bne_iff_ne.mpr c12
                        by_cases c13 : a0.toList = ([101, 105, 98] : List UInt8)
                        · rw [if_pos c13] at H
                          have c13b0 : (a0.toList == ([101, 105, 98] : List UInt8)) = true := beq_iff_eq.mpr c13
                          have c13b1 : (a0.toList != ([101, 105, 98] : List UInt8)) = false := bne_eq_false_iff_eq.mpr c13
                          clear c13
                          simp only [Option.some.injEq, Prod.mk.injEq] at H
                          obtain ⟨rfl, rfl⟩ := H
                          go_enter Tryd.func16, Tryd.ntmps16
                          go_wp2
                          go_ret2
                          exact ⟨by first | rfl | (simp; done) | (simp [*]; done), by repeat (first | exact Drawn0.refl _ | apply Drawn0.step)⟩
                        · rw [if_neg c13] at H
                          have c13b0 : (a0.toList == ([101, 105, 98] : List UInt8)) = false := beq_eq_false_iff_ne.mpr c13
                          have c13b1 : (a0.toList != ([101, 105, 98] : List UInt8)) = true := bne_iff_ne.mpr c13
                          by_cases c14 : a0.toList = ([101, 98] : List UInt8)
                          · rw [if_pos c14] at H
                            have c14b0 : (a0.toList == ([101, 98] : List UInt8)) = true := beq_iff_eq.mpr c14
                            have c14b1 : (a0.toList != ([101, 98] : List UInt8)) = false := bne_eq_false_iff_eq.mpr c14
                            clear c14
                            simp only [Option.some.injEq, Prod.mk.injEq] at H
                            obtain ⟨rfl, rfl⟩ := H
                            go_enter Tryd.func16, Tryd.ntmps16
                            go_wp2
                            go_ret2
                            exact ⟨by first | rfl | (simp; done) | (simp [*]; done), by repeat (first | exact Drawn0.refl _ | apply Drawn0.step)⟩
                          · rw [if_neg c14] at H
                            have c14b0 : (a0.toList == ([101, 98] : List UInt8)) = false := beq_eq_false_iff_ne.mpr c14
                            have c14b1 : (a0.toList != ([101, 98] : List UInt8)) = true := bne_iff_ne.mpr c14
                            by_cases c15 : a0.toList = ([] : List UInt8)
                            · rw [if_pos c15] at H
                              have c15b0 : (a0.toList == ([] : List UInt8)) = true := beq_iff_eq.mpr c15
                              have c15b1 : (a0.toList != ([] : List UInt8)) = false := bne_eq_false_iff_eq.mpr c15
                              (try (have c15b2 : a0.toList.isEmpty = true := by simpa using c15))
                              clear c15
                              simp only [Option.some.injEq, Prod.mk.injEq] at H
                              obtain ⟨rfl, rfl⟩ := H
                              go_enter Tryd.func16, Tryd.ntmps16
                              go_wp2
                              go_ret2
                              exact ⟨by first | rfl | (simp; done) | (simp [*]; done), by repeat (first | exact Drawn0.refl _ | apply Drawn0.step)⟩
                            · rw [if_neg c15] at H
                              have c15b0 : (a0.toList == ([] : List UInt8)) = false := beq_eq_false_iff_ne.mpr c15
                              have c15b1 : (a0.toList != ([] : List UInt8)) = true := bne_iff_ne.mpr c15
                              (try (have c15b2 : a0.toList.isEmpty = false := by simpa using c15))
                              by_cases c16 : a0.toList = ([107, 105] : List UInt8)
                              · rw [if_pos c16] at H
                                have c16b0 : (a0.toList == ([107, 105] : List UInt8)) = true := beq_iff_eq.mpr c16
                                have c16b1 : (a0.toList != ([107, 105] : List UInt8)) = false := bne_eq_false_iff_eq.mpr c16
                                clear c16
                                simp only [Option.some.injEq, Prod.mk.injEq] at H
                                obtain ⟨rfl, rfl⟩ := H
                                go_enter Tryd.func16, Tryd.ntmps16
                                go_wp2
                                go_ret2
                                exact ⟨by first | rfl | (simp; done) | (simp [*]; done), by repeat (first | exact Drawn0.refl _ | apply Drawn0.step)⟩
                              · rw [if_neg c16] at H
                                have c16b0 : (a0.toList == ([107, 105] : List UInt8)) = false := beq_eq_false_iff_ne.mpr c16
                                have c16b1 : (a0.toList != ([107, 105] : List UInt8)) = true := bne_iff_ne.mpr c16
                                by_cases c17 : a0.toList = ([107] : List UInt8)
                                · rw [if_pos c17] at H
                                  have c17b0 : (a0.toList == ([107] : List UInt8)) = true := beq_iff_eq.mpr c17
                                  have c17b1 : (a0.toList != ([107] : List UInt8)) = false := bne_eq_false_iff_eq.mpr c17
                                  clear c17
                                  simp only [Option.some.injEq, Prod.mk.injEq] at H
                                  obtain ⟨rfl, rfl⟩ := H
                                  go_enter Tryd.func16, Tryd.ntmps16
                                  go_wp2
                                  go_ret2
                                  exact ⟨by first | rfl | (simp; done) | (simp [*]; done), by repeat (first | exact Drawn0.refl _ | apply Drawn0.step)⟩
                                · rw [if_neg c17] at H
                                  have c17b0 : (a0.toList == ([107] : List UInt8)) = false := beq_eq_false_iff_ne.mpr c17
                                  have c17b1 : (a0.toList != ([107] : List UInt8)) = true := bne_iff_ne.mpr c17
                                  by_cases c18 : a0.toList = ([109, 105] : List UInt8)
                                  · rw [if_pos c18] at H
                                    have c18b0 : (a0.toList == ([109, 105] : List UInt8)) = true := beq_iff_eq.mpr c18
                                    have c18b1 : (a0.toList != ([109, 105] : List UInt8)) = false := bne_eq_false_iff_eq.mpr c18
                                    clear c18
                                    simp only [Option.some.injEq, Prod.mk.injEq] at H
                                    obtain ⟨rfl, rfl⟩ := H
                                    go_enter Tryd.func16, Tryd.ntmps16
                                    go_wp2
                                    go_ret2
                                    exact ⟨by first | rfl | (simp; done) | (simp [*]; done), by repeat (first | exact Drawn0.refl _ | apply Drawn0.step)⟩
                                  · rw [if_neg c18] at H
                                    have c18b0 : (a0.toList == ([109, 105] : List UInt8)) = false := beq_eq_false_iff_ne.mpr c18
                                    have c18b1 : (a0.toList != ([109, 105] : List UInt8)) = true := bne_iff_ne.mpr c18
                                    by_cases c19 : a0.toList = ([109] : List UInt8)
                                    · rw [if_pos c19] at H
                                      have c19b0 : (a0.toList == ([109] : List UInt8)) = true := beq_iff_eq.mpr c19
                                      have c19b1 : (a0.toList != ([109] : List UInt8)) = false := bne_eq_false_iff_eq.mpr c19
                                      clear c19
                                      simp only [Option.some.injEq, Prod.mk.injEq] at H
                                      obtain ⟨rfl, rfl⟩ := H
                                      go_enter Tryd.func16, Tryd.ntmps16
                                      go_wp2
                                      go_ret2
                                      exact ⟨by first | rfl | (simp; done) | (simp [*]; done), by repeat (first | exact Drawn0.refl _ | apply Drawn0.step)⟩
                                    · rw [if_neg c19] at H
                                      have c19b0 : (a0.toList == ([109] : List UInt8)) = false := beq_eq_false_iff_ne.mpr c19
                                      have c19b1 : (a0.toList != ([109] : List UInt8)) = true := bne_iff_ne.mpr c19
                                      by_cases c20 : a0.toList = ([103, 105] : List UInt8)
                                      · rw [if_pos c20] at H
                                        have c20b0 : (a0.toList == ([103, 105] : List UInt8)) = true := beq_iff_eq.mpr c20
                                        have c20b1 : (a0.toList != ([103, 105] : List UInt8)) = false := bne_eq_false_iff_eq.mpr c20
                                        clear c20
                                        simp only [Option.some.injEq, Prod.mk.injEq] at H
                                        obtain ⟨rfl, rfl⟩ := H
                                        go_enter Tryd.func16, Tryd.ntmps16
                                        go_wp2
                                        go_ret2
                                        exact ⟨by first | rfl | (simp; done) | (simp [*]; done), by repeat (first | exact Drawn0.refl _ | apply Drawn0.step)⟩
                                      · rw [if_neg c20] at H
                                        have c20b0 : (a0.toList == ([103, 105] : List UInt8)) = false := beq_eq_false_iff_ne.mpr c20
                                        have c20b1 : (a0.toList != ([103, 105] : List UInt8)) = true := bne_iff_ne.mpr c20
                                        by_cases c21 : a0.toList = ([103] : List UInt8)
                                        · rw [if_pos c21] at H
                                          have c21b0 : (a0.toList == ([103] : List UInt8)) = true := beq_iff_eq.mpr c21
                                          have c21b1 : (a0.toList != ([103] : List UInt8)) = false := bne_eq_false_iff_eq.mpr c21
                                          clear c21
                                          simp only [Option.some.injEq, Prod.mk.injEq] at H
                                          obtain ⟨rfl, rfl⟩ := H
                                          go_enter Tryd.func16, Tryd.ntmps16
                                          go_wp2
                                          go_ret2
                                          exact ⟨by first | rfl | (simp; done) | (simp [*]; done), by repeat (first | exact Drawn0.refl _ | apply Drawn0.step)⟩
                                        · rw [if_neg c21] at H
                                          have c21b0 : (a0.toList == ([103] : List UInt8)) = false := beq_eq_false_iff_ne.mpr c21
                                          have c21b1 : (a0.toList != ([103] : List UInt8)) = true := bne_iff_ne.mpr c21
                                          by_cases c22 : a0.toList = ([116, 105] : List UInt8)
                                          · rw [if_pos c22] at H
                                            have c22b0 : (a0.toList == ([116, 105] : List UInt8)) = true := beq_iff_eq.mpr c22
                                            have c22b1 : (a0.toList != ([116, 105] : List UInt8)) = false := bne_eq_false_iff_eq.mpr c22
                                            clear c22
                                            simp only [Option.some.injEq, Prod.mk.injEq] at H
                                            obtain ⟨rfl, rfl⟩ := H
                                            go_enter Tryd.func16, Tryd.ntmps16
                                            go_wp2
                                            go_ret2
                                            exact ⟨by first | rfl | (simp; done) | (simp [*]; done), by repeat (first | exact Drawn0.refl _ | apply Drawn0.step)⟩
                                          · rw [if_neg c22] at H
                                            have c22b0 : (a0.toList == ([116, 105] : List UInt8)) = false := beq_eq_false_iff_ne.mpr c22
                                            have c22b1 : (a0.toList != ([116, 105] : List UInt8)) = true := bne_iff_ne.mpr c22
                                            by_cases c23 : a0.toList = ([116] : List UInt8)
                                            · rw [if_pos c23] at H
                                              have c23b0 : (a0.toList == ([116] : List UInt8)) = true := beq_iff_eq.mpr c23
                                              have c23b1 : (a0.toList != ([116] : List UInt8)) = false := bne_eq_false_iff_eq.mpr c23
                                              clear c23
                                              simp only [Option.some.injEq, Prod.mk.injEq] at H
                                              obtain ⟨rfl, rfl⟩ := H
                                              go_enter Tryd.func16, Tryd.ntmps16
                                              go_wp2
                                              go_ret2
                                              exact ⟨by first | rfl | (simp; done) | (simp [*]; done), by repeat (first | exact Drawn0.refl _ | apply Drawn0.step)⟩
                                            · rw [if_neg c23] at H
                                              have c23b0 : (a0.toList == ([116] : List UInt8)) = false := beq_eq_false_iff_ne.mpr c23
                                              have c23b1 : (a0.toList != ([116] : List UInt8)) = true := bne_iff_ne.mpr c23
                                              by_cases c24 : a0.toList = ([112, 105] : List UInt8)
                                              · rw [if_pos c24] at H
                                                have c24b0 : (a0.toList == ([112, 105] : List UInt8)) = true := beq_iff_eq.mpr c24
                                                have c24b1 : (a0.toList != ([112, 105] : List UInt8)) = false := bne_eq_false_iff_eq.mpr c24
                                                clear c24
                                                simp only [Option.some.injEq, Prod.mk.injEq] at H
                                                obtain ⟨rfl, rfl⟩ := H
                                                go_enter Tryd.func16, Tryd.ntmps16
                                                go_wp2
                                                go_ret2
                                                exact ⟨by first | rfl | (simp; done) | (simp [*]; done), by repeat (first | exact Drawn0.refl _ | apply Drawn0.step)⟩
                                              · rw [if_neg c24] at H
                                                have c24b0 : (a0.toList == ([112, 105] : List UInt8)) = false := beq_eq_false_iff_ne.mpr c24
                                                have c24b1 : (a0.toList != ([112, 105] : List UInt8)) = true := bne_iff_ne.mpr c24
                                                by_cases c25 : a0.toList = ([112] : List UInt8)
                                                · rw [if_pos c25] at H
                                                  have c25b0 : (a0.toList == ([112] : List UInt8)) = true := beq_iff_eq.mpr c25
                                                  have c25b1 : (a0.toList != ([112] : List UInt8)) = false := bne_eq_false_iff_eq.mpr c25
                                                  clear c25
                                                  simp only [Option.some.injEq, Prod.mk.injEq] at H
                                                  obtain ⟨rfl, rfl⟩ := H
                                                  go_enter Tryd.func16, Tryd.ntmps16
                                                  go_wp2
                                                  go_ret2
                                                  exact ⟨by first | rfl | (simp; done) | (simp [*]; done), by repeat (first | exact Drawn0.refl _ | apply Drawn0.step)⟩
                                                · rw [if_neg c25] at H
                                                  have c25b0 : (a0.toList == ([112] : List UInt8)) = false := beq_eq_false_iff_ne.mpr c25
                                                  have c25b1 : (a0.toList != ([112] : List UInt8)) = true := bne_iff_ne.mpr c25
                                                  by_cases c26 : a0.toList = ([101, 105] : List UInt8)
                                                  · rw [if_pos c26] at H
                                                    have c26b0 : (a0.toList == ([101, 105] : List UInt8)) = true := beq_iff_eq.mpr c26
                                                    have c26b1 : (a0.toList != ([101, 105] : List UInt8)) = false := bne_eq_false_iff_eq.mpr c26
                                                    clear c26
                                                    simp only [Option.some.injEq, Prod.mk.injEq] at H
                                                    obtain ⟨rfl, rfl⟩ := H
                                                    go_enter Tryd.func16, Tryd.ntmps16
                                                    go_wp2
                                                    go_ret2
                                                    exact ⟨by first | rfl | (simp; done) | (simp [*]; done), by repeat (first | exact Drawn0.refl _ | apply Drawn0.step)⟩
                                                  · rw [if_neg c26] at H
                                                    have c26b0 : (a0.toList == ([101, 105] : List UInt8)) = false := beq_eq_false_iff_ne.mpr c26
                                                    have c26b1 : (a0.toList != ([101, 105] : List UInt8)) = true := bne_iff_ne.mpr c26
                                                    by_cases c27 : a0.toList = ([101] : List UInt8)
                                                    · rw [if_pos c27] at H
                                                      have c27b0 : (a0.toList == ([101] : List UInt8)) = true := beq_iff_eq.mpr c27
                                                      have c27b1 : (a0.toList != ([101] : List UInt8)) = false := bne_eq_false_iff_eq.mpr c27
                                                      clear c27
                                                      simp only [Option.some.injEq, Prod.mk.injEq] at H
                                                      obtain ⟨rfl, rfl⟩ := H
                                                      go_enter Tryd.func16, Tryd.ntmps16
                                                      go_wp2
                                                      go_ret2
                                                      exact ⟨by first | rfl | (simp; done) | (simp [*]; done), by repeat (first | exact Drawn0.refl _ | apply Drawn0.step)⟩
                                                    · rw [if_neg c27] at H
                                                      have c27b0 : (a0.toList == ([101] : List UInt8)) = false := beq_eq_false_iff_ne.mpr c27
                                                      have c27b1 : (a0.toList != ([101] : List UInt8)) = true := bne_iff_ne.mpr c27
                                                      simp only [Option.some.injEq, Prod.mk.injEq] at H
                                                      obtain ⟨rfl, rfl⟩ := H
                                                      go_enter Tryd.func16, Tryd.ntmps16
                                                      go_wp2
                                                      go_ret2
                                                      exact ⟨by first | rfl | (simp; done) | (simp [*]; done), by repeat (first | exact Drawn0.refl _ | apply Drawn0.step)⟩

/-! ### humanize_zzSpace: function 27 -/
def humanize_zzSpace.f (a0 : Int) : Option (Bool) := if a0 = 32 then (some true) else (if a0 ≥ 9 then (some (decide (a0 ≤ 13))) else (some false))
set_option maxHeartbeats 8000000 in
set_option maxRecDepth 100000 in
theorem humanize_zzSpace.calls (a0 : Int) (r : Bool) (w : World) (h : humanize_zzSpace.f a0 = some r) :
    Calls Tryd.prog 27 #[.int .u8 a0] w fun e w' => e = .returned (.bool r) ∧ Drawn0 w w' := by
  have H : (if a0 = 32 then (some true) else (if a0 ≥ 9 then (some (decide (a0 ≤ 13))) else (some false))) = some r := h
  clear h
  by_cases c2 : a0 = 32
  · rw [if_pos c2] at H
    have c2b0 : (a0 == 32) = true := beq_iff_eq.mpr c2
    have c2b1 : (a0 != 32) = false := bne_eq_false_iff_eq.mpr c2
    clear c2
    obtain rfl := Option.some.inj H
    go_enter Tryd.func27, Tryd.ntmps27
    go_wp2
    go_ret
    exact ⟨by first | rfl | (simp; done) | (simp [*]; done), by repeat (first | exact Drawn0.refl _ | apply Drawn0.step)⟩
  · rw [if_neg c2] at H
    have c2b0 : (a0 == 32) = false := beq_eq_false_iff_ne.mpr c2
    have c2b1 : (a0 != 32) = true := bne_iff_ne.mpr c2
    by_cases c3 : a0 ≥ 9
    · rw [if_pos c3] at H
      have c3b0 : decide (9 ≤ a0) = true := decide_eq_true c3
      clear c3
      obtain rfl := Option.some.inj H
      go_enter Tryd.func27, Tryd.ntmps27
      go_wp2
      go_ret
      exact ⟨by first | rfl | (simp; done) | (simp [*]; done), by repeat (first | exact Drawn0.refl _ | apply Drawn0.step)⟩
    · rw [if_neg c3] at H
      have c3b0 : decide (9 ≤ a0) = false := decide_eq_false c3
      clear c3
      obtain rfl := Option.some.inj H
      go_enter Tryd.func27, Tryd.ntmps27
      go_wp2
      go_ret
      exact ⟨by first | rfl | (simp; done) | (simp [*]; done), by repeat (first | exact Drawn0.refl _ | apply Drawn0.step)⟩

end Go.Proofs.YtnpkocpknmhngaaDoor.PPb
