-- written by a program of this work
import Derived.Test.YtmdgbbiipjmenaaPFnWordsx0
import Derived.Test.YtmdgbbiipjmenaaPFnWordsx1
import Derived.Test.YtmdgbbiipjmenaaPFnWordsx2
namespace Go.Proofs.Ytmdgbbiipjmenaa.PFnWords
open Go.RowKit Go.Proofs.YtmdgbbiipjmenaaW.PrintWords Go.Proofs.YtmdgbbiipjmenaaW.PrintLast Go.Proofs.YtmdgbbiipjmenaaW.PrintMore
attribute [local go_sem] max2_int min2_int max_two min_two max_three min_three max_four min_four   -- for this text's walks alone
set_option linter.unusedVariables false
set_option linter.unusedSimpArgs false

/-! ### laws_FnWords: function 3 -/
def laws_FnWords.l0 : Nat → Int → List ByteArray → List (List Int) → Int → Int → Option (Bool)
  | 0, _, _, _, _, _ => none
  | k + 1, x1, x5, x16, x17, x18 => if x18 < x17 then (if 0 ≤ x18 then (if x18 < (x16.length : Int) then (if ((rd_L1 x16 x18).length : Int) > 20 then (some true) else ((laws_wordOf.f k (rd_L1 x16 x18)).bind fun t143 => (if x5.length < 8796093022208 then (laws_FnWords.l0 k x1 (x5 ++ [t143]) x16 x17 (wrap64 (x18 + 1))) else (none)))) else (none)) else (none)) else ((some (([(⟨#[97, 110, 100]⟩ : ByteArray), (⟨#[111, 114]⟩ : ByteArray), (⟨#[110, 111, 114]⟩ : ByteArray)] : List ByteArray) : List ByteArray)).bind fun y147 => (if 0 ≤ (Int.tmod x1 3) then (if (Int.tmod x1 3) < (y147.length : Int) then ((impl_Words.f k x5 (rdOf ByteArray.empty y147 (Int.tmod x1 3))).bind fun t151 => ((spec_Series.f k x5 (rdOf ByteArray.empty y147 (Int.tmod x1 3)) false).bind fun t152 => (if t151.toList = t152.toList then ((impl_Oxford.f k x5 (rdOf ByteArray.empty y147 (Int.tmod x1 3))).bind fun t153 => ((spec_Series.f k x5 (rdOf ByteArray.empty y147 (Int.tmod x1 3)) true).bind fun t154 => (if t153.toList = t154.toList then ((impl_Words.f k (([(⟨#[97]⟩ : ByteArray)] : List ByteArray)) (rdOf ByteArray.empty y147 (Int.tmod x1 3))).bind fun t158 => (some (t158.toList == ([97] : List UInt8)))) else (some false)))) else (some false)))) else (none)) else (none)))
def laws_FnWords.f (k : Nat) (l0 : List (List Int)) (a1 : Int) : Option (Bool) := (laws_zzFits1.f k l0).bind fun t138 => (if t138 = true then (if (l0.length : Int) > 12 then (some true) else (laws_FnWords.l0 k a1 (([] : List ByteArray)) l0 (l0.length : Int) 0)) else (some true))
theorem laws_FnWords.mono_l : ∀ k, (∀ y0 y1 y2 y3 y4, LeO (laws_FnWords.l0 k y0 y1 y2 y3 y4) (laws_FnWords.l0 (k + 1) y0 y1 y2 y3 y4))
  | 0 => fun _ _ _ _ _ r h => by simp [laws_FnWords.l0] at h
  | k + 1 => by
    have ih0 := laws_FnWords.mono_l k
    · intro y0 y1 y2 y3 y4
      unfold laws_FnWords.l0
      repeat' first
      | (with_reducible exact ih0 _ _ _ _ _)
      | (with_reducible exact impl_Oxford.mono _ _ _)
      | (with_reducible exact impl_Words.mono _ _ _)
      | (with_reducible exact laws_wordOf.mono _ _)
      | (with_reducible exact laws_zzFits1.mono _ _)
      | (with_reducible exact spec_Series.mono _ _ _ _)
      | (with_reducible exact LeO.refl _)
      | (with_reducible exact LeO.none _)
      | (with_reducible refine LeO.ite ?_ ?_)
      | (with_reducible refine LeO.bind ?_ (fun _ => ?_))
      | exact ih0 _ _ _ _ _
      | exact impl_Oxford.mono _ _ _
      | exact impl_Words.mono _ _ _
      | exact laws_wordOf.mono _ _
      | exact laws_zzFits1.mono _ _
      | exact spec_Series.mono _ _ _ _
      | exact LeO.none _
      | refine LeO.ite ?_ ?_
      | refine LeO.bind ?_ (fun _ => ?_)
theorem laws_FnWords.mono : ∀ a0 a1 k, LeO (laws_FnWords.f k a0 a1) (laws_FnWords.f (k + 1) a0 a1) := by
  intro a0 a1 k
  have ih0 := laws_FnWords.mono_l k
  unfold laws_FnWords.f
  repeat' first
      | (with_reducible exact ih0 _ _ _ _ _)
      | (with_reducible exact impl_Oxford.mono _ _ _)
      | (with_reducible exact impl_Words.mono _ _ _)
      | (with_reducible exact laws_wordOf.mono _ _)
      | (with_reducible exact laws_zzFits1.mono _ _)
      | (with_reducible exact spec_Series.mono _ _ _ _)
      | (with_reducible exact LeO.refl _)
      | (with_reducible exact LeO.none _)
      | (with_reducible refine LeO.ite ?_ ?_)
      | (with_reducible refine LeO.bind ?_ (fun _ => ?_))
      | exact ih0 _ _ _ _ _
      | exact impl_Oxford.mono _ _ _
      | exact impl_Words.mono _ _ _
      | exact laws_wordOf.mono _ _
      | exact laws_zzFits1.mono _ _
      | exact spec_Series.mono _ _ _ _
      | exact LeO.none _
      | refine LeO.ite ?_ ?_
      | refine LeO.bind ?_ (fun _ => ?_)
set_option maxHeartbeats 8000000 in
set_option maxRecDepth 100000 in
theorem laws_FnWords.calls (k : Nat) (A0 : Option Addr) (c0 : Nat) (l0 : List (List Int)) (a1 : Int) (r : Bool) (w : World) (hr0 : Kd.C (Kd.slice 5 (Kd.int .u8)) w A0 l0.length l0) (hc0 : l0.length ≤ c0) (h : laws_FnWords.f k l0 a1 = some r) :
    Calls Try.prog 3 #[.slice A0 l0.length c0, .int .u8 a1] w fun e w' => e = .returned (.bool r) ∧ Below w.heap.size w w' := by
  have HR0 := Aside0.mk hr0
  have HC0 := Aside0.mk hc0
  clear hr0 hc0
  have HB := Aside0.mk (Below.refl w.heap.size w)
  have H : ((laws_zzFits1.f k l0).bind fun t138 => (if t138 = true then (if (l0.length : Int) > 12 then (some true) else (laws_FnWords.l0 k a1 (([] : List ByteArray)) l0 (l0.length : Int) 0)) else (some true))) = some r := h
  clear h
  replace H := Option.bind_eq_some_iff.mp H
  obtain ⟨t138, A30, H⟩ := H
  replace H : (if t138 = true then (if (l0.length : Int) > 12 then (some true) else (laws_FnWords.l0 k a1 (([] : List ByteArray)) l0 (l0.length : Int) 0)) else (some true)) = some r := H
  have A3 := Aside0.mk A30
  clear A30
  by_cases c4 : t138 = true
  · subst c4
    have H1 : (if (l0.length : Int) > 12 then (some true) else (laws_FnWords.l0 k a1 (([] : List ByteArray)) l0 (l0.length : Int) 0)) = some r := by rw [if_pos rfl] at H; exact H
    clear H
    have H := H1
    clear H1
    by_cases c5 : (l0.length : Int) > 12
    · rw [if_pos c5] at H
      have c5b0 : decide (12 < (l0.length : Int)) = true := decide_eq_true c5
      have c5b1 : decide (12 < l0.length) = true := decide_eq_true (by omega)
      clear c5
      obtain rfl := Option.some.inj H
      go_enter Try.func3, Try.ntmps3
      go_wp2_with (first | ((with_reducible refine gate_callee (f := 5) rfl ?_); refine goesL_ (some 10) rfl rfl Try.func5 (by kernel_rfl) rfl #[.slice A0 l0.length c0] rfl (by (try simp only [List.map_toArray, List.map_cons, List.map_nil]); first | done | rfl | (simp only [List.length_drop, List.length_take]; rfl)) ?_; (with_reducible refine (laws_zzFits1.calls k _ _ l0 true _ ?side1 ?side2 A3.out).mono ?_); (case side1 => repeat (first | exact HR0.out | (with_reducible refine Kd.C_alloc ?_ _) | (with_reducible refine Kd.C_drewN ?_ _) | (with_reducible refine Kd.C_drew ?_))); (case side2 => exact HC0.out); rintro e w' ⟨rfl, ⟨nd, rfl⟩⟩; refine ⟨_, rfl, ?_⟩))
      go_ret
      exact ⟨by first | rfl | (simp [errW_none, errW_some] <;> rfl) | (simp [*, errW_none, errW_some] <;> rfl), by repeat (first | (with_reducible first | exact HB.out | apply below_alloc | apply pw_below_drewN | apply below_drew1) | exact HB.out)⟩
    · rw [if_neg c5] at H
      have c5b0 : decide (12 < (l0.length : Int)) = false := decide_eq_false c5
      have c5b1 : decide (12 < l0.length) = false := decide_eq_false (by omega)
      clear c5
      obtain ⟨y139, hy139⟩ : ∃ y_ : List ByteArray, y_ = (([] : List ByteArray)) := ⟨_, rfl⟩
      replace H : (laws_FnWords.l0 k a1 y139 l0 (l0.length : Int) 0) = some r := by first | (rw [hy139]; with_reducible exact H) | (have H2_ := (Option.bind_some _ _).symm.trans H; rw [hy139]; with_reducible exact H2_) | (have H2_ := (Option.bind_some _ _).symm.trans H; with_reducible exact H2_) | with_reducible exact H | (rw [hy139]; exact H) | exact H
      have Ny139 := Aside0.mk hy139
      clear hy139
      have H' := Aside0.mk H
      clear H
      go_enter Try.func3, Try.ntmps3
      go_wp2_with (first | ((with_reducible refine gate_callee (f := 5) rfl ?_); refine goesL_ (some 10) rfl rfl Try.func5 (by kernel_rfl) rfl #[.slice A0 l0.length c0] rfl (by (try simp only [List.map_toArray, List.map_cons, List.map_nil]); first | done | rfl | (simp only [List.length_drop, List.length_take]; rfl)) ?_; (with_reducible refine (laws_zzFits1.calls k _ _ l0 true _ ?side1 ?side2 A3.out).mono ?_); (case side1 => repeat (first | exact HR0.out | (with_reducible refine Kd.C_alloc ?_ _) | (with_reducible refine Kd.C_drewN ?_ _) | (with_reducible refine Kd.C_drew ?_))); (case side2 => exact HC0.out); rintro e w' ⟨rfl, ⟨nd, rfl⟩⟩; refine ⟨_, rfl, ?_⟩) | ((with_reducible refine gate_dst (N := 15) rfl ?_); (try (refine gate_guard (by rfl) ?_; dsimp only)); refine Kd.R_lit Kd.string _ 9 ?hg (N := 15) ?hd (xs := ([] : List ByteArray)) (inner := []) (ok := fun _ => True) (okp := fun _ => True) ?hr ?hp (fun _ hk => hk) trivial (Below.refl _ _) (Nat.le_refl _) (by simp) ?_; (case hd => rfl); (case hg => rfl); (case hr => first | (go_simp; done) | (go_simp; rfl)); (case hp => exact (Reps.none _ _)); intro v140 w6 ho7 hb hg_ hnew_; clear hg_ hnew_; (first | rw [← Ny139.out] at ho7 | (simp only [Int.reduceToNat] at ho7; rw [← Ny139.out] at ho7)); have n0_ := Aside0.mk (Kd.R_lower ho7 (below_size (by repeat (first | (with_reducible first | exact HB.out | apply below_alloc | apply pw_below_drewN | apply below_drew1) | exact HB.out)))); have n1_ := Aside0.mk (below_step (by repeat (first | (with_reducible first | exact HB.out | apply below_alloc | apply pw_below_drewN | apply below_drew1) | exact HB.out)) hb); clear HB; have HO141 := n0_; have HB := n1_; clear n0_ n1_; clear hb ho7))
      go_loopg [5, 18] k (fun kq v5 v18 w' => ∃ (x5_1 : List ByteArray) (x18_1 : Int), v18 = .int .i64 x18_1 ∧ Aside0 (laws_FnWords.l0 kq a1 x5_1 l0 (l0.length : Int) x18_1 = some r) ∧ Aside0 (kq ≤ k) ∧ Aside0 (Kd.R Kd.string 9 w' w.heap.size (fun _ => True) v5 x5_1) ∧ Aside0 (Below w.heap.size w w'))
      case atStart => exact ⟨(y139), (0), (by first | rfl | (simp; done) | (simp [*]; done)), H', ⟨Nat.le_refl _⟩, ⟨by (with_reducible repeat (first | apply Kd.R_alloc | apply Kd.R_drewN | apply Kd.R_drew)); exact HO141.out⟩, ⟨by repeat (first | (with_reducible first | exact HB.out | apply below_alloc | apply pw_below_drewN | apply below_drew1) | exact HB.out)⟩⟩
      case round =>
        clear H'
        try clear p2
        try clear c3
        try clear c4
        try clear c5
        try clear c5b0
        try clear c5b1
        obtain ⟨x5_1, x18_1, rfl, HA, HK1, HO_5, HB⟩ := hrel
        cases gk with
        | zero => exact absurd HA.out (by simp [laws_FnWords.l0])
        | succ k1 =>
          have H := HA.out
          clear HA
          simp only [laws_FnWords.l0] at H
          by_cases c8 : x18_1 < (l0.length : Int)
          · rw [if_pos c8] at H
            have c8b0 : decide (x18_1 < (l0.length : Int)) = true := decide_eq_true c8
            clear c8
            by_cases c9 : 0 ≤ x18_1
            · rw [if_pos c9] at H
              have c9b0 : decide (0 ≤ x18_1) = true := decide_eq_true c9
              clear c9
              by_cases c10 : x18_1 < (l0.length : Int)
              · rw [if_pos c10] at H
                have c10b0 : decide (x18_1 < (l0.length : Int)) = true := decide_eq_true c10
                clear c10
                by_cases c11 : ((rd_L1 l0 x18_1).length : Int) > 20
                · rw [if_pos c11] at H
                  have c11b0 : decide (20 < ((rd_L1 l0 x18_1).length : Int)) = true := decide_eq_true c11
                  have c11b1 : decide (20 < (rd_L1 l0 x18_1).length) = true := decide_eq_true (by omega)
                  clear c11
                  obtain rfl := Option.some.inj H
                  have p142 : 0 ≤ (x18_1 : Int) := of_decide_eq_true (by first | (with_reducible assumption) | assumption)
                  have q142 : x18_1 < (l0.length : Int) := of_decide_eq_true (by first | (with_reducible assumption) | assumption)
                  obtain ⟨ad142, A142_0, c142_0, e142, hx142_0, hl142_0, hi142_0⟩ := at_L1 HR0.out x18_1 p142 q142
                  cases e142
                  replace hx142_0 := (HB.out.cell (World.block_lt_of_cell? w _ hx142_0)).trans hx142_0
                  have HR142_0 := Aside0.mk hi142_0
                  have HC142_0 := Aside0.mk hl142_0
                  clear hi142_0 hl142_0
                  replace p142 := eq_true p142
                  replace q142 := eq_true q142
                  go_wp2
                  go_ret
                  exact ⟨by first | rfl | (simp [errW_none, errW_some] <;> rfl) | (simp [*, errW_none, errW_some] <;> rfl), by repeat (first | (with_reducible first | exact HB.out | apply below_alloc | apply pw_below_drewN | apply below_drew1) | exact HB.out)⟩
                · rw [if_neg c11] at H
                  have c11b0 : decide (20 < ((rd_L1 l0 x18_1).length : Int)) = false := decide_eq_false c11
                  have c11b1 : decide (20 < (rd_L1 l0 x18_1).length) = false := decide_eq_false (by omega)
                  clear c11
                  replace H := Option.bind_eq_some_iff.mp H
                  obtain ⟨t143, A120, H⟩ := H
                  replace H : (if x5_1.length < 8796093022208 then (laws_FnWords.l0 k1 a1 (x5_1 ++ [t143]) l0 (l0.length : Int) (wrap64 (x18_1 + 1))) else (none)) = some r := H
                  have A12 := Aside0.mk A120
                  clear A120
                  by_cases c13 : x5_1.length < 8796093022208
                  · rw [if_pos c13] at H
                    have LMc13 := Aside0.mk c13
                    clear c13
                    obtain ⟨y144, hy144⟩ : ∃ y_ : List ByteArray, y_ = (x5_1 ++ [t143]) := ⟨_, rfl⟩
                    replace H : (laws_FnWords.l0 k1 a1 y144 l0 (l0.length : Int) (wrap64 (x18_1 + 1))) = some r := by first | (rw [hy144]; with_reducible exact H) | (have H2_ := (Option.bind_some _ _).symm.trans H; rw [hy144]; with_reducible exact H2_) | (have H2_ := (Option.bind_some _ _).symm.trans H; with_reducible exact H2_) | with_reducible exact H | (rw [hy144]; exact H) | exact H
                    have Ny144 := Aside0.mk hy144
                    clear hy144
                    have H' := Aside0.mk H
                    clear H
                    have p142 : 0 ≤ (x18_1 : Int) := of_decide_eq_true (by first | (with_reducible assumption) | assumption)
                    have q142 : x18_1 < (l0.length : Int) := of_decide_eq_true (by first | (with_reducible assumption) | assumption)
                    obtain ⟨ad142, A142_0, c142_0, e142, hx142_0, hl142_0, hi142_0⟩ := at_L1 HR0.out x18_1 p142 q142
                    cases e142
                    replace hx142_0 := (HB.out.cell (World.block_lt_of_cell? w _ hx142_0)).trans hx142_0
                    have HR142_0 := Aside0.mk hi142_0
                    have HC142_0 := Aside0.mk hl142_0
                    clear hi142_0 hl142_0
                    replace p142 := eq_true p142
                    replace q142 := eq_true q142
                    go_wp2_with (first | ((with_reducible refine gate_callee (f := 6) rfl ?_); refine goesL_ (some 27) rfl rfl Try.func6 (by kernel_rfl) rfl #[.slice A142_0 (rd_L1 l0 x18_1).length c142_0] rfl (by (try simp only [List.map_toArray, List.map_cons, List.map_nil]); first | done | rfl | (simp only [List.length_drop, List.length_take]; rfl)) ?_; (with_reducible refine (laws_wordOf.calls k1 _ _ (rd_L1 l0 x18_1) t143 _ ?side1 ?side2 A12.out).mono ?_); (case side1 => repeat (first | exact (Kd.C_below HR142_0.out HB.out) | (with_reducible refine Kd.C_alloc ?_ _) | (with_reducible refine Kd.C_drewN ?_ _) | (with_reducible refine Kd.C_drew ?_))); (case side2 => exact HC142_0.out); rintro e w' ⟨rfl, ⟨nd, rfl⟩⟩; refine ⟨_, rfl, ?_⟩) | ((with_reducible refine gate_builtin (b := .append) (xs := #[.tmp 25, .tmp 28]) rfl ?_); (try (refine gate_guard (by rfl) ?_; dsimp only)); at_builtin; refine Kd.R_append Kd.string (w0 := w) w.heap.size rfl (.tmp 25) (.tmp 28) 24 9 (.string ⟨#[]⟩) 16 rfl Try.underlying24 info9 rfl (by decide) (by omega) u5 x5_1 t143 [.string t143] (fun _ => True) (fun _ => False) rfl rfl ?aP (fun _ hk => hk.elim) ?aF ?aO ?aB ?aS ?aL ?_; (case aP => exact rfl); (case aB => exact (by repeat (first | (with_reducible first | exact HB.out | apply below_alloc | apply pw_below_drewN | apply below_drew1) | exact HB.out))); (case aF => exact (fun _ _ => trivial)); (case aO => exact (by (with_reducible repeat (first | apply Kd.R_alloc | apply Kd.R_drewN | apply Kd.R_drew)); exact HO_5.out)); (case aS => exact (below_size (by repeat (first | (with_reducible first | exact HB.out | apply below_alloc | apply pw_below_drewN | apply below_drew1) | exact HB.out)))); (case aL => have := LMc13.out; omega); intro v145 w14 ho hb hg hat; rw [← Ny144.out] at ho; have n0_ := Aside0.mk (hb); have n1_ := Aside0.mk (ho); clear HB; clear HO_5; have HB := n0_; have HO146 := n1_; clear n0_ n1_; clear ho hb hg hat))
                    go_roundg k1
                    case measure => have := HK1.out; omega
                    case rel => exact ⟨(y144), (wrap64 (x18_1 + 1)), (by first | rfl | (simp; done) | (simp [*]; done)), H', ⟨by have := HK1.out; omega⟩, ⟨by (with_reducible repeat (first | apply Kd.R_alloc | apply Kd.R_drewN | apply Kd.R_drew)); exact HO146.out⟩, ⟨by repeat (first | (with_reducible first | exact HB.out | apply below_alloc | apply pw_below_drewN | apply below_drew1) | exact HB.out)⟩⟩
                  · rw [if_neg c13] at H
                    exact absurd H (by simp)
              · rw [if_neg c10] at H
                exact absurd H (by simp)
            · rw [if_neg c9] at H
              exact absurd H (by simp)
          · rw [if_neg c8] at H
            have c8b0 : decide (x18_1 < (l0.length : Int)) = false := decide_eq_false c8
            clear c8
            obtain ⟨y147, hy147⟩ : ∃ y_ : List ByteArray, y_ = (([(⟨#[97, 110, 100]⟩ : ByteArray), (⟨#[111, 114]⟩ : ByteArray), (⟨#[110, 111, 114]⟩ : ByteArray)] : List ByteArray)) := ⟨_, rfl⟩
            replace H : (if 0 ≤ (Int.tmod a1 3) then (if (Int.tmod a1 3) < (y147.length : Int) then ((impl_Words.f k1 x5_1 (rdOf ByteArray.empty y147 (Int.tmod a1 3))).bind fun t151 => ((spec_Series.f k1 x5_1 (rdOf ByteArray.empty y147 (Int.tmod a1 3)) false).bind fun t152 => (if t151.toList = t152.toList then ((impl_Oxford.f k1 x5_1 (rdOf ByteArray.empty y147 (Int.tmod a1 3))).bind fun t153 => ((spec_Series.f k1 x5_1 (rdOf ByteArray.empty y147 (Int.tmod a1 3)) true).bind fun t154 => (if t153.toList = t154.toList then ((impl_Words.f k1 (([(⟨#[97]⟩ : ByteArray)] : List ByteArray)) (rdOf ByteArray.empty y147 (Int.tmod a1 3))).bind fun t158 => (some (t158.toList == ([97] : List UInt8)))) else (some false)))) else (some false)))) else (none)) else (none)) = some r := by first | (rw [hy147]; with_reducible exact H) | (have H2_ := (Option.bind_some _ _).symm.trans H; rw [hy147]; with_reducible exact H2_) | (have H2_ := (Option.bind_some _ _).symm.trans H; with_reducible exact H2_) | with_reducible exact H | (rw [hy147]; exact H) | exact H
            have Ny147 := Aside0.mk hy147
            clear hy147
            obtain ⟨ji15, hji15⟩ : ∃ j_ : Int, (Int.tmod a1 3) = j_ := ⟨_, rfl⟩
            replace H : (if 0 ≤ (ji15) then (if (ji15) < (y147.length : Int) then ((impl_Words.f k1 x5_1 (rdOf ByteArray.empty y147 (ji15))).bind fun t151 => ((spec_Series.f k1 x5_1 (rdOf ByteArray.empty y147 (ji15)) false).bind fun t152 => (if t151.toList = t152.toList then ((impl_Oxford.f k1 x5_1 (rdOf ByteArray.empty y147 (ji15))).bind fun t153 => ((spec_Series.f k1 x5_1 (rdOf ByteArray.empty y147 (ji15)) true).bind fun t154 => (if t153.toList = t154.toList then ((impl_Words.f k1 (([(⟨#[97]⟩ : ByteArray)] : List ByteArray)) (rdOf ByteArray.empty y147 (ji15))).bind fun t158 => (some (t158.toList == ([97] : List UInt8)))) else (some false)))) else (some false)))) else (none)) else (none)) = some r := by first | (rw [hji15] at H; exact H) | (simp only [hji15] at H ⊢; exact H)
            by_cases c16 : 0 ≤ (ji15)
            · rw [if_pos c16] at H
              have c16b0 : decide (0 ≤ (ji15)) = true := decide_eq_true c16
              clear c16
              by_cases c17 : (ji15) < (y147.length : Int)
              · rw [if_pos c17] at H
                have c17b0 : decide ((ji15) < (y147.length : Int)) = true := decide_eq_true c17
                clear c17
                replace H := Option.bind_eq_some_iff.mp H
                obtain ⟨t151, A180, H⟩ := H
                replace H : ((spec_Series.f k1 x5_1 (rdOf ByteArray.empty y147 (ji15)) false).bind fun t152 => (if t151.toList = t152.toList then ((impl_Oxford.f k1 x5_1 (rdOf ByteArray.empty y147 (ji15))).bind fun t153 => ((spec_Series.f k1 x5_1 (rdOf ByteArray.empty y147 (ji15)) true).bind fun t154 => (if t153.toList = t154.toList then ((impl_Words.f k1 (([(⟨#[97]⟩ : ByteArray)] : List ByteArray)) (rdOf ByteArray.empty y147 (ji15))).bind fun t158 => (some (t158.toList == ([97] : List UInt8)))) else (some false)))) else (some false))) = some r := H
                have A18 := Aside0.mk A180
                clear A180
                replace H := Option.bind_eq_some_iff.mp H
                obtain ⟨t152, A190, H⟩ := H
                replace H : (if t151.toList = t152.toList then ((impl_Oxford.f k1 x5_1 (rdOf ByteArray.empty y147 (ji15))).bind fun t153 => ((spec_Series.f k1 x5_1 (rdOf ByteArray.empty y147 (ji15)) true).bind fun t154 => (if t153.toList = t154.toList then ((impl_Words.f k1 (([(⟨#[97]⟩ : ByteArray)] : List ByteArray)) (rdOf ByteArray.empty y147 (ji15))).bind fun t158 => (some (t158.toList == ([97] : List UInt8)))) else (some false)))) else (some false)) = some r := H
                have A19 := Aside0.mk A190
                clear A190
                by_cases c20 : t151.toList = t152.toList
                · rw [if_pos c20] at H
                  have c20b0 : (t151.toList == t152.toList) = true := beq_iff_eq.mpr c20
                  have c20b1 : (t151.toList != t152.toList) = false := bne_eq_false_iff_eq.mpr c20
                  clear c20
                  replace H := Option.bind_eq_some_iff.mp H
                  obtain ⟨t153, A210, H⟩ := H
                  replace H : ((spec_Series.f k1 x5_1 (rdOf ByteArray.empty y147 (ji15)) true).bind fun t154 => (if t153.toList = t154.toList then ((impl_Words.f k1 (([(⟨#[97]⟩ : ByteArray)] : List ByteArray)) (rdOf ByteArray.empty y147 (ji15))).bind fun t158 => (some (t158.toList == ([97] : List UInt8)))) else (some false))) = some r := H
                  have A21 := Aside0.mk A210
                  clear A210
                  replace H := Option.bind_eq_some_iff.mp H
                  obtain ⟨t154, A220, H⟩ := H
                  replace H : (if t153.toList = t154.toList then ((impl_Words.f k1 (([(⟨#[97]⟩ : ByteArray)] : List ByteArray)) (rdOf ByteArray.empty y147 (ji15))).bind fun t158 => (some (t158.toList == ([97] : List UInt8)))) else (some false)) = some r := H
                  have A22 := Aside0.mk A220
                  clear A220
                  by_cases c23 : t153.toList = t154.toList
                  · rw [if_pos c23] at H
                    have c23b0 : (t153.toList == t154.toList) = true := beq_iff_eq.mpr c23
                    have c23b1 : (t153.toList != t154.toList) = false := bne_eq_false_iff_eq.mpr c23
                    clear c23
                    obtain ⟨y155, hy155⟩ : ∃ y_ : List ByteArray, y_ = (([(⟨#[97]⟩ : ByteArray)] : List ByteArray)) := ⟨_, rfl⟩
                    replace H : ((impl_Words.f k1 y155 (rdOf ByteArray.empty y147 (ji15))).bind fun t158 => (some (t158.toList == ([97] : List UInt8)))) = some r := by first | (rw [hy155]; with_reducible exact H) | (have H2_ := (Option.bind_some _ _).symm.trans H; rw [hy155]; with_reducible exact H2_) | (have H2_ := (Option.bind_some _ _).symm.trans H; with_reducible exact H2_) | with_reducible exact H | (rw [hy155]; exact H) | exact H
                    have Ny155 := Aside0.mk hy155
                    clear hy155
                    replace H := Option.bind_eq_some_iff.mp H
                    obtain ⟨t158, A240, H⟩ := H
                    replace H : (some (t158.toList == ([97] : List UInt8))) = some r := H
                    have A24 := Aside0.mk A240
                    clear A240
                    obtain rfl := Option.some.inj H
                    go_wp2_with (first | ((with_reducible refine gate_dst (N := 31) rfl ?_); (try (refine gate_guard (by rfl) ?_; dsimp only)); refine Kd.R_lit Kd.string _ 9 ?hg (N := 31) ?hd (xs := ([(⟨#[97, 110, 100]⟩ : ByteArray), (⟨#[111, 114]⟩ : ByteArray), (⟨#[110, 111, 114]⟩ : ByteArray)] : List ByteArray)) (inner := [.string (⟨#[97, 110, 100]⟩ : ByteArray), .string (⟨#[111, 114]⟩ : ByteArray), .string (⟨#[110, 111, 114]⟩ : ByteArray)]) (ok := fun _ => True) (okp := fun _ => True) ?hr ?hp (fun _ hk => hk) trivial (Below.refl _ _) (Nat.le_refl _) (by simp) ?_; (case hd => rfl); (case hg => rfl); (case hr => first | (go_simp; done) | (go_simp; rfl)); (case hp => exact (Reps.one (show Kd.M Kd.string _ _ _ (⟨#[97, 110, 100]⟩ : ByteArray) [.string (⟨#[97, 110, 100]⟩ : ByteArray)] from rfl) (Reps.one (show Kd.M Kd.string _ _ _ (⟨#[111, 114]⟩ : ByteArray) [.string (⟨#[111, 114]⟩ : ByteArray)] from rfl) (Reps.one (show Kd.M Kd.string _ _ _ (⟨#[110, 111, 114]⟩ : ByteArray) [.string (⟨#[110, 111, 114]⟩ : ByteArray)] from rfl) (Reps.none _ _))))); intro v148 w25 ho26 hb hg_ hnew_; clear hg_ hnew_; (first | rw [← Ny147.out] at ho26 | (simp only [Int.reduceToNat] at ho26; rw [← Ny147.out] at ho26)); have n0_ := Aside0.mk (Kd.R_elder' (by (with_reducible repeat (first | apply Kd.R_alloc | apply Kd.R_drewN | apply Kd.R_drew)); exact HO_5.out) (Kd.R_base ho26) hb); have n1_ := Aside0.mk (Kd.R_lower (Kd.R_new' ho26 (Kd.R_lt (by (with_reducible repeat (first | apply Kd.R_alloc | apply Kd.R_drewN | apply Kd.R_drew)); exact HO_5.out))) (below_size (by repeat (first | (with_reducible first | exact HB.out | apply below_alloc | apply pw_below_drewN | apply below_drew1) | exact HB.out)))); have n2_ := Aside0.mk (below_step (by repeat (first | (with_reducible first | exact HB.out | apply below_alloc | apply pw_below_drewN | apply below_drew1) | exact HB.out)) hb); clear HO_5; clear HB; have HO_5 := n0_; have HO149 := n1_; have HB := n2_; clear n0_ n1_ n2_; clear hb ho26; obtain ⟨Ao27, co27, eo27⟩ := Kd.R_slice HO149.out; subst eo27; have p150 : 0 ≤ ((ji15) : Int) := of_decide_eq_true (by first | (with_reducible assumption) | assumption); have q150 : (ji15) < (y147.length : Int) := of_decide_eq_true (by first | (with_reducible assumption) | assumption); obtain ⟨ad150, e150, hx150_0⟩ := Kd.at_string (Kd.R_reads' HO149.out).2.2 (ji15) p150 q150; cases e150; replace p150 := eq_true p150; replace q150 := eq_true q150; obtain ⟨Ao28, co28, eo28⟩ := Kd.R_slice HO_5.out; subst eo28) | ((with_reducible refine gate_callee (f := 7) rfl ?_); refine goesL_ (some 38) rfl rfl Try.func7 (by kernel_rfl) rfl #[.slice Ao28 x5_1.length co28, .string (rdOf ByteArray.empty y147 (ji15))] rfl (by (try simp only [List.map_toArray, List.map_cons, List.map_nil]); first | done | (simp only [hji15]; rfl) | rfl | (simp only [List.length_drop, List.length_take]; rfl)) ?_; (with_reducible refine (impl_Words.calls k1 _ _ x5_1 (rdOf ByteArray.empty y147 (ji15)) t151 _ ?side1 ?side2 A18.out).mono ?_); (case side1 => repeat (first | exact (Kd.R_reads' HO_5.out).2.2 | (with_reducible refine Kd.C_alloc ?_ _) | (with_reducible refine Kd.C_drewN ?_ _) | (with_reducible refine Kd.C_drew ?_))); (case side2 => exact (Kd.R_reads' HO_5.out).2.1); rintro e w29 ⟨rfl, hb⟩; refine ⟨_, rfl, ?_⟩; have n0_ := Aside0.mk (Kd.R_below (by (with_reducible repeat (first | apply Kd.R_alloc | apply Kd.R_drewN | apply Kd.R_drew)); exact HO_5.out) hb); have n1_ := Aside0.mk (Kd.R_below (by (with_reducible repeat (first | apply Kd.R_alloc | apply Kd.R_drewN | apply Kd.R_drew)); exact HO149.out) hb); have n2_ := Aside0.mk (below_step (by repeat (first | (with_reducible first | exact HB.out | apply below_alloc | apply pw_below_drewN | apply below_drew1) | exact HB.out)) hb); clear HO_5; clear HO149; clear HB; have HO_5 := n0_; have HO149 := n1_; have HB := n2_; clear n0_ n1_ n2_; (try clear hb); (try clear hb2); (try clear hk); (try clear hi)) | ((with_reducible refine gate_callee (f := 8) rfl ?_); refine goesL_ (some 41) rfl rfl Try.func8 (by kernel_rfl) rfl #[.slice Ao28 x5_1.length co28, .string (rdOf ByteArray.empty y147 (ji15)), .bool false] rfl (by (try simp only [List.map_toArray, List.map_cons, List.map_nil]); first | done | (simp only [hji15]; rfl) | rfl | (simp only [List.length_drop, List.length_take]; rfl)) ?_; (with_reducible refine (spec_Series.calls k1 _ _ x5_1 (rdOf ByteArray.empty y147 (ji15)) false t152 _ ?side1 ?side2 A19.out).mono ?_); (case side1 => repeat (first | exact (Kd.R_reads' HO_5.out).2.2 | (with_reducible refine Kd.C_alloc ?_ _) | (with_reducible refine Kd.C_drewN ?_ _) | (with_reducible refine Kd.C_drew ?_))); (case side2 => exact (Kd.R_reads' HO_5.out).2.1); rintro e w' ⟨rfl, ⟨nd, rfl⟩⟩; refine ⟨_, rfl, ?_⟩) | (go_at_call 9; (with_reducible refine (impl_Oxford.calls k1 _ _ x5_1 (rdOf ByteArray.empty y147 (ji15)) t153 _ ?side1 ?side2 A21.out).mono ?_); (case side1 => repeat (first | exact (Kd.R_reads' HO_5.out).2.2 | (with_reducible refine Kd.C_alloc ?_ _) | (with_reducible refine Kd.C_drewN ?_ _) | (with_reducible refine Kd.C_drew ?_))); (case side2 => exact (Kd.R_reads' HO_5.out).2.1); rintro e w30 ⟨rfl, hb⟩; have n0_ := Aside0.mk (Kd.R_below (by (with_reducible repeat (first | apply Kd.R_alloc | apply Kd.R_drewN | apply Kd.R_drew)); exact HO_5.out) hb); have n1_ := Aside0.mk (Kd.R_below (by (with_reducible repeat (first | apply Kd.R_alloc | apply Kd.R_drewN | apply Kd.R_drew)); exact HO149.out) hb); have n2_ := Aside0.mk (below_step (by repeat (first | (with_reducible first | exact HB.out | apply below_alloc | apply pw_below_drewN | apply below_drew1) | exact HB.out)) hb); clear HO_5; clear HO149; clear HB; have HO_5 := n0_; have HO149 := n1_; have HB := n2_; clear n0_ n1_ n2_; (try clear hb); (try clear hb2); (try clear hk); (try clear hi)) | (go_at_call 8; (with_reducible refine (spec_Series.calls k1 _ _ x5_1 (rdOf ByteArray.empty y147 (ji15)) true t154 _ ?side1 ?side2 A22.out).mono ?_); (case side1 => repeat (first | exact (Kd.R_reads' HO_5.out).2.2 | (with_reducible refine Kd.C_alloc ?_ _) | (with_reducible refine Kd.C_drewN ?_ _) | (with_reducible refine Kd.C_drew ?_))); (case side2 => exact (Kd.R_reads' HO_5.out).2.1); rintro e w' ⟨rfl, ⟨nd, rfl⟩⟩) | ((with_reducible refine gate_dst (N := 53) rfl ?_); (try (refine gate_guard (by rfl) ?_; dsimp only)); refine Kd.R_lit Kd.string _ 9 ?hg (N := 53) ?hd (xs := ([(⟨#[97]⟩ : ByteArray)] : List ByteArray)) (inner := [.string (⟨#[97]⟩ : ByteArray)]) (ok := fun _ => True) (okp := fun _ => True) ?hr ?hp (fun _ hk => hk) trivial (Below.refl _ _) (Nat.le_refl _) (by simp) ?_; (case hd => rfl); (case hg => rfl); (case hr => first | (go_simp; done) | (go_simp; rfl)); (case hp => exact (Reps.one (show Kd.M Kd.string _ _ _ (⟨#[97]⟩ : ByteArray) [.string (⟨#[97]⟩ : ByteArray)] from rfl) (Reps.none _ _))); intro v156 w31 ho32 hb hg_ hnew_; clear hg_ hnew_; (first | rw [← Ny155.out] at ho32 | (simp only [Int.reduceToNat] at ho32; rw [← Ny155.out] at ho32)); have n0_ := Aside0.mk (Kd.R_elder' (by (with_reducible repeat (first | apply Kd.R_alloc | apply Kd.R_drewN | apply Kd.R_drew)); exact HO_5.out) (Kd.R_base ho32) hb); have n1_ := Aside0.mk (Kd.R_elder' (by (with_reducible repeat (first | apply Kd.R_alloc | apply Kd.R_drewN | apply Kd.R_drew)); exact HO149.out) (Kd.R_base ho32) hb); have n2_ := Aside0.mk (Kd.R_lower (Kd.R_new' (Kd.R_new' ho32 (Kd.R_lt (by (with_reducible repeat (first | apply Kd.R_alloc | apply Kd.R_drewN | apply Kd.R_drew)); exact HO_5.out))) (Kd.R_lt (by (with_reducible repeat (first | apply Kd.R_alloc | apply Kd.R_drewN | apply Kd.R_drew)); exact HO149.out))) (below_size (by repeat (first | (with_reducible first | exact HB.out | apply below_alloc | apply pw_below_drewN | apply below_drew1) | exact HB.out)))); have n3_ := Aside0.mk (below_step (by repeat (first | (with_reducible first | exact HB.out | apply below_alloc | apply pw_below_drewN | apply below_drew1) | exact HB.out)) hb); clear HO_5; clear HO149; clear HB; have HO_5 := n0_; have HO149 := n1_; have HO157 := n2_; have HB := n3_; clear n0_ n1_ n2_ n3_; clear hb ho32; obtain ⟨Ao33, co33, eo33⟩ := Kd.R_slice HO157.out; subst eo33) | (go_at_call 7; (with_reducible refine (impl_Words.calls k1 _ _ y155 (rdOf ByteArray.empty y147 (ji15)) t158 _ ?side1 ?side2 A24.out).mono ?_); (case side1 => repeat (first | exact (Kd.R_reads' HO157.out).2.2 | (with_reducible refine Kd.C_alloc ?_ _) | (with_reducible refine Kd.C_drewN ?_ _) | (with_reducible refine Kd.C_drew ?_))); (case side2 => exact (Kd.R_reads' HO157.out).2.1); rintro e w34 ⟨rfl, hb⟩; have n0_ := Aside0.mk (Kd.R_below (by (with_reducible repeat (first | apply Kd.R_alloc | apply Kd.R_drewN | apply Kd.R_drew)); exact HO_5.out) hb); have n1_ := Aside0.mk (Kd.R_below (by (with_reducible repeat (first | apply Kd.R_alloc | apply Kd.R_drewN | apply Kd.R_drew)); exact HO149.out) hb); have n2_ := Aside0.mk (Kd.R_below (by (with_reducible repeat (first | apply Kd.R_alloc | apply Kd.R_drewN | apply Kd.R_drew)); exact HO157.out) hb); have n3_ := Aside0.mk (below_step (by repeat (first | (with_reducible first | exact HB.out | apply below_alloc | apply pw_below_drewN | apply below_drew1) | exact HB.out)) hb); clear HO_5; clear HO149; clear HO157; clear HB; have HO_5 := n0_; have HO149 := n1_; have HO157 := n2_; have HB := n3_; clear n0_ n1_ n2_ n3_; (try clear hb); (try clear hb2); (try clear hk); (try clear hi)))
                    go_ret
                    exact ⟨by first | rfl | (simp [errW_none, errW_some] <;> rfl) | (simp only [← hji15]; first | rfl | (simp [errW_none, errW_some] <;> rfl)) | (simp [*, errW_none, errW_some] <;> rfl), by repeat (first | (with_reducible first | exact HB.out | apply below_alloc | apply pw_below_drewN | apply below_drew1) | exact HB.out)⟩
                  · rw [if_neg c23] at H
                    have c23b0 : (t153.toList == t154.toList) = false := beq_eq_false_iff_ne.mpr c23
                    have c23b1 : (t153.toList != t154.toList) = true := bne_iff_ne.mpr c23
                    obtain rfl := Option.some.inj H
                    go_wp2_with (first | ((with_reducible refine gate_dst (N := 31) rfl ?_); (try (refine gate_guard (by rfl) ?_; dsimp only)); refine Kd.R_lit Kd.string _ 9 ?hg (N := 31) ?hd (xs := ([(⟨#[97, 110, 100]⟩ : ByteArray), (⟨#[111, 114]⟩ : ByteArray), (⟨#[110, 111, 114]⟩ : ByteArray)] : List ByteArray)) (inner := [.string (⟨#[97, 110, 100]⟩ : ByteArray), .string (⟨#[111, 114]⟩ : ByteArray), .string (⟨#[110, 111, 114]⟩ : ByteArray)]) (ok := fun _ => True) (okp := fun _ => True) ?hr ?hp (fun _ hk => hk) trivial (Below.refl _ _) (Nat.le_refl _) (by simp) ?_; (case hd => rfl); (case hg => rfl); (case hr => first | (go_simp; done) | (go_simp; rfl)); (case hp => exact (Reps.one (show Kd.M Kd.string _ _ _ (⟨#[97, 110, 100]⟩ : ByteArray) [.string (⟨#[97, 110, 100]⟩ : ByteArray)] from rfl) (Reps.one (show Kd.M Kd.string _ _ _ (⟨#[111, 114]⟩ : ByteArray) [.string (⟨#[111, 114]⟩ : ByteArray)] from rfl) (Reps.one (show Kd.M Kd.string _ _ _ (⟨#[110, 111, 114]⟩ : ByteArray) [.string (⟨#[110, 111, 114]⟩ : ByteArray)] from rfl) (Reps.none _ _))))); intro v148 w35 ho36 hb hg_ hnew_; clear hg_ hnew_; (first | rw [← Ny147.out] at ho36 | (simp only [Int.reduceToNat] at ho36; rw [← Ny147.out] at ho36)); have n0_ := Aside0.mk (Kd.R_elder' (by (with_reducible repeat (first | apply Kd.R_alloc | apply Kd.R_drewN | apply Kd.R_drew)); exact HO_5.out) (Kd.R_base ho36) hb); have n1_ := Aside0.mk (Kd.R_lower (Kd.R_new' ho36 (Kd.R_lt (by (with_reducible repeat (first | apply Kd.R_alloc | apply Kd.R_drewN | apply Kd.R_drew)); exact HO_5.out))) (below_size (by repeat (first | (with_reducible first | exact HB.out | apply below_alloc | apply pw_below_drewN | apply below_drew1) | exact HB.out)))); have n2_ := Aside0.mk (below_step (by repeat (first | (with_reducible first | exact HB.out | apply below_alloc | apply pw_below_drewN | apply below_drew1) | exact HB.out)) hb); clear HO_5; clear HB; have HO_5 := n0_; have HO149 := n1_; have HB := n2_; clear n0_ n1_ n2_; clear hb ho36; obtain ⟨Ao37, co37, eo37⟩ := Kd.R_slice HO149.out; subst eo37; have p150 : 0 ≤ ((ji15) : Int) := of_decide_eq_true (by first | (with_reducible assumption) | assumption); have q150 : (ji15) < (y147.length : Int) := of_decide_eq_true (by first | (with_reducible assumption) | assumption); obtain ⟨ad150, e150, hx150_0⟩ := Kd.at_string (Kd.R_reads' HO149.out).2.2 (ji15) p150 q150; cases e150; replace p150 := eq_true p150; replace q150 := eq_true q150; obtain ⟨Ao38, co38, eo38⟩ := Kd.R_slice HO_5.out; subst eo38) | ((with_reducible refine gate_callee (f := 7) rfl ?_); refine goesL_ (some 38) rfl rfl Try.func7 (by kernel_rfl) rfl #[.slice Ao38 x5_1.length co38, .string (rdOf ByteArray.empty y147 (ji15))] rfl (by (try simp only [List.map_toArray, List.map_cons, List.map_nil]); first | done | (simp only [hji15]; rfl) | rfl | (simp only [List.length_drop, List.length_take]; rfl)) ?_; (with_reducible refine (impl_Words.calls k1 _ _ x5_1 (rdOf ByteArray.empty y147 (ji15)) t151 _ ?side1 ?side2 A18.out).mono ?_); (case side1 => repeat (first | exact (Kd.R_reads' HO_5.out).2.2 | (with_reducible refine Kd.C_alloc ?_ _) | (with_reducible refine Kd.C_drewN ?_ _) | (with_reducible refine Kd.C_drew ?_))); (case side2 => exact (Kd.R_reads' HO_5.out).2.1); rintro e w39 ⟨rfl, hb⟩; refine ⟨_, rfl, ?_⟩; have n0_ := Aside0.mk (Kd.R_below (by (with_reducible repeat (first | apply Kd.R_alloc | apply Kd.R_drewN | apply Kd.R_drew)); exact HO_5.out) hb); have n1_ := Aside0.mk (Kd.R_below (by (with_reducible repeat (first | apply Kd.R_alloc | apply Kd.R_drewN | apply Kd.R_drew)); exact HO149.out) hb); have n2_ := Aside0.mk (below_step (by repeat (first | (with_reducible first | exact HB.out | apply below_alloc | apply pw_below_drewN | apply below_drew1) | exact HB.out)) hb); clear HO_5; clear HO149; clear HB; have HO_5 := n0_; have HO149 := n1_; have HB := n2_; clear n0_ n1_ n2_; (try clear hb); (try clear hb2); (try clear hk); (try clear hi)) | ((with_reducible refine gate_callee (f := 8) rfl ?_); refine goesL_ (some 41) rfl rfl Try.func8 (by kernel_rfl) rfl #[.slice Ao38 x5_1.length co38, .string (rdOf ByteArray.empty y147 (ji15)), .bool false] rfl (by (try simp only [List.map_toArray, List.map_cons, List.map_nil]); first | done | (simp only [hji15]; rfl) | rfl | (simp only [List.length_drop, List.length_take]; rfl)) ?_; (with_reducible refine (spec_Series.calls k1 _ _ x5_1 (rdOf ByteArray.empty y147 (ji15)) false t152 _ ?side1 ?side2 A19.out).mono ?_); (case side1 => repeat (first | exact (Kd.R_reads' HO_5.out).2.2 | (with_reducible refine Kd.C_alloc ?_ _) | (with_reducible refine Kd.C_drewN ?_ _) | (with_reducible refine Kd.C_drew ?_))); (case side2 => exact (Kd.R_reads' HO_5.out).2.1); rintro e w' ⟨rfl, ⟨nd, rfl⟩⟩; refine ⟨_, rfl, ?_⟩) | (go_at_call 9; (with_reducible refine (impl_Oxford.calls k1 _ _ x5_1 (rdOf ByteArray.empty y147 (ji15)) t153 _ ?side1 ?side2 A21.out).mono ?_); (case side1 => repeat (first | exact (Kd.R_reads' HO_5.out).2.2 | (with_reducible refine Kd.C_alloc ?_ _) | (with_reducible refine Kd.C_drewN ?_ _) | (with_reducible refine Kd.C_drew ?_))); (case side2 => exact (Kd.R_reads' HO_5.out).2.1); rintro e w40 ⟨rfl, hb⟩; have n0_ := Aside0.mk (Kd.R_below (by (with_reducible repeat (first | apply Kd.R_alloc | apply Kd.R_drewN | apply Kd.R_drew)); exact HO_5.out) hb); have n1_ := Aside0.mk (Kd.R_below (by (with_reducible repeat (first | apply Kd.R_alloc | apply Kd.R_drewN | apply Kd.R_drew)); exact HO149.out) hb); have n2_ := Aside0.mk (below_step (by repeat (first | (with_reducible first | exact HB.out | apply below_alloc | apply pw_below_drewN | apply below_drew1) | exact HB.out)) hb); clear HO_5; clear HO149; clear HB; have HO_5 := n0_; have HO149 := n1_; have HB := n2_; clear n0_ n1_ n2_; (try clear hb); (try clear hb2); (try clear hk); (try clear hi)) | (go_at_call 8; (with_reducible refine (spec_Series.calls k1 _ _ x5_1 (rdOf ByteArray.empty y147 (ji15)) true t154 _ ?side1 ?side2 A22.out).mono ?_); (case side1 => repeat (first | exact (Kd.R_reads' HO_5.out).2.2 | (with_reducible refine Kd.C_alloc ?_ _) | (with_reducible refine Kd.C_drewN ?_ _) | (with_reducible refine Kd.C_drew ?_))); (case side2 => exact (Kd.R_reads' HO_5.out).2.1); rintro e w' ⟨rfl, ⟨nd, rfl⟩⟩))
                    go_ret
                    exact ⟨by first | rfl | (simp [errW_none, errW_some] <;> rfl) | (simp only [← hji15]; first | rfl | (simp [errW_none, errW_some] <;> rfl)) | (simp [*, errW_none, errW_some] <;> rfl), by repeat (first | (with_reducible first | exact HB.out | apply below_alloc | apply pw_below_drewN | apply below_drew1) | exact HB.out)⟩
                · rw [if_neg c20] at H
                  have c20b0 : (t151.toList == t152.toList) = false := beq_eq_false_iff_ne.mpr c20
                  have c20b1 : (t151.toList != t152.toList) = true := bne_iff_ne.mpr c20
                  obtain rfl := Option.some.inj H
                  go_wp2_with (first | ((with_reducible refine gate_dst (N := 31) rfl ?_); (try (refine gate_guard (by rfl) ?_; dsimp only)); refine Kd.R_lit Kd.string _ 9 ?hg (N := 31) ?hd (xs := ([(⟨#[97, 110, 100]⟩ : ByteArray), (⟨#[111, 114]⟩ : ByteArray), (⟨#[110, 111, 114]⟩ : ByteArray)] : List ByteArray)) (inner := [.string (⟨#[97, 110, 100]⟩ : ByteArray), .string (⟨#[111, 114]⟩ : ByteArray), .string (⟨#[110, 111, 114]⟩ : ByteArray)]) (ok := fun _ => True) (okp := fun _ => True) ?hr ?hp (fun _ hk => hk) trivial (Below.refl _ _) (Nat.le_refl _) (by simp) ?_; (case hd => rfl); (case hg => rfl); (case hr => first | (go_simp; done) | (go_simp; rfl)); (case hp => exact (Reps.one (show Kd.M Kd.string _ _ _ (⟨#[97, 110, 100]⟩ : ByteArray) [.string (⟨#[97, 110, 100]⟩ : ByteArray)] from rfl) (Reps.one (show Kd.M Kd.string _ _ _ (⟨#[111, 114]⟩ : ByteArray) [.string (⟨#[111, 114]⟩ : ByteArray)] from rfl) (Reps.one (show Kd.M Kd.string _ _ _ (⟨#[110, 111, 114]⟩ : ByteArray) [.string (⟨#[110, 111, 114]⟩ : ByteArray)] from rfl) (Reps.none _ _))))); intro v148 w41 ho42 hb hg_ hnew_; clear hg_ hnew_; (first | rw [← Ny147.out] at ho42 | (simp only [Int.reduceToNat] at ho42; rw [← Ny147.out] at ho42)); have n0_ := Aside0.mk (Kd.R_elder' (by (with_reducible repeat (first | apply Kd.R_alloc | apply Kd.R_drewN | apply Kd.R_drew)); exact HO_5.out) (Kd.R_base ho42) hb); have n1_ := Aside0.mk (Kd.R_lower (Kd.R_new' ho42 (Kd.R_lt (by (with_reducible repeat (first | apply Kd.R_alloc | apply Kd.R_drewN | apply Kd.R_drew)); exact HO_5.out))) (below_size (by repeat (first | (with_reducible first | exact HB.out | apply below_alloc | apply pw_below_drewN | apply below_drew1) | exact HB.out)))); have n2_ := Aside0.mk (below_step (by repeat (first | (with_reducible first | exact HB.out | apply below_alloc | apply pw_below_drewN | apply below_drew1) | exact HB.out)) hb); clear HO_5; clear HB; have HO_5 := n0_; have HO149 := n1_; have HB := n2_; clear n0_ n1_ n2_; clear hb ho42; obtain ⟨Ao43, co43, eo43⟩ := Kd.R_slice HO149.out; subst eo43; have p150 : 0 ≤ ((ji15) : Int) := of_decide_eq_true (by first | (with_reducible assumption) | assumption); have q150 : (ji15) < (y147.length : Int) := of_decide_eq_true (by first | (with_reducible assumption) | assumption); obtain ⟨ad150, e150, hx150_0⟩ := Kd.at_string (Kd.R_reads' HO149.out).2.2 (ji15) p150 q150; cases e150; replace p150 := eq_true p150; replace q150 := eq_true q150; obtain ⟨Ao44, co44, eo44⟩ := Kd.R_slice HO_5.out; subst eo44) | ((with_reducible refine gate_callee (f := 7) rfl ?_); refine goesL_ (some 38) rfl rfl Try.func7 (by kernel_rfl) rfl #[.slice Ao44 x5_1.length co44, .string (rdOf ByteArray.empty y147 (ji15))] rfl (by (try simp only [List.map_toArray, List.map_cons, List.map_nil]); first | done | (simp only [hji15]; rfl) | rfl | (simp only [List.length_drop, List.length_take]; rfl)) ?_; (with_reducible refine (impl_Words.calls k1 _ _ x5_1 (rdOf ByteArray.empty y147 (ji15)) t151 _ ?side1 ?side2 A18.out).mono ?_); (case side1 => repeat (first | exact (Kd.R_reads' HO_5.out).2.2 | (with_reducible refine Kd.C_alloc ?_ _) | (with_reducible refine Kd.C_drewN ?_ _) | (with_reducible refine Kd.C_drew ?_))); (case side2 => exact (Kd.R_reads' HO_5.out).2.1); rintro e w45 ⟨rfl, hb⟩; refine ⟨_, rfl, ?_⟩; have n0_ := Aside0.mk (Kd.R_below (by (with_reducible repeat (first | apply Kd.R_alloc | apply Kd.R_drewN | apply Kd.R_drew)); exact HO_5.out) hb); have n1_ := Aside0.mk (Kd.R_below (by (with_reducible repeat (first | apply Kd.R_alloc | apply Kd.R_drewN | apply Kd.R_drew)); exact HO149.out) hb); have n2_ := Aside0.mk (below_step (by repeat (first | (with_reducible first | exact HB.out | apply below_alloc | apply pw_below_drewN | apply below_drew1) | exact HB.out)) hb); clear HO_5; clear HO149; clear HB; have HO_5 := n0_; have HO149 := n1_; have HB := n2_; clear n0_ n1_ n2_; (try clear hb); (try clear hb2); (try clear hk); (try clear hi)) | ((with_reducible refine gate_callee (f := 8) rfl ?_); refine goesL_ (some 41) rfl rfl Try.func8 (by kernel_rfl) rfl #[.slice Ao44 x5_1.length co44, .string (rdOf ByteArray.empty y147 (ji15)), .bool false] rfl (by (try simp only [List.map_toArray, List.map_cons, List.map_nil]); first | done | (simp only [hji15]; rfl) | rfl | (simp only [List.length_drop, List.length_take]; rfl)) ?_; (with_reducible refine (spec_Series.calls k1 _ _ x5_1 (rdOf ByteArray.empty y147 (ji15)) false t152 _ ?side1 ?side2 A19.out).mono ?_); (case side1 => repeat (first | exact (Kd.R_reads' HO_5.out).2.2 | (with_reducible refine Kd.C_alloc ?_ _) | (with_reducible refine Kd.C_drewN ?_ _) | (with_reducible refine Kd.C_drew ?_))); (case side2 => exact (Kd.R_reads' HO_5.out).2.1); rintro e w' ⟨rfl, ⟨nd, rfl⟩⟩; refine ⟨_, rfl, ?_⟩))
                  go_ret
                  exact ⟨by first | rfl | (simp [errW_none, errW_some] <;> rfl) | (simp only [← hji15]; first | rfl | (simp [errW_none, errW_some] <;> rfl)) | (simp [*, errW_none, errW_some] <;> rfl), by repeat (first | (with_reducible first | exact HB.out | apply below_alloc | apply pw_below_drewN | apply below_drew1) | exact HB.out)⟩
              · rw [if_neg c17] at H
                exact absurd H (by simp)
            · rw [if_neg c16] at H
              exact absurd H (by simp)
  · replace c4 := Bool.eq_false_iff.mpr c4
    subst c4
    have H1 : (some true) = some r := by rw [if_neg (show ¬ (false = true) by decide)] at H; exact H
    clear H
    have H := H1
    clear H1
    obtain rfl := Option.some.inj H
    go_enter Try.func3, Try.ntmps3
    go_wp2_with (first | ((with_reducible refine gate_callee (f := 5) rfl ?_); refine goesL_ (some 10) rfl rfl Try.func5 (by kernel_rfl) rfl #[.slice A0 l0.length c0] rfl (by (try simp only [List.map_toArray, List.map_cons, List.map_nil]); first | done | rfl | (simp only [List.length_drop, List.length_take]; rfl)) ?_; (with_reducible refine (laws_zzFits1.calls k _ _ l0 false _ ?side1 ?side2 A3.out).mono ?_); (case side1 => repeat (first | exact HR0.out | (with_reducible refine Kd.C_alloc ?_ _) | (with_reducible refine Kd.C_drewN ?_ _) | (with_reducible refine Kd.C_drew ?_))); (case side2 => exact HC0.out); rintro e w' ⟨rfl, ⟨nd, rfl⟩⟩; refine ⟨_, rfl, ?_⟩))
    go_ret
    exact ⟨by first | rfl | (simp [errW_none, errW_some] <;> rfl) | (simp [*, errW_none, errW_some] <;> rfl), by repeat (first | (with_reducible first | exact HB.out | apply below_alloc | apply pw_below_drewN | apply below_drew1) | exact HB.out)⟩

end Go.Proofs.Ytmdgbbiipjmenaa.PFnWords
