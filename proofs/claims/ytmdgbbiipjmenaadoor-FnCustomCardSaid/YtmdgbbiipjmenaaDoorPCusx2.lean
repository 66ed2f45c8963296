-- written by a program of this work
import Derived.Test.YtmdgbbiipjmenaaDoorCusPure
import Derived.Test.YtmdgbbiipjmenaaDoorPCusx0
import Derived.Test.YtmdgbbiipjmenaaDoorPCusx1
namespace Go.Proofs.YtmdgbbiipjmenaaDoor.PCus
open Go.RowKit Go.Proofs.YtmdgbbiipjmenaaDoorW.PrintWords Go.Proofs.YtmdgbbiipjmenaaDoorW.PrintLast Go.Proofs.YtmdgbbiipjmenaaDoorW.PrintMore
attribute [local go_sem] max2_int min2_int max_two min_two max_three min_three max_four min_four   -- for this text's walks alone
set_option linter.unusedVariables false
set_option linter.unusedSimpArgs false

/-! ### humanize_CustomRelTime: function 21 -/
def humanize_CustomRelTime.conv (x : S47) : Go.Proofs.YtmdgbbiipjmenaaDoor.PAll.S47 := ⟨x.f0, x.f1, x.f2⟩
def humanize_CustomRelTime.f (_k : Nat) (a0 a1 : Int) (a2 a3 : ByteArray) (l4 : List S47) : Option ByteArray :=
  Go.Proofs.YtmdgbbiipjmenaaDoor.CustomPure.customF a0 a1 a2 a3 (l4.map humanize_CustomRelTime.conv)
theorem humanize_CustomRelTime.mono : ∀ a0 a1 a2 a3 a4 k, LeO (humanize_CustomRelTime.f k a0 a1 a2 a3 a4) (humanize_CustomRelTime.f (k + 1) a0 a1 a2 a3 a4) := fun _ _ _ _ _ _ => LeO.refl _
theorem humanize_CustomRelTime.conv_C {w : World} {A : Option Addr} {xs : List S47} (h : Kd.C k47 w A xs.length xs) : Kd.C Go.Proofs.YtmdgbbiipjmenaaDoor.PAll.k47 w A (xs.map humanize_CustomRelTime.conv).length (xs.map humanize_CustomRelTime.conv) := by
  obtain ⟨h1, h2, h3⟩ := h
  refine ⟨rfl, by simpa using h2, fun hp => ?_⟩
  obtain ⟨ad, e, hc⟩ := h3 (by simpa using hp)
  refine ⟨ad, e, fun j p hj => ?_⟩
  rw [List.getElem?_map] at hj
  obtain ⟨x, hx, rfl⟩ := Option.map_eq_some_iff.1 hj
  obtain ⟨c, hl, hK, hcell⟩ := hc j x hx
  obtain rfl := k47_open hK
  exact ⟨_, hl, Go.Proofs.YtmdgbbiipjmenaaDoor.PAll.k47_mk w (humanize_CustomRelTime.conv x), hcell⟩
theorem humanize_CustomRelTime.calls (k : Nat) (a0 a1 : Int) (a2 a3 : ByteArray) (A4 : Option Addr) (c4 : Nat) (l4 : List S47) (r : ByteArray) (w : World) (hr4 : Kd.C k47 w A4 l4.length l4) (_hc4 : l4.length ≤ c4) (h : humanize_CustomRelTime.f k a0 a1 a2 a3 l4 = some r) (ht : Go.Proofs.YtmdgbbiipjmenaaDoor.Ord.Tab w) :
    Calls Tryd.prog 21 #[.int .i64 a0, .int .i64 a1, .string a2, .string a3, .slice A4 l4.length c4] w fun e w' => e = .returned (.string r) ∧ Below w.heap.size w w' := by
  have hC := humanize_CustomRelTime.conv_C hr4
  have := Go.Proofs.YtmdgbbiipjmenaaDoor.CustomPure.custom_calls a0 a1 a2 a3 A4 c4 _ r w hC h ht
  simpa using this

/-! ### impl_Custom: function 9 -/
mutual
def impl_Custom.j0 : Nat → Int → ByteArray → ByteArray → List (S30) → Bool → Option (ByteArray)
  | 0, _, _, _, _, _ => none
  | k + 1, x0, x1, x2, x3, x30 => if x30 = true then (some (⟨#[]⟩ : ByteArray)) else (impl_Custom.l0 k x0 x1 x2 ([] : List (S47)) x3 (x3.length : Int) 0)
def impl_Custom.l0 : Nat → Int → ByteArray → ByteArray → List (S47) → List (S30) → Int → Int → Option (ByteArray)
  | 0, _, _, _, _, _, _, _ => none
  | k + 1, x0, x1, x2, x9, x31, x32, x33 => if x33 < x32 then (if 0 ≤ x33 then (if x33 < (x31.length : Int) then ((impl_isFormat.f k ((rd_T30 x31 x33).f1)).bind fun t131 => (if t131 = true then (if ((rd_T30 x31 x33).f2) = 0 then (some (⟨#[]⟩ : ByteArray)) else (if x9.length < 4398046511104 then (impl_Custom.l0 k x0 x1 x2 (x9 ++ [(⟨(rd_T30 x31 x33).f0, (rd_T30 x31 x33).f1, (rd_T30 x31 x33).f2⟩ : S47)]) x31 x32 (wrap64 (x33 + 1))) else (none))) else (some (⟨#[]⟩ : ByteArray)))) else (none)) else (none)) else ((humanize_CustomRelTime.f k 0 x0 x1 x2 x9).bind fun t135 => (some t135))
end
def impl_Custom.f (k : Nat) (a0 : Int) (a1 : ByteArray) (a2 : ByteArray) (l3 : List (S30)) : Option (ByteArray) := (impl_isText.f k false (([a1, a2] : List ByteArray))).bind fun t128 => (if t128 = true then (if a0 = (-9223372036854775808) then (impl_Custom.j0 k a0 a1 a2 l3 true) else (if (l3.length : Int) < 1 then (impl_Custom.j0 k a0 a1 a2 l3 true) else (impl_Custom.j0 k a0 a1 a2 l3 (decide ((l3.length : Int) > 20))))) else (impl_Custom.j0 k a0 a1 a2 l3 true))
theorem impl_Custom.mono_l : ∀ k, (∀ y0 y1 y2 y3 y4, LeO (impl_Custom.j0 k y0 y1 y2 y3 y4) (impl_Custom.j0 (k + 1) y0 y1 y2 y3 y4)) ∧ (∀ y0 y1 y2 y3 y4 y5 y6, LeO (impl_Custom.l0 k y0 y1 y2 y3 y4 y5 y6) (impl_Custom.l0 (k + 1) y0 y1 y2 y3 y4 y5 y6))
  | 0 => ⟨fun _ _ _ _ _ r h => by simp [impl_Custom.j0] at h, fun _ _ _ _ _ _ _ r h => by simp [impl_Custom.l0] at h⟩
  | k + 1 => by
    obtain ⟨ih0, ih1⟩ := impl_Custom.mono_l k
    refine ⟨?_, ?_⟩
    · intro y0 y1 y2 y3 y4
      unfold impl_Custom.j0
      repeat' first
      | (with_reducible exact ih0 _ _ _ _ _)
      | (with_reducible exact ih1 _ _ _ _ _ _ _)
      | (with_reducible exact humanize_CustomRelTime.mono _ _ _ _ _ _)
      | (with_reducible exact impl_isFormat.mono _ _)
      | (with_reducible exact impl_isText.mono _ _ _)
      | (with_reducible exact LeO.refl _)
      | (with_reducible exact LeO.none _)
      | (with_reducible refine LeO.ite ?_ ?_)
      | (with_reducible refine LeO.bind ?_ (fun _ => ?_))
      | exact ih0 _ _ _ _ _
      | exact ih1 _ _ _ _ _ _ _
      | exact humanize_CustomRelTime.mono _ _ _ _ _ _
      | exact impl_isFormat.mono _ _
      | exact impl_isText.mono _ _ _
      | exact LeO.none _
      | refine LeO.ite ?_ ?_
      | refine LeO.bind ?_ (fun _ => ?_)
    · intro y0 y1 y2 y3 y4 y5 y6
      unfold impl_Custom.l0
      repeat' first
      | (with_reducible exact ih0 _ _ _ _ _)
      | (with_reducible exact ih1 _ _ _ _ _ _ _)
      | (with_reducible exact humanize_CustomRelTime.mono _ _ _ _ _ _)
      | (with_reducible exact impl_isFormat.mono _ _)
      | (with_reducible exact impl_isText.mono _ _ _)
      | (with_reducible exact LeO.refl _)
      | (with_reducible exact LeO.none _)
      | (with_reducible refine LeO.ite ?_ ?_)
      | (with_reducible refine LeO.bind ?_ (fun _ => ?_))
      | exact ih0 _ _ _ _ _
      | exact ih1 _ _ _ _ _ _ _
      | exact humanize_CustomRelTime.mono _ _ _ _ _ _
      | exact impl_isFormat.mono _ _
      | exact impl_isText.mono _ _ _
      | exact LeO.none _
      | refine LeO.ite ?_ ?_
      | refine LeO.bind ?_ (fun _ => ?_)
theorem impl_Custom.mono : ∀ a0 a1 a2 a3 k, LeO (impl_Custom.f k a0 a1 a2 a3) (impl_Custom.f (k + 1) a0 a1 a2 a3) := by
  intro a0 a1 a2 a3 k
  obtain ⟨ih0, ih1⟩ := impl_Custom.mono_l k
  unfold impl_Custom.f
  repeat' first
      | (with_reducible exact ih0 _ _ _ _ _)
      | (with_reducible exact ih1 _ _ _ _ _ _ _)
      | (with_reducible exact humanize_CustomRelTime.mono _ _ _ _ _ _)
      | (with_reducible exact impl_isFormat.mono _ _)
      | (with_reducible exact impl_isText.mono _ _ _)
      | (with_reducible exact LeO.refl _)
      | (with_reducible exact LeO.none _)
      | (with_reducible refine LeO.ite ?_ ?_)
      | (with_reducible refine LeO.bind ?_ (fun _ => ?_))
      | exact ih0 _ _ _ _ _
      | exact ih1 _ _ _ _ _ _ _
      | exact humanize_CustomRelTime.mono _ _ _ _ _ _
      | exact impl_isFormat.mono _ _
      | exact impl_isText.mono _ _ _
      | exact LeO.none _
      | refine LeO.ite ?_ ?_
      | refine LeO.bind ?_ (fun _ => ?_)
set_option maxHeartbeats 8000000 in
set_option maxRecDepth 100000 in
theorem impl_Custom.calls (k : Nat) (a0 : Int) (a1 : ByteArray) (a2 : ByteArray) (A3 : Option Addr) (c3 : Nat) (l3 : List (S30)) (r : ByteArray) (w : World) (hr3 : Kd.C k30 w A3 l3.length l3) (hc3 : l3.length ≤ c3) (h : impl_Custom.f k a0 a1 a2 l3 = some r) (ht_ : Aside0 (Go.Proofs.YtmdgbbiipjmenaaDoor.Ord.Tab w)) :
    Calls Tryd.prog 9 #[.int .i64 a0, .string a1, .string a2, .slice A3 l3.length c3] w fun e w' => e = .returned (.string r) ∧ Below w.heap.size w w' := by
  have hu30 := Tryd.underlying30
  have hu47 := Tryd.underlying47
  have HR3 := Aside0.mk hr3
  have HC3 := Aside0.mk hc3
  clear hr3 hc3
  have HB := Aside0.mk (Below.refl w.heap.size w)
  have H : ((impl_isText.f k false (([a1, a2] : List ByteArray))).bind fun t128 => (if t128 = true then (if a0 = (-9223372036854775808) then (impl_Custom.j0 k a0 a1 a2 l3 true) else (if (l3.length : Int) < 1 then (impl_Custom.j0 k a0 a1 a2 l3 true) else (impl_Custom.j0 k a0 a1 a2 l3 (decide ((l3.length : Int) > 20))))) else (impl_Custom.j0 k a0 a1 a2 l3 true))) = some r := h
  clear h
  have HC5 := Aside0.mk H
  clear H
  go_enter Tryd.func9, Tryd.ntmps9
  go_upto_region 1 with (fail)
  go_cut [30] (fun v30 wc => ∃ (kq : Nat) (x30_4 : Bool), v30 = .bool x30_4 ∧ Aside0 (impl_Custom.j0 kq a0 a1 a2 l3 x30_4 = some r) ∧ Aside0 (kq ≤ k) ∧ Aside0 (Below w.heap.size w wc))
  case first =>
    have H := HC5.out
    clear HC5
    obtain ⟨y125, hy125⟩ : ∃ y_ : List ByteArray, y_ = (([a1, a2] : List ByteArray)) := ⟨_, rfl⟩
    replace H : ((impl_isText.f k false y125).bind fun t128 => (if t128 = true then (if a0 = (-9223372036854775808) then (impl_Custom.j0 k a0 a1 a2 l3 true) else (if (l3.length : Int) < 1 then (impl_Custom.j0 k a0 a1 a2 l3 true) else (impl_Custom.j0 k a0 a1 a2 l3 (decide ((l3.length : Int) > 20))))) else (impl_Custom.j0 k a0 a1 a2 l3 true))) = some r := by first | (rw [hy125]; with_reducible exact H) | (have H2_ := (Option.bind_some _ _).symm.trans H; rw [hy125]; with_reducible exact H2_) | (have H2_ := (Option.bind_some _ _).symm.trans H; with_reducible exact H2_) | with_reducible exact H | (rw [hy125]; exact H) | exact H
    have Ny125 := Aside0.mk hy125
    clear hy125
    replace H := Option.bind_eq_some_iff.mp H
    obtain ⟨t128, A60, H⟩ := H
    replace H : (if t128 = true then (if a0 = (-9223372036854775808) then (impl_Custom.j0 k a0 a1 a2 l3 true) else (if (l3.length : Int) < 1 then (impl_Custom.j0 k a0 a1 a2 l3 true) else (impl_Custom.j0 k a0 a1 a2 l3 (decide ((l3.length : Int) > 20))))) else (impl_Custom.j0 k a0 a1 a2 l3 true)) = some r := H
    have A6 := Aside0.mk A60
    clear A60
    by_cases c7 : t128 = true
    · subst c7
      have H1 : (if a0 = (-9223372036854775808) then (impl_Custom.j0 k a0 a1 a2 l3 true) else (if (l3.length : Int) < 1 then (impl_Custom.j0 k a0 a1 a2 l3 true) else (impl_Custom.j0 k a0 a1 a2 l3 (decide ((l3.length : Int) > 20))))) = some r := by rw [if_pos rfl] at H; exact H
      clear H
      have H := H1
      clear H1
      by_cases c8 : a0 = (-9223372036854775808)
      · rw [if_pos c8] at H
        have c8b0 : (a0 == (-9223372036854775808)) = true := beq_iff_eq.mpr c8
        have c8b1 : (a0 != (-9223372036854775808)) = false := bne_eq_false_iff_eq.mpr c8
        clear c8
        (first | rw [c8b0] | (simp only [i64_w, i32_w]; rw [c8b0]) | rw [c8b2] | skip)
        have H' := Aside0.mk H
        clear H
        go_wp2_with (first | ((with_reducible refine gate_dst (N := 14) rfl ?_); (try (refine gate_guard (by rfl) ?_; dsimp only)); refine Kd.R_lit Kd.string _ 9 ?hg (N := 14) ?hd (xs := ([a1, a2] : List ByteArray)) (inner := [.string a1, .string a2]) (ok := fun _ => True) (okp := fun _ => True) ?hr ?hp (fun _ hk => hk) trivial (Below.refl _ _) (Nat.le_refl _) (by simp) ?_; (case hd => rfl); (case hg => rfl); (case hr => first | (go_simp; done) | (go_simp; rfl)); (case hp => exact (Reps.one (show Kd.M Kd.string _ _ _ a1 [.string a1] from rfl) (Reps.one (show Kd.M Kd.string _ _ _ a2 [.string a2] from rfl) (Reps.none _ _)))); intro v126 w9 ho10 hb hg_ hnew_; clear hg_ hnew_; (first | rw [← Ny125.out] at ho10 | (simp only [Int.reduceToNat] at ho10; rw [← Ny125.out] at ho10)); have n0_ := Aside0.mk (Kd.R_lower ho10 (below_size (by repeat (first | (with_reducible first | exact HB.out | apply below_alloc | apply pw_below_drewN | apply below_drew1) | exact HB.out)))); have n1_ := Aside0.mk (below_step (by repeat (first | (with_reducible first | exact HB.out | apply below_alloc | apply pw_below_drewN | apply below_drew1) | exact HB.out)) hb); clear HB; have HO127 := n0_; have HB := n1_; clear n0_ n1_; clear hb ho10; obtain ⟨Ao11, co11, eo11⟩ := Kd.R_slice HO127.out; subst eo11) | ((with_reducible refine gate_callee (f := 19) rfl ?_); refine goesL_ (some 15) rfl rfl Tryd.func19 (by kernel_rfl) rfl #[.bool false, .slice Ao11 y125.length co11] rfl (by (try simp only [List.map_toArray, List.map_cons, List.map_nil]); first | done | rfl | (simp only [List.length_drop, List.length_take]; rfl)) ?_; (with_reducible refine (impl_isText.calls k false _ _ y125 true _ ?side1 ?side2 A6.out).mono ?_); (case side1 => repeat (first | exact (Kd.R_reads' HO127.out).2.2 | (with_reducible refine Kd.C_alloc ?_ _) | (with_reducible refine Kd.C_drewN ?_ _) | (with_reducible refine Kd.C_drew ?_))); (case side2 => exact (Kd.R_reads' HO127.out).2.1); rintro e w' ⟨rfl, ⟨nd, rfl⟩⟩; refine ⟨_, rfl, ?_⟩))
        go_meet
        case rel => exact ⟨_, (true), (by first | rfl | (simp; done) | (simp [*]; done)), H', ⟨by first | omega | exact Nat.le_refl _⟩, ⟨by repeat (first | (with_reducible first | exact HB.out | apply below_alloc | apply pw_below_drewN | apply below_drew1) | exact HB.out)⟩⟩
      · rw [if_neg c8] at H
        have c8b0 : (a0 == (-9223372036854775808)) = false := beq_eq_false_iff_ne.mpr c8
        have c8b1 : (a0 != (-9223372036854775808)) = true := bne_iff_ne.mpr c8
        (first | rw [c8b0] | (simp only [i64_w, i32_w]; rw [c8b0]) | rw [c8b2] | skip)
        by_cases c12 : (l3.length : Int) < 1
        · rw [if_pos c12] at H
          have c12b0 : decide ((l3.length : Int) < 1) = true := decide_eq_true c12
          have c12b1 : decide (l3.length < 1) = true := decide_eq_true (by omega)
          clear c12
          have H' := Aside0.mk H
          clear H
          go_wp2_with (first | ((with_reducible refine gate_dst (N := 14) rfl ?_); (try (refine gate_guard (by rfl) ?_; dsimp only)); refine Kd.R_lit Kd.string _ 9 ?hg (N := 14) ?hd (xs := ([a1, a2] : List ByteArray)) (inner := [.string a1, .string a2]) (ok := fun _ => True) (okp := fun _ => True) ?hr ?hp (fun _ hk => hk) trivial (Below.refl _ _) (Nat.le_refl _) (by simp) ?_; (case hd => rfl); (case hg => rfl); (case hr => first | (go_simp; done) | (go_simp; rfl)); (case hp => exact (Reps.one (show Kd.M Kd.string _ _ _ a1 [.string a1] from rfl) (Reps.one (show Kd.M Kd.string _ _ _ a2 [.string a2] from rfl) (Reps.none _ _)))); intro v126 w13 ho14 hb hg_ hnew_; clear hg_ hnew_; (first | rw [← Ny125.out] at ho14 | (simp only [Int.reduceToNat] at ho14; rw [← Ny125.out] at ho14)); have n0_ := Aside0.mk (Kd.R_lower ho14 (below_size (by repeat (first | (with_reducible first | exact HB.out | apply below_alloc | apply pw_below_drewN | apply below_drew1) | exact HB.out)))); have n1_ := Aside0.mk (below_step (by repeat (first | (with_reducible first | exact HB.out | apply below_alloc | apply pw_below_drewN | apply below_drew1) | exact HB.out)) hb); clear HB; have HO127 := n0_; have HB := n1_; clear n0_ n1_; clear hb ho14; obtain ⟨Ao15, co15, eo15⟩ := Kd.R_slice HO127.out; subst eo15) | ((with_reducible refine gate_callee (f := 19) rfl ?_); refine goesL_ (some 15) rfl rfl Tryd.func19 (by kernel_rfl) rfl #[.bool false, .slice Ao15 y125.length co15] rfl (by (try simp only [List.map_toArray, List.map_cons, List.map_nil]); first | done | rfl | (simp only [List.length_drop, List.length_take]; rfl)) ?_; (with_reducible refine (impl_isText.calls k false _ _ y125 true _ ?side1 ?side2 A6.out).mono ?_); (case side1 => repeat (first | exact (Kd.R_reads' HO127.out).2.2 | (with_reducible refine Kd.C_alloc ?_ _) | (with_reducible refine Kd.C_drewN ?_ _) | (with_reducible refine Kd.C_drew ?_))); (case side2 => exact (Kd.R_reads' HO127.out).2.1); rintro e w' ⟨rfl, ⟨nd, rfl⟩⟩; refine ⟨_, rfl, ?_⟩))
          go_meet
          case rel => exact ⟨_, (true), (by first | rfl | (simp; done) | (simp [*]; done)), H', ⟨by first | omega | exact Nat.le_refl _⟩, ⟨by repeat (first | (with_reducible first | exact HB.out | apply below_alloc | apply pw_below_drewN | apply below_drew1) | exact HB.out)⟩⟩
        · rw [if_neg c12] at H
          have c12b0 : decide ((l3.length : Int) < 1) = false := decide_eq_false c12
          have c12b1 : decide (l3.length < 1) = false := decide_eq_false (by omega)
          clear c12
          have H' := Aside0.mk H
          clear H
          go_wp2_with (first | ((with_reducible refine gate_dst (N := 14) rfl ?_); (try (refine gate_guard (by rfl) ?_; dsimp only)); refine Kd.R_lit Kd.string _ 9 ?hg (N := 14) ?hd (xs := ([a1, a2] : List ByteArray)) (inner := [.string a1, .string a2]) (ok := fun _ => True) (okp := fun _ => True) ?hr ?hp (fun _ hk => hk) trivial (Below.refl _ _) (Nat.le_refl _) (by simp) ?_; (case hd => rfl); (case hg => rfl); (case hr => first | (go_simp; done) | (go_simp; rfl)); (case hp => exact (Reps.one (show Kd.M Kd.string _ _ _ a1 [.string a1] from rfl) (Reps.one (show Kd.M Kd.string _ _ _ a2 [.string a2] from rfl) (Reps.none _ _)))); intro v126 w16 ho17 hb hg_ hnew_; clear hg_ hnew_; (first | rw [← Ny125.out] at ho17 | (simp only [Int.reduceToNat] at ho17; rw [← Ny125.out] at ho17)); have n0_ := Aside0.mk (Kd.R_lower ho17 (below_size (by repeat (first | (with_reducible first | exact HB.out | apply below_alloc | apply pw_below_drewN | apply below_drew1) | exact HB.out)))); have n1_ := Aside0.mk (below_step (by repeat (first | (with_reducible first | exact HB.out | apply below_alloc | apply pw_below_drewN | apply below_drew1) | exact HB.out)) hb); clear HB; have HO127 := n0_; have HB := n1_; clear n0_ n1_; clear hb ho17; obtain ⟨Ao18, co18, eo18⟩ := Kd.R_slice HO127.out; subst eo18) | ((with_reducible refine gate_callee (f := 19) rfl ?_); refine goesL_ (some 15) rfl rfl Tryd.func19 (by kernel_rfl) rfl #[.bool false, .slice Ao18 y125.length co18] rfl (by (try simp only [List.map_toArray, List.map_cons, List.map_nil]); first | done | rfl | (simp only [List.length_drop, List.length_take]; rfl)) ?_; (with_reducible refine (impl_isText.calls k false _ _ y125 true _ ?side1 ?side2 A6.out).mono ?_); (case side1 => repeat (first | exact (Kd.R_reads' HO127.out).2.2 | (with_reducible refine Kd.C_alloc ?_ _) | (with_reducible refine Kd.C_drewN ?_ _) | (with_reducible refine Kd.C_drew ?_))); (case side2 => exact (Kd.R_reads' HO127.out).2.1); rintro e w' ⟨rfl, ⟨nd, rfl⟩⟩; refine ⟨_, rfl, ?_⟩))
          go_meet
          case rel => exact ⟨_, (decide ((l3.length : Int) > 20)), (by first | rfl | (simp; done) | (simp [*]; done)), H', ⟨by first | omega | exact Nat.le_refl _⟩, ⟨by repeat (first | (with_reducible first | exact HB.out | apply below_alloc | apply pw_below_drewN | apply below_drew1) | exact HB.out)⟩⟩
    · replace c7 := Bool.eq_false_iff.mpr c7
      subst c7
      have H1 : (impl_Custom.j0 k a0 a1 a2 l3 true) = some r := by rw [if_neg (show ¬ (false = true) by decide)] at H; exact H
      clear H
      have H := H1
      clear H1
      have H' := Aside0.mk H
      clear H
      go_wp2_with (first | ((with_reducible refine gate_dst (N := 14) rfl ?_); (try (refine gate_guard (by rfl) ?_; dsimp only)); refine Kd.R_lit Kd.string _ 9 ?hg (N := 14) ?hd (xs := ([a1, a2] : List ByteArray)) (inner := [.string a1, .string a2]) (ok := fun _ => True) (okp := fun _ => True) ?hr ?hp (fun _ hk => hk) trivial (Below.refl _ _) (Nat.le_refl _) (by simp) ?_; (case hd => rfl); (case hg => rfl); (case hr => first | (go_simp; done) | (go_simp; rfl)); (case hp => exact (Reps.one (show Kd.M Kd.string _ _ _ a1 [.string a1] from rfl) (Reps.one (show Kd.M Kd.string _ _ _ a2 [.string a2] from rfl) (Reps.none _ _)))); intro v126 w19 ho20 hb hg_ hnew_; clear hg_ hnew_; (first | rw [← Ny125.out] at ho20 | (simp only [Int.reduceToNat] at ho20; rw [← Ny125.out] at ho20)); have n0_ := Aside0.mk (Kd.R_lower ho20 (below_size (by repeat (first | (with_reducible first | exact HB.out | apply below_alloc | apply pw_below_drewN | apply below_drew1) | exact HB.out)))); have n1_ := Aside0.mk (below_step (by repeat (first | (with_reducible first | exact HB.out | apply below_alloc | apply pw_below_drewN | apply below_drew1) | exact HB.out)) hb); clear HB; have HO127 := n0_; have HB := n1_; clear n0_ n1_; clear hb ho20; obtain ⟨Ao21, co21, eo21⟩ := Kd.R_slice HO127.out; subst eo21) | ((with_reducible refine gate_callee (f := 19) rfl ?_); refine goesL_ (some 15) rfl rfl Tryd.func19 (by kernel_rfl) rfl #[.bool false, .slice Ao21 y125.length co21] rfl (by (try simp only [List.map_toArray, List.map_cons, List.map_nil]); first | done | rfl | (simp only [List.length_drop, List.length_take]; rfl)) ?_; (with_reducible refine (impl_isText.calls k false _ _ y125 false _ ?side1 ?side2 A6.out).mono ?_); (case side1 => repeat (first | exact (Kd.R_reads' HO127.out).2.2 | (with_reducible refine Kd.C_alloc ?_ _) | (with_reducible refine Kd.C_drewN ?_ _) | (with_reducible refine Kd.C_drew ?_))); (case side2 => exact (Kd.R_reads' HO127.out).2.1); rintro e w' ⟨rfl, ⟨nd, rfl⟩⟩; refine ⟨_, rfl, ?_⟩))
      go_meet
      case rel => exact ⟨_, (true), (by first | rfl | (simp; done) | (simp [*]; done)), H', ⟨by first | omega | exact Nat.le_refl _⟩, ⟨by repeat (first | (with_reducible first | exact HB.out | apply below_alloc | apply pw_below_drewN | apply below_drew1) | exact HB.out)⟩⟩
  case rest =>
    clear HC5
    try clear c1
    try clear p2
    try clear c3
    try clear c7
    try clear c8
    try clear c8b0
    try clear c8b1
    try clear c8b2
    try clear c9
    try clear c12
    try clear c12b0
    try clear c12b1
    try clear c19
    obtain ⟨kq, x30_4, rfl, HA, HJ4, HB⟩ := hcut
    cases kq with
    | zero => exact absurd HA.out (by simp [impl_Custom.j0])
    | succ kj4 =>
      have H := HA.out
      clear HA
      simp only [impl_Custom.j0] at H
      by_cases c22 : x30_4 = true
      · subst c22
        have H1 : (some (⟨#[]⟩ : ByteArray)) = some r := by rw [if_pos rfl] at H; exact H
        clear H
        have H := H1
        clear H1
        obtain rfl := Option.some.inj H
        go_wp2
        go_ret
        exact ⟨by first | rfl | (simp [errW_none, errW_some] <;> rfl) | (simp [*, errW_none, errW_some] <;> rfl), by repeat (first | (with_reducible first | exact HB.out | apply below_alloc | apply pw_below_drewN | apply below_drew1) | exact HB.out)⟩
      · replace c22 := Bool.eq_false_iff.mpr c22
        subst c22
        have H1 : (impl_Custom.l0 kj4 a0 a1 a2 ([] : List (S47)) l3 (l3.length : Int) 0) = some r := by rw [if_neg (show ¬ (false = true) by decide)] at H; exact H
        clear H
        have H := H1
        clear H1
        have H' := Aside0.mk H
        clear H
        go_wp2
        go_loopg [9, 33] kj4 (fun kq v9 v33 w' => ∃ (x9_2 : List (S47)) (x33_2 : Int), v33 = .int .i64 x33_2 ∧ Aside0 (impl_Custom.l0 kq a0 a1 a2 x9_2 l3 (l3.length : Int) x33_2 = some r) ∧ Aside0 (kq ≤ kj4) ∧ Aside0 (Kd.R k47 47 w' w.heap.size (fun _ => True) v9 x9_2) ∧ Aside0 (Below w.heap.size w w'))
        case atStart => exact ⟨(([] : List (S47))), (0), (by first | rfl | (simp; done) | (simp [*]; done)), H', ⟨Nat.le_refl _⟩, ⟨by first | exact Kd.R_nil _ _ _ _ _ | exact Kd.N_nil _ _ _ _ _ | exact Kd.V_nil _ _ _ _ _ | exact Kd.Q_nil _ _ _ _ _ | exact Kd.S_nil _ _ _ _ _⟩, ⟨by repeat (first | (with_reducible first | exact HB.out | apply below_alloc | apply pw_below_drewN | apply below_drew1) | exact HB.out)⟩⟩
        case round =>
          clear H'
          try clear c1
          try clear c2
          try clear p2
          try clear c3
          try clear c7
          try clear c8
          try clear c8b0
          try clear c8b1
          try clear c8b2
          try clear c9
          try clear c12
          try clear c12b0
          try clear c12b1
          try clear c19
          try clear c22
          try clear p2
          obtain ⟨x9_2, x33_2, rfl, HA, HK2, HO_9, HB⟩ := hrel
          cases gk with
          | zero => exact absurd HA.out (by simp [impl_Custom.l0])
          | succ k2 =>
            have H := HA.out
            clear HA
            simp only [impl_Custom.l0] at H
            by_cases c23 : x33_2 < (l3.length : Int)
            · rw [if_pos c23] at H
              have c23b0 : decide (x33_2 < (l3.length : Int)) = true := decide_eq_true c23
              clear c23
              by_cases c24 : 0 ≤ x33_2
              · rw [if_pos c24] at H
                have c24b0 : decide (0 ≤ x33_2) = true := decide_eq_true c24
                clear c24
                by_cases c25 : x33_2 < (l3.length : Int)
                · rw [if_pos c25] at H
                  have c25b0 : decide (x33_2 < (l3.length : Int)) = true := decide_eq_true c25
                  clear c25
                  replace H := Option.bind_eq_some_iff.mp H
                  obtain ⟨t131, A260, H⟩ := H
                  replace H : (if t131 = true then (if ((rd_T30 l3 x33_2).f2) = 0 then (some (⟨#[]⟩ : ByteArray)) else (if x9_2.length < 4398046511104 then (impl_Custom.l0 k2 a0 a1 a2 (x9_2 ++ [(⟨(rd_T30 l3 x33_2).f0, (rd_T30 l3 x33_2).f1, (rd_T30 l3 x33_2).f2⟩ : S47)]) l3 (l3.length : Int) (wrap64 (x33_2 + 1))) else (none))) else (some (⟨#[]⟩ : ByteArray))) = some r := H
                  have A26 := Aside0.mk A260
                  clear A260
                  by_cases c27 : t131 = true
                  · subst c27
                    have H1 : (if ((rd_T30 l3 x33_2).f2) = 0 then (some (⟨#[]⟩ : ByteArray)) else (if x9_2.length < 4398046511104 then (impl_Custom.l0 k2 a0 a1 a2 (x9_2 ++ [(⟨(rd_T30 l3 x33_2).f0, (rd_T30 l3 x33_2).f1, (rd_T30 l3 x33_2).f2⟩ : S47)]) l3 (l3.length : Int) (wrap64 (x33_2 + 1))) else (none))) = some r := by rw [if_pos rfl] at H; exact H
                    clear H
                    have H := H1
                    clear H1
                    by_cases c28 : ((rd_T30 l3 x33_2).f2) = 0
                    · rw [if_pos c28] at H
                      have c28b0 : (((rd_T30 l3 x33_2).f2) == 0) = true := beq_iff_eq.mpr c28
                      have c28b1 : (((rd_T30 l3 x33_2).f2) != 0) = false := bne_eq_false_iff_eq.mpr c28
                      clear c28
                      obtain rfl := Option.some.inj H
                      have p129 : 0 ≤ (x33_2 : Int) := of_decide_eq_true (by first | (with_reducible assumption) | assumption)
                      have q129 : x33_2 < (l3.length : Int) := of_decide_eq_true (by first | (with_reducible assumption) | assumption)
                      obtain ⟨ad129, e129, hx129_0, hx129_1, hx129_2⟩ := at_T30 HR3.out x33_2 p129 q129
                      cases e129
                      replace hx129_0 := (HB.out.cell (World.block_lt_of_cell? w _ hx129_0)).trans hx129_0
                      replace hx129_1 := (HB.out.cell (World.block_lt_of_cell? w _ hx129_1)).trans hx129_1
                      replace hx129_2 := (HB.out.cell (World.block_lt_of_cell? w _ hx129_2)).trans hx129_2
                      replace p129 := eq_true p129
                      replace q129 := eq_true q129
                      go_wp2_with (first | ((with_reducible refine gate_dst (N := 11) rfl ?_); (try (refine gate_guard (by rfl) ?_; dsimp only)); refine box_event ?hg (N := 11) ?hd (cs := #[.int .i64 0, .string (⟨#[]⟩ : ByteArray), .int .i64 0]) (t := 30) ?hr ?_; (case hd => rfl); (case hg => rfl); (case hr => first | (go_simp; done) | (go_simp; rfl)); intro gb130 hg w29 hbox hb; have n0_ := Aside0.mk (Kd.R_below (by (with_reducible repeat (first | apply Kd.R_alloc | apply Kd.R_drewN | apply Kd.R_drew)); exact HO_9.out) hb); have n1_ := Aside0.mk (below_step (by repeat (first | (with_reducible first | exact HB.out | apply below_alloc | apply pw_below_drewN | apply below_drew1) | exact HB.out)) hb); have n2_ := Aside0.mk (hbox); have n3_ := Aside0.mk ((by rw [hg]; exact (below_size (by repeat (first | (with_reducible first | exact HB.out | apply below_alloc | apply pw_below_drewN | apply below_drew1) | exact HB.out))) : w.heap.size ≤ gb130)); have n4_ := Aside0.mk ((by rw [hg]; exact (below_size (by repeat (first | (with_reducible first | exact HB.out | apply below_alloc | apply pw_below_drewN | apply below_drew1) | exact HB.out))) : w.heap.size ≤ gb130)); clear HO_9; clear HB; have HO_9 := n0_; have HB := n1_; have BK130 := n2_; have GW130 := n3_; have GE130 := n4_; clear n0_ n1_ n2_ n3_ n4_; clear hb hbox hg; have hcz30_0 : w29.cell? ⟨gb130, 0, none⟩ = some (.int .i64 0) := (blk_cell BK130.out 0).trans rfl; have hcz30_1 : w29.cell? ⟨gb130, 1, none⟩ = some (.string (⟨#[]⟩ : ByteArray)) := (blk_cell BK130.out 1).trans rfl; have hcz30_2 : w29.cell? ⟨gb130, 2, none⟩ = some (.int .i64 0) := (blk_cell BK130.out 2).trans rfl; have hfz30_0 := blk_frozen BK130.out 0; have hfz30_1 := blk_frozen BK130.out 1; have hfz30_2 := blk_frozen BK130.out 2) | ((with_reducible refine gate_callee (f := 20) rfl ?_); refine goesL_ (some 39) rfl rfl Tryd.func20 (by kernel_rfl) rfl #[.string ((rd_T30 l3 x33_2).f1)] rfl (by (try simp only [List.map_toArray, List.map_cons, List.map_nil]); first | done | rfl | (simp only [List.length_drop, List.length_take]; rfl)) ?_; (with_reducible refine (impl_isFormat.calls k2 ((rd_T30 l3 x33_2).f1) true _ A26.out).mono ?_); rintro e w31 ⟨rfl, hb⟩; refine ⟨_, rfl, ?_⟩; have n0_ := Aside0.mk (Kd.R_below (by (with_reducible repeat (first | apply Kd.R_alloc | apply Kd.R_drewN | apply Kd.R_drew)); exact (Kd.R_mono (Kd.R_far (p := ⟨gb130, 2, none⟩) (Kd.R_far (p := ⟨gb130, 1, none⟩) (Kd.R_far (p := ⟨gb130, 0, none⟩) (Kd.R_types HO_9.out BK130.out (by decide)) (fun _ hk => hk.2) (.int .i64 ((rd_T30 l3 x33_2).f0))) (fun _ hk => hk.2) (.string ((rd_T30 l3 x33_2).f1))) (fun _ hk => hk.2) (.int .i64 ((rd_T30 l3 x33_2).f2))) (fun _ h_ => h_.1))) hb); have n1_ := Aside0.mk (blk_below (g := gb130) (o := .cells #[.int .i64 ((rd_T30 l3 x33_2).f0), .string ((rd_T30 l3 x33_2).f1), .int .i64 ((rd_T30 l3 x33_2).f2)] 30 (0, 0)) (by (with_reducible repeat (first | refine blk_drewN ?_ _ | refine blk_drew ?_ | refine blk_alloc ?_ _)); refine blk_put (cs := #[.int .i64 ((rd_T30 l3 x33_2).f0), .string ((rd_T30 l3 x33_2).f1), .int .i64 0]) ?_ 2 _ rfl; (with_reducible repeat (first | refine blk_drewN ?_ _ | refine blk_drew ?_ | refine blk_alloc ?_ _)); refine blk_put (cs := #[.int .i64 ((rd_T30 l3 x33_2).f0), .string (⟨#[]⟩ : ByteArray), .int .i64 0]) ?_ 1 _ rfl; (with_reducible repeat (first | refine blk_drewN ?_ _ | refine blk_drew ?_ | refine blk_alloc ?_ _)); refine blk_put (cs := #[.int .i64 0, .string (⟨#[]⟩ : ByteArray), .int .i64 0]) ?_ 0 _ rfl; (with_reducible repeat (first | refine blk_drewN ?_ _ | refine blk_drew ?_ | refine blk_alloc ?_ _)); exact BK130.out) hb); have n2_ := Aside0.mk (below_step (by repeat (first | (with_reducible first | exact HB.out | apply below_alloc | apply pw_below_drewN | apply below_drew1 | refine below_set ?_ GE130.out) | exact HB.out)) hb); clear HO_9; clear BK130; clear HB; have HO_9 := n0_; have BK130 := n1_; have HB := n2_; clear n0_ n1_ n2_; (try clear hb); (try clear hb2); (try clear hk); (try clear hi); have hcz32_0 : w31.cell? ⟨gb130, 0, none⟩ = some (.int .i64 ((rd_T30 l3 x33_2).f0)) := (blk_cell BK130.out 0).trans rfl; have hcz32_1 : w31.cell? ⟨gb130, 1, none⟩ = some (.string ((rd_T30 l3 x33_2).f1)) := (blk_cell BK130.out 1).trans rfl; have hcz32_2 : w31.cell? ⟨gb130, 2, none⟩ = some (.int .i64 ((rd_T30 l3 x33_2).f2)) := (blk_cell BK130.out 2).trans rfl; have hfz32_0 := blk_frozen BK130.out 0; have hfz32_1 := blk_frozen BK130.out 1; have hfz32_2 := blk_frozen BK130.out 2))
                      go_ret
                      exact ⟨by first | rfl | (simp [errW_none, errW_some] <;> rfl) | (simp [*, errW_none, errW_some] <;> rfl), by repeat (first | (with_reducible first | exact HB.out | apply below_alloc | apply pw_below_drewN | apply below_drew1 | refine below_set ?_ GE130.out) | exact HB.out)⟩
                    · rw [if_neg c28] at H
                      have c28b0 : (((rd_T30 l3 x33_2).f2) == 0) = false := beq_eq_false_iff_ne.mpr c28
                      have c28b1 : (((rd_T30 l3 x33_2).f2) != 0) = true := bne_iff_ne.mpr c28
                      by_cases c33 : x9_2.length < 4398046511104
                      · rw [if_pos c33] at H
                        have LMc33 := Aside0.mk c33
                        clear c33
                        obtain ⟨y132, hy132⟩ : ∃ y_ : List (S47), y_ = (x9_2 ++ [(⟨(rd_T30 l3 x33_2).f0, (rd_T30 l3 x33_2).f1, (rd_T30 l3 x33_2).f2⟩ : S47)]) := ⟨_, rfl⟩
                        replace H : (impl_Custom.l0 k2 a0 a1 a2 y132 l3 (l3.length : Int) (wrap64 (x33_2 + 1))) = some r := by first | (rw [hy132]; with_reducible exact H) | (have H2_ := (Option.bind_some _ _).symm.trans H; rw [hy132]; with_reducible exact H2_) | (have H2_ := (Option.bind_some _ _).symm.trans H; with_reducible exact H2_) | with_reducible exact H | (rw [hy132]; exact H) | exact H
                        have Ny132 := Aside0.mk hy132
                        clear hy132
                        have H' := Aside0.mk H
                        clear H
                        have p129 : 0 ≤ (x33_2 : Int) := of_decide_eq_true (by first | (with_reducible assumption) | assumption)
                        have q129 : x33_2 < (l3.length : Int) := of_decide_eq_true (by first | (with_reducible assumption) | assumption)
                        obtain ⟨ad129, e129, hx129_0, hx129_1, hx129_2⟩ := at_T30 HR3.out x33_2 p129 q129
                        cases e129
                        replace hx129_0 := (HB.out.cell (World.block_lt_of_cell? w _ hx129_0)).trans hx129_0
                        replace hx129_1 := (HB.out.cell (World.block_lt_of_cell? w _ hx129_1)).trans hx129_1
                        replace hx129_2 := (HB.out.cell (World.block_lt_of_cell? w _ hx129_2)).trans hx129_2
                        replace p129 := eq_true p129
                        replace q129 := eq_true q129
                        go_wp2_with (first | ((with_reducible refine gate_dst (N := 11) rfl ?_); (try (refine gate_guard (by rfl) ?_; dsimp only)); refine box_event ?hg (N := 11) ?hd (cs := #[.int .i64 0, .string (⟨#[]⟩ : ByteArray), .int .i64 0]) (t := 30) ?hr ?_; (case hd => rfl); (case hg => rfl); (case hr => first | (go_simp; done) | (go_simp; rfl)); intro gb130 hg w34 hbox hb; have n0_ := Aside0.mk (Kd.R_below (by (with_reducible repeat (first | apply Kd.R_alloc | apply Kd.R_drewN | apply Kd.R_drew)); exact HO_9.out) hb); have n1_ := Aside0.mk (below_step (by repeat (first | (with_reducible first | exact HB.out | apply below_alloc | apply pw_below_drewN | apply below_drew1) | exact HB.out)) hb); have n2_ := Aside0.mk (hbox); have n3_ := Aside0.mk ((by rw [hg]; exact (below_size (by repeat (first | (with_reducible first | exact HB.out | apply below_alloc | apply pw_below_drewN | apply below_drew1) | exact HB.out))) : w.heap.size ≤ gb130)); have n4_ := Aside0.mk ((by rw [hg]; exact (below_size (by repeat (first | (with_reducible first | exact HB.out | apply below_alloc | apply pw_below_drewN | apply below_drew1) | exact HB.out))) : w.heap.size ≤ gb130)); clear HO_9; clear HB; have HO_9 := n0_; have HB := n1_; have BK130 := n2_; have GW130 := n3_; have GE130 := n4_; clear n0_ n1_ n2_ n3_ n4_; clear hb hbox hg; have hcz35_0 : w34.cell? ⟨gb130, 0, none⟩ = some (.int .i64 0) := (blk_cell BK130.out 0).trans rfl; have hcz35_1 : w34.cell? ⟨gb130, 1, none⟩ = some (.string (⟨#[]⟩ : ByteArray)) := (blk_cell BK130.out 1).trans rfl; have hcz35_2 : w34.cell? ⟨gb130, 2, none⟩ = some (.int .i64 0) := (blk_cell BK130.out 2).trans rfl; have hfz35_0 := blk_frozen BK130.out 0; have hfz35_1 := blk_frozen BK130.out 1; have hfz35_2 := blk_frozen BK130.out 2) | ((with_reducible refine gate_callee (f := 20) rfl ?_); refine goesL_ (some 39) rfl rfl Tryd.func20 (by kernel_rfl) rfl #[.string ((rd_T30 l3 x33_2).f1)] rfl (by (try simp only [List.map_toArray, List.map_cons, List.map_nil]); first | done | rfl | (simp only [List.length_drop, List.length_take]; rfl)) ?_; (with_reducible refine (impl_isFormat.calls k2 ((rd_T30 l3 x33_2).f1) true _ A26.out).mono ?_); rintro e w36 ⟨rfl, hb⟩; refine ⟨_, rfl, ?_⟩; have n0_ := Aside0.mk (Kd.R_below (by (with_reducible repeat (first | apply Kd.R_alloc | apply Kd.R_drewN | apply Kd.R_drew)); exact (Kd.R_mono (Kd.R_far (p := ⟨gb130, 2, none⟩) (Kd.R_far (p := ⟨gb130, 1, none⟩) (Kd.R_far (p := ⟨gb130, 0, none⟩) (Kd.R_types HO_9.out BK130.out (by decide)) (fun _ hk => hk.2) (.int .i64 ((rd_T30 l3 x33_2).f0))) (fun _ hk => hk.2) (.string ((rd_T30 l3 x33_2).f1))) (fun _ hk => hk.2) (.int .i64 ((rd_T30 l3 x33_2).f2))) (fun _ h_ => h_.1))) hb); have n1_ := Aside0.mk (blk_below (g := gb130) (o := .cells #[.int .i64 ((rd_T30 l3 x33_2).f0), .string ((rd_T30 l3 x33_2).f1), .int .i64 ((rd_T30 l3 x33_2).f2)] 30 (0, 0)) (by (with_reducible repeat (first | refine blk_drewN ?_ _ | refine blk_drew ?_ | refine blk_alloc ?_ _)); refine blk_put (cs := #[.int .i64 ((rd_T30 l3 x33_2).f0), .string ((rd_T30 l3 x33_2).f1), .int .i64 0]) ?_ 2 _ rfl; (with_reducible repeat (first | refine blk_drewN ?_ _ | refine blk_drew ?_ | refine blk_alloc ?_ _)); refine blk_put (cs := #[.int .i64 ((rd_T30 l3 x33_2).f0), .string (⟨#[]⟩ : ByteArray), .int .i64 0]) ?_ 1 _ rfl; (with_reducible repeat (first | refine blk_drewN ?_ _ | refine blk_drew ?_ | refine blk_alloc ?_ _)); refine blk_put (cs := #[.int .i64 0, .string (⟨#[]⟩ : ByteArray), .int .i64 0]) ?_ 0 _ rfl; (with_reducible repeat (first | refine blk_drewN ?_ _ | refine blk_drew ?_ | refine blk_alloc ?_ _)); exact BK130.out) hb); have n2_ := Aside0.mk (below_step (by repeat (first | (with_reducible first | exact HB.out | apply below_alloc | apply pw_below_drewN | apply below_drew1 | refine below_set ?_ GE130.out) | exact HB.out)) hb); clear HO_9; clear BK130; clear HB; have HO_9 := n0_; have BK130 := n1_; have HB := n2_; clear n0_ n1_ n2_; (try clear hb); (try clear hb2); (try clear hk); (try clear hi); have hcz37_0 : w36.cell? ⟨gb130, 0, none⟩ = some (.int .i64 ((rd_T30 l3 x33_2).f0)) := (blk_cell BK130.out 0).trans rfl; have hcz37_1 : w36.cell? ⟨gb130, 1, none⟩ = some (.string ((rd_T30 l3 x33_2).f1)) := (blk_cell BK130.out 1).trans rfl; have hcz37_2 : w36.cell? ⟨gb130, 2, none⟩ = some (.int .i64 ((rd_T30 l3 x33_2).f2)) := (blk_cell BK130.out 2).trans rfl; have hfz37_0 := blk_frozen BK130.out 0; have hfz37_1 := blk_frozen BK130.out 1; have hfz37_2 := blk_frozen BK130.out 2) | ((with_reducible refine gate_builtin (b := .append) (xs := #[.tmp 46, .tmp 54]) rfl ?_); (try (refine gate_guard (by rfl) ?_; dsimp only)); at_builtin; refine Kd.R_append k47 (w0 := w) w.heap.size rfl (.tmp 46) (.tmp 54) 43 47 (.agg #[(.int .i64 0), (.string ⟨#[]⟩), (.int .i64 0)]) 32 rfl Tryd.underlying43 info47 rfl (by decide) (by omega) u9 x9_2 (⟨(rd_T30 l3 x33_2).f0, (rd_T30 l3 x33_2).f1, (rd_T30 l3 x33_2).f2⟩ : S47) [.int .i64 ((rd_T30 l3 x33_2).f0), .string ((rd_T30 l3 x33_2).f1), .int .i64 ((rd_T30 l3 x33_2).f2)] (fun _ => True) (fun _ => False) rfl rfl ?aP (fun _ hk => hk.elim) ?aF ?aO ?aB ?aS ?aL ?_; (case aP => exact k47_mkM _ _ _ (⟨(rd_T30 l3 x33_2).f0, (rd_T30 l3 x33_2).f1, (rd_T30 l3 x33_2).f2⟩ : S47)); (case aB => exact (by repeat (first | (with_reducible first | exact HB.out | apply below_alloc | apply pw_below_drewN | apply below_drew1 | refine below_set ?_ GE130.out) | exact HB.out))); (case aF => exact (fun _ _ => trivial)); (case aO => exact (by (with_reducible repeat (first | apply Kd.R_alloc | apply Kd.R_drewN | apply Kd.R_drew)); exact HO_9.out)); (case aS => exact (below_size (by repeat (first | (with_reducible first | exact HB.out | apply below_alloc | apply pw_below_drewN | apply below_drew1 | refine below_set ?_ GE130.out) | exact HB.out)))); (case aL => have := LMc33.out; omega); intro v133 w38 ho hb hg hat; rw [← Ny132.out] at ho; have n0_ := Aside0.mk (blk_grown (g := gb130) (o := .cells #[.int .i64 ((rd_T30 l3 x33_2).f0), .string ((rd_T30 l3 x33_2).f1), .int .i64 ((rd_T30 l3 x33_2).f2)] 30 (0, 0)) (by (with_reducible repeat (first | refine blk_drewN ?_ _ | refine blk_drew ?_ | refine blk_alloc ?_ _)); exact BK130.out) hg (Kd.R_ne HO_9.out BK130.out (by decide))); have n1_ := Aside0.mk (hb); have n2_ := Aside0.mk (ho); clear BK130; clear HB; clear HO_9; have BK130 := n0_; have HB := n1_; have HO134 := n2_; clear n0_ n1_ n2_; clear ho hb hg hat))
                        go_roundg k2
                        case measure => have := HJ4.out; have := HK2.out; omega
                        case rel => exact ⟨(y132), (wrap64 (x33_2 + 1)), (by first | rfl | (simp; done) | (simp [*]; done)), H', ⟨by have := HJ4.out; have := HK2.out; omega⟩, ⟨by (with_reducible repeat (first | apply Kd.R_alloc | apply Kd.R_drewN | apply Kd.R_drew)); exact HO134.out⟩, ⟨by repeat (first | (with_reducible first | exact HB.out | apply below_alloc | apply pw_below_drewN | apply below_drew1 | refine below_set ?_ GE130.out) | exact HB.out)⟩⟩
                      · rw [if_neg c33] at H
                        exact absurd H (by simp)
                  · replace c27 := Bool.eq_false_iff.mpr c27
                    subst c27
                    have H1 : (some (⟨#[]⟩ : ByteArray)) = some r := by rw [if_neg (show ¬ (false = true) by decide)] at H; exact H
                    clear H
                    have H := H1
                    clear H1
                    obtain rfl := Option.some.inj H
                    have p129 : 0 ≤ (x33_2 : Int) := of_decide_eq_true (by first | (with_reducible assumption) | assumption)
                    have q129 : x33_2 < (l3.length : Int) := of_decide_eq_true (by first | (with_reducible assumption) | assumption)
                    obtain ⟨ad129, e129, hx129_0, hx129_1, hx129_2⟩ := at_T30 HR3.out x33_2 p129 q129
                    cases e129
                    replace hx129_0 := (HB.out.cell (World.block_lt_of_cell? w _ hx129_0)).trans hx129_0
                    replace hx129_1 := (HB.out.cell (World.block_lt_of_cell? w _ hx129_1)).trans hx129_1
                    replace hx129_2 := (HB.out.cell (World.block_lt_of_cell? w _ hx129_2)).trans hx129_2
                    replace p129 := eq_true p129
                    replace q129 := eq_true q129
                    go_wp2_with (first | ((with_reducible refine gate_dst (N := 11) rfl ?_); (try (refine gate_guard (by rfl) ?_; dsimp only)); refine box_event ?hg (N := 11) ?hd (cs := #[.int .i64 0, .string (⟨#[]⟩ : ByteArray), .int .i64 0]) (t := 30) ?hr ?_; (case hd => rfl); (case hg => rfl); (case hr => first | (go_simp; done) | (go_simp; rfl)); intro gb130 hg w39 hbox hb; have n0_ := Aside0.mk (Kd.R_below (by (with_reducible repeat (first | apply Kd.R_alloc | apply Kd.R_drewN | apply Kd.R_drew)); exact HO_9.out) hb); have n1_ := Aside0.mk (below_step (by repeat (first | (with_reducible first | exact HB.out | apply below_alloc | apply pw_below_drewN | apply below_drew1) | exact HB.out)) hb); have n2_ := Aside0.mk (hbox); have n3_ := Aside0.mk ((by rw [hg]; exact (below_size (by repeat (first | (with_reducible first | exact HB.out | apply below_alloc | apply pw_below_drewN | apply below_drew1) | exact HB.out))) : w.heap.size ≤ gb130)); have n4_ := Aside0.mk ((by rw [hg]; exact (below_size (by repeat (first | (with_reducible first | exact HB.out | apply below_alloc | apply pw_below_drewN | apply below_drew1) | exact HB.out))) : w.heap.size ≤ gb130)); clear HO_9; clear HB; have HO_9 := n0_; have HB := n1_; have BK130 := n2_; have GW130 := n3_; have GE130 := n4_; clear n0_ n1_ n2_ n3_ n4_; clear hb hbox hg; have hcz40_0 : w39.cell? ⟨gb130, 0, none⟩ = some (.int .i64 0) := (blk_cell BK130.out 0).trans rfl; have hcz40_1 : w39.cell? ⟨gb130, 1, none⟩ = some (.string (⟨#[]⟩ : ByteArray)) := (blk_cell BK130.out 1).trans rfl; have hcz40_2 : w39.cell? ⟨gb130, 2, none⟩ = some (.int .i64 0) := (blk_cell BK130.out 2).trans rfl; have hfz40_0 := blk_frozen BK130.out 0; have hfz40_1 := blk_frozen BK130.out 1; have hfz40_2 := blk_frozen BK130.out 2) | ((with_reducible refine gate_callee (f := 20) rfl ?_); refine goesL_ (some 39) rfl rfl Tryd.func20 (by kernel_rfl) rfl #[.string ((rd_T30 l3 x33_2).f1)] rfl (by (try simp only [List.map_toArray, List.map_cons, List.map_nil]); first | done | rfl | (simp only [List.length_drop, List.length_take]; rfl)) ?_; (with_reducible refine (impl_isFormat.calls k2 ((rd_T30 l3 x33_2).f1) false _ A26.out).mono ?_); rintro e w41 ⟨rfl, hb⟩; refine ⟨_, rfl, ?_⟩; have n0_ := Aside0.mk (Kd.R_below (by (with_reducible repeat (first | apply Kd.R_alloc | apply Kd.R_drewN | apply Kd.R_drew)); exact (Kd.R_mono (Kd.R_far (p := ⟨gb130, 2, none⟩) (Kd.R_far (p := ⟨gb130, 1, none⟩) (Kd.R_far (p := ⟨gb130, 0, none⟩) (Kd.R_types HO_9.out BK130.out (by decide)) (fun _ hk => hk.2) (.int .i64 ((rd_T30 l3 x33_2).f0))) (fun _ hk => hk.2) (.string ((rd_T30 l3 x33_2).f1))) (fun _ hk => hk.2) (.int .i64 ((rd_T30 l3 x33_2).f2))) (fun _ h_ => h_.1))) hb); have n1_ := Aside0.mk (blk_below (g := gb130) (o := .cells #[.int .i64 ((rd_T30 l3 x33_2).f0), .string ((rd_T30 l3 x33_2).f1), .int .i64 ((rd_T30 l3 x33_2).f2)] 30 (0, 0)) (by (with_reducible repeat (first | refine blk_drewN ?_ _ | refine blk_drew ?_ | refine blk_alloc ?_ _)); refine blk_put (cs := #[.int .i64 ((rd_T30 l3 x33_2).f0), .string ((rd_T30 l3 x33_2).f1), .int .i64 0]) ?_ 2 _ rfl; (with_reducible repeat (first | refine blk_drewN ?_ _ | refine blk_drew ?_ | refine blk_alloc ?_ _)); refine blk_put (cs := #[.int .i64 ((rd_T30 l3 x33_2).f0), .string (⟨#[]⟩ : ByteArray), .int .i64 0]) ?_ 1 _ rfl; (with_reducible repeat (first | refine blk_drewN ?_ _ | refine blk_drew ?_ | refine blk_alloc ?_ _)); refine blk_put (cs := #[.int .i64 0, .string (⟨#[]⟩ : ByteArray), .int .i64 0]) ?_ 0 _ rfl; (with_reducible repeat (first | refine blk_drewN ?_ _ | refine blk_drew ?_ | refine blk_alloc ?_ _)); exact BK130.out) hb); have n2_ := Aside0.mk (below_step (by repeat (first | (with_reducible first | exact HB.out | apply below_alloc | apply pw_below_drewN | apply below_drew1 | refine below_set ?_ GE130.out) | exact HB.out)) hb); clear HO_9; clear BK130; clear HB; have HO_9 := n0_; have BK130 := n1_; have HB := n2_; clear n0_ n1_ n2_; (try clear hb); (try clear hb2); (try clear hk); (try clear hi)))
                    go_ret
                    exact ⟨by first | rfl | (simp [errW_none, errW_some] <;> rfl) | (simp [*, errW_none, errW_some] <;> rfl), by repeat (first | (with_reducible first | exact HB.out | apply below_alloc | apply pw_below_drewN | apply below_drew1 | refine below_set ?_ GE130.out) | exact HB.out)⟩
                · rw [if_neg c25] at H
                  exact absurd H (by simp)
              · rw [if_neg c24] at H
                exact absurd H (by simp)
            · rw [if_neg c23] at H
              have c23b0 : decide (x33_2 < (l3.length : Int)) = false := decide_eq_false c23
              clear c23
              replace H := Option.bind_eq_some_iff.mp H
              obtain ⟨t135, A420, H⟩ := H
              replace H : (some t135) = some r := H
              have A42 := Aside0.mk A420
              clear A420
              obtain rfl := Option.some.inj H
              obtain ⟨Ao43, co43, eo43⟩ := Kd.R_slice HO_9.out
              subst eo43
              go_wp2_with (first | ((with_reducible refine gate_callee (f := 21) rfl ?_); refine goesL_ (some 61) rfl rfl Tryd.func21 (by kernel_rfl) rfl #[.int .i64 0, .int .i64 a0, .string a1, .string a2, .slice Ao43 x9_2.length co43] rfl (by (try simp only [List.map_toArray, List.map_cons, List.map_nil]); first | done | rfl | (simp only [List.length_drop, List.length_take]; rfl)) ?_; (with_reducible refine (humanize_CustomRelTime.calls k2 0 a0 a1 a2 _ _ x9_2 t135 _ ?side1 ?side2 A42.out ?side3).mono ?_); (case side3 => exact Go.Proofs.YtmdgbbiipjmenaaDoor.Rel.below_tab (by repeat (first | (with_reducible first | exact HB.out | apply below_alloc | apply pw_below_drewN | apply below_drew1) | exact HB.out)) ht_.out); (case side1 => repeat (first | exact (Kd.R_reads' HO_9.out).2.2 | (with_reducible refine Kd.C_alloc ?_ _) | (with_reducible refine Kd.C_drewN ?_ _) | (with_reducible refine Kd.C_drew ?_))); (case side2 => exact (Kd.R_reads' HO_9.out).2.1); rintro e w44 ⟨rfl, hb⟩; refine ⟨_, rfl, ?_⟩; have n0_ := Aside0.mk (Kd.R_below (by (with_reducible repeat (first | apply Kd.R_alloc | apply Kd.R_drewN | apply Kd.R_drew)); exact HO_9.out) hb); have n1_ := Aside0.mk (below_step (by repeat (first | (with_reducible first | exact HB.out | apply below_alloc | apply pw_below_drewN | apply below_drew1) | exact HB.out)) hb); clear HO_9; clear HB; have HO_9 := n0_; have HB := n1_; clear n0_ n1_; (try clear hb); (try clear hb2); (try clear hk); (try clear hi)))
              go_ret
              exact ⟨by first | rfl | (simp [errW_none, errW_some] <;> rfl) | (simp [*, errW_none, errW_some] <;> rfl), by repeat (first | (with_reducible first | exact HB.out | apply below_alloc | apply pw_below_drewN | apply below_drew1) | exact HB.out)⟩

/-! ### spec_Decimal: function 18 -/
def spec_Decimal.l0 : Nat → Int → ByteArray → Int → Option (ByteArray)
  | 0, _, _, _ => none
  | k + 1, x0, x3, x4 => if (Int.tmod x4 10) < 0 then (if (Utf8.encode (wrap32 (wrap64 (48 + (wrap64 (-(Int.tmod x4 10))))))).size + x3.size ≤ 9223372036854775807 then (if (wrap64 (Int.tdiv x4 10)) = 0 then (if x0 < 0 then (if 1 + ((Utf8.encode (wrap32 (wrap64 (48 + (wrap64 (-(Int.tmod x4 10))))))) ++ x3).size ≤ 9223372036854775807 then (some ((⟨#[45]⟩ : ByteArray) ++ ((Utf8.encode (wrap32 (wrap64 (48 + (wrap64 (-(Int.tmod x4 10))))))) ++ x3))) else (none)) else (some ((Utf8.encode (wrap32 (wrap64 (48 + (wrap64 (-(Int.tmod x4 10))))))) ++ x3))) else (spec_Decimal.l0 k x0 ((Utf8.encode (wrap32 (wrap64 (48 + (wrap64 (-(Int.tmod x4 10))))))) ++ x3) (wrap64 (Int.tdiv x4 10)))) else (none)) else (if (Utf8.encode (wrap32 (wrap64 (48 + (Int.tmod x4 10))))).size + x3.size ≤ 9223372036854775807 then (if (wrap64 (Int.tdiv x4 10)) = 0 then (if x0 < 0 then (if 1 + ((Utf8.encode (wrap32 (wrap64 (48 + (Int.tmod x4 10))))) ++ x3).size ≤ 9223372036854775807 then (some ((⟨#[45]⟩ : ByteArray) ++ ((Utf8.encode (wrap32 (wrap64 (48 + (Int.tmod x4 10))))) ++ x3))) else (none)) else (some ((Utf8.encode (wrap32 (wrap64 (48 + (Int.tmod x4 10))))) ++ x3))) else (spec_Decimal.l0 k x0 ((Utf8.encode (wrap32 (wrap64 (48 + (Int.tmod x4 10))))) ++ x3) (wrap64 (Int.tdiv x4 10)))) else (none))
def spec_Decimal.f (k : Nat) (a0 : Int) : Option (ByteArray) := spec_Decimal.l0 k a0 (⟨#[]⟩ : ByteArray) a0
theorem spec_Decimal.mono_l : ∀ k, (∀ y0 y1 y2, LeO (spec_Decimal.l0 k y0 y1 y2) (spec_Decimal.l0 (k + 1) y0 y1 y2))
  | 0 => fun _ _ _ r h => by simp [spec_Decimal.l0] at h
  | k + 1 => by
    have ih0 := spec_Decimal.mono_l k
    · intro y0 y1 y2
      unfold spec_Decimal.l0
      repeat' first
      | (with_reducible exact ih0 _ _ _)
      | (with_reducible exact LeO.refl _)
      | (with_reducible exact LeO.none _)
      | (with_reducible refine LeO.ite ?_ ?_)
      | (with_reducible refine LeO.bind ?_ (fun _ => ?_))
      | exact ih0 _ _ _
      | exact LeO.none _
      | refine LeO.ite ?_ ?_
      | refine LeO.bind ?_ (fun _ => ?_)
theorem spec_Decimal.mono : ∀ a0 k, LeO (spec_Decimal.f k a0) (spec_Decimal.f (k + 1) a0) := by
  intro a0 k
  have ih0 := spec_Decimal.mono_l k
  unfold spec_Decimal.f
  repeat' first
      | (with_reducible exact ih0 _ _ _)
      | (with_reducible exact LeO.refl _)
      | (with_reducible exact LeO.none _)
      | (with_reducible refine LeO.ite ?_ ?_)
      | (with_reducible refine LeO.bind ?_ (fun _ => ?_))
      | exact ih0 _ _ _
      | exact LeO.none _
      | refine LeO.ite ?_ ?_
      | refine LeO.bind ?_ (fun _ => ?_)
set_option maxHeartbeats 8000000 in
set_option maxRecDepth 100000 in
theorem spec_Decimal.calls (k : Nat) (a0 : Int) (r : ByteArray) (w : World) (h : spec_Decimal.f k a0 = some r) :
    Calls Tryd.prog 18 #[.int .i64 a0] w fun e w' => e = .returned (.string r) ∧ Drawn0 w w' := by
  have H : (spec_Decimal.l0 k a0 (⟨#[]⟩ : ByteArray) a0) = some r := h
  clear h
  have H' := Aside0.mk H
  clear H
  go_enter Tryd.func18, Tryd.ntmps18
  go_wp2
  go_loopg [3, 4] k (fun kq v3 v4 w' => ∃ (x3_1 : ByteArray) (x4_1 : Int), v3 = .string x3_1 ∧ v4 = .int .i64 x4_1 ∧ Aside0 (spec_Decimal.l0 kq a0 x3_1 x4_1 = some r) ∧ Aside0 (kq ≤ k) ∧ Drawn0 w w')
  case atStart => exact ⟨((⟨#[]⟩ : ByteArray)), (a0), (by first | rfl | (simp; done) | (simp [*]; done)), (by first | rfl | (simp; done) | (simp [*]; done)), H', ⟨Nat.le_refl _⟩, by repeat (first | exact Drawn0.refl _ | apply Drawn0.step)⟩
  case round =>
    clear H'
    try clear c1
    obtain ⟨x3_1, x4_1, rfl, rfl, HA, HK1, ⟨m1, rfl⟩⟩ := hrel
    cases gk with
    | zero => exact absurd HA.out (by simp [spec_Decimal.l0])
    | succ k1 =>
      have H := HA.out
      clear HA
      simp only [spec_Decimal.l0] at H
      by_cases c2 : (Int.tmod x4_1 10) < 0
      · rw [if_pos c2] at H
        have c2b0 : decide ((Int.tmod x4_1 10) < 0) = true := decide_eq_true c2
        clear c2
        by_cases c3 : (Utf8.encode (wrap32 (wrap64 (48 + (wrap64 (-(Int.tmod x4_1 10))))))).size + x3_1.size ≤ 9223372036854775807
        · rw [if_pos c3] at H
          have c3b0 := eq_true c3
          have c3b1 : decide ((Utf8.encode (wrap32 (wrap64 (48 + (wrap64 (-(Int.tmod x4_1 10))))))).size + x3_1.size ≤ 9223372036854775807) = true := decide_eq_true c3
          try have c3b2 : (9223372036854775807 < (Utf8.encode (wrap32 (wrap64 (48 + (wrap64 (-(Int.tmod x4_1 10))))))).size + x3_1.size) = False := eq_false (Nat.not_lt.2 c3)
          by_cases c4 : (wrap64 (Int.tdiv x4_1 10)) = 0
          · rw [if_pos c4] at H
            have c4b0 : ((wrap64 (Int.tdiv x4_1 10)) == 0) = true := beq_iff_eq.mpr c4
            have c4b1 : ((wrap64 (Int.tdiv x4_1 10)) != 0) = false := bne_eq_false_iff_eq.mpr c4
            clear c4
            by_cases c5 : a0 < 0
            · rw [if_pos c5] at H
              have c5b0 : decide (a0 < 0) = true := decide_eq_true c5
              clear c5
              by_cases c6 : 1 + ((Utf8.encode (wrap32 (wrap64 (48 + (wrap64 (-(Int.tmod x4_1 10))))))) ++ x3_1).size ≤ 9223372036854775807
              · rw [if_pos c6] at H
                have c6b0 := eq_true c6
                have c6b1 : decide (1 + ((Utf8.encode (wrap32 (wrap64 (48 + (wrap64 (-(Int.tmod x4_1 10))))))) ++ x3_1).size ≤ 9223372036854775807) = true := decide_eq_true c6
                try have c6b2 : (9223372036854775807 < 1 + ((Utf8.encode (wrap32 (wrap64 (48 + (wrap64 (-(Int.tmod x4_1 10))))))) ++ x3_1).size) = False := eq_false (Nat.not_lt.2 c6)
                try have c6n0 : (9223372036854775807 < 1 + (Utf8.encode (wrap32 (wrap64 (48 + (wrap64 (-(Int.tmod x4_1 10))))))).size + x3_1.size) = False := eq_false (by have h_ := c6; (try simp only [ByteArray.size_append] at h_); omega)
                try have c6n1 : (9223372036854775807 < 1 + ((Utf8.encode (wrap32 (wrap64 (48 + (wrap64 (-(Int.tmod x4_1 10))))))).size + x3_1.size)) = False := eq_false (by have h_ := c6; (try simp only [ByteArray.size_append] at h_); omega)
                obtain rfl := Option.some.inj H
                go_wp2
                go_ret
                exact ⟨by first | rfl | (simp; done) | (simp [*]; done), by repeat (first | exact Drawn0.refl _ | apply Drawn0.step)⟩
              · rw [if_neg c6] at H
                exact absurd H (by simp)
            · rw [if_neg c5] at H
              have c5b0 : decide (a0 < 0) = false := decide_eq_false c5
              clear c5
              obtain rfl := Option.some.inj H
              go_wp2
              go_ret
              exact ⟨by first | rfl | (simp; done) | (simp [*]; done), by repeat (first | exact Drawn0.refl _ | apply Drawn0.step)⟩
          · rw [if_neg c4] at H
            have c4b0 : ((wrap64 (Int.tdiv x4_1 10)) == 0) = false := beq_eq_false_iff_ne.mpr c4
            have c4b1 : ((wrap64 (Int.tdiv x4_1 10)) != 0) = true := bne_iff_ne.mpr c4
            have H' := Aside0.mk H
            clear H
            go_wp2
            go_roundg k1
            case measure => have := HK1.out; omega
            case rel => exact ⟨((Utf8.encode (wrap32 (wrap64 (48 + (wrap64 (-(Int.tmod x4_1 10))))))) ++ x3_1), (wrap64 (Int.tdiv x4_1 10)), (by first | rfl | (simp; done) | (simp [*]; done)), (by first | rfl | (simp; done) | (simp [*]; done)), H', ⟨by have := HK1.out; omega⟩, by repeat (first | exact Drawn0.refl _ | apply Drawn0.step)⟩
        · rw [if_neg c3] at H
          exact absurd H (by simp)
      · rw [if_neg c2] at H
        have c2b0 : decide ((Int.tmod x4_1 10) < 0) = false := decide_eq_false c2
        clear c2
        by_cases c7 : (Utf8.encode (wrap32 (wrap64 (48 + (Int.tmod x4_1 10))))).size + x3_1.size ≤ 9223372036854775807
        · rw [if_pos c7] at H
          have c7b0 := eq_true c7
          have c7b1 : decide ((Utf8.encode (wrap32 (wrap64 (48 + (Int.tmod x4_1 10))))).size + x3_1.size ≤ 9223372036854775807) = true := decide_eq_true c7
          try have c7b2 : (9223372036854775807 < (Utf8.encode (wrap32 (wrap64 (48 + (Int.tmod x4_1 10))))).size + x3_1.size) = False := eq_false (Nat.not_lt.2 c7)
          by_cases c8 : (wrap64 (Int.tdiv x4_1 10)) = 0
          · rw [if_pos c8] at H
            have c8b0 : ((wrap64 (Int.tdiv x4_1 10)) == 0) = true := beq_iff_eq.mpr c8
            have c8b1 : ((wrap64 (Int.tdiv x4_1 10)) != 0) = false := bne_eq_false_iff_eq.mpr c8
            clear c8
            by_cases c9 : a0 < 0
            · rw [if_pos c9] at H
              have c9b0 : decide (a0 < 0) = true := decide_eq_true c9
              clear c9
              by_cases c10 : 1 + ((Utf8.encode (wrap32 (wrap64 (48 + (Int.tmod x4_1 10))))) ++ x3_1).size ≤ 9223372036854775807
              · rw [if_pos c10] at H
                have c10b0 := eq_true c10
                have c10b1 : decide (1 + ((Utf8.encode (wrap32 (wrap64 (48 + (Int.tmod x4_1 10))))) ++ x3_1).size ≤ 9223372036854775807) = true := decide_eq_true c10
                try have c10b2 : (9223372036854775807 < 1 + ((Utf8.encode (wrap32 (wrap64 (48 + (Int.tmod x4_1 10))))) ++ x3_1).size) = False := eq_false (Nat.not_lt.2 c10)
                try have c10n0 : (9223372036854775807 < 1 + (Utf8.encode (wrap32 (wrap64 (48 + (Int.tmod x4_1 10))))).size + x3_1.size) = False := eq_false (by have h_ := c10; (try simp only [ByteArray.size_append] at h_); omega)
                try have c10n1 : (9223372036854775807 < 1 + ((Utf8.encode (wrap32 (wrap64 (48 + (Int.tmod x4_1 10))))).size + x3_1.size)) = False := eq_false (by have h_ := c10; (try simp only [ByteArray.size_append] at h_); omega)
                obtain rfl := Option.some.inj H
                go_wp2
                go_ret
                exact ⟨by first | rfl | (simp; done) | (simp [*]; done), by repeat (first | exact Drawn0.refl _ | apply Drawn0.step)⟩
              · rw [if_neg c10] at H
                exact absurd H (by simp)
            · rw [if_neg c9] at H
              have c9b0 : decide (a0 < 0) = false := decide_eq_false c9
              clear c9
              obtain rfl := Option.some.inj H
              go_wp2
              go_ret
              exact ⟨by first | rfl | (simp; done) | (simp [*]; done), by repeat (first | exact Drawn0.refl _ | apply Drawn0.step)⟩
          · rw [if_neg c8] at H
            have c8b0 : ((wrap64 (Int.tdiv x4_1 10)) == 0) = false := beq_eq_false_iff_ne.mpr c8
            have c8b1 : ((wrap64 (Int.tdiv x4_1 10)) != 0) = true := bne_iff_ne.mpr c8
            have H' := Aside0.mk H
            clear H
            go_wp2
            go_roundg k1
            case measure => have := HK1.out; omega
            case rel => exact ⟨((Utf8.encode (wrap32 (wrap64 (48 + (Int.tmod x4_1 10))))) ++ x3_1), (wrap64 (Int.tdiv x4_1 10)), (by first | rfl | (simp; done) | (simp [*]; done)), (by first | rfl | (simp; done) | (simp [*]; done)), H', ⟨by have := HK1.out; omega⟩, by repeat (first | exact Drawn0.refl _ | apply Drawn0.step)⟩
        · rw [if_neg c7] at H
          exact absurd H (by simp)


end Go.Proofs.YtmdgbbiipjmenaaDoor.PCus
