/- A decimal of the library in memory; internal/strconv.trim. internal/strconv.rightShift. internal/strconv.prefixIsLessThan where the first sign tells. (*internal/strconv.decimal).Shift. internal/strconv.shouldRoundUp, (*internal/strconv.decimal).RoundedInteger: they come back. -/
import Derived.Test.YtnpkocpknmhngaaDoorGFast
import Derived.BigQuiet
import Derived.Deep.QuietTactic
import Derived.WalkMore
import Derived.Deep.DeepCutAuto
import Derived.Laws.BitsAllLaws
import Derived.LoopN
import Derived.Deep.RegionWith
namespace Go.Proofs.YtnpkocpknmhngaaDoor.Pf
open Go.RowKit Go.Lib Go.Proofs.YtnpkocpknmhngaaDoorW.PrintWords Go.Proofs.YtnpkocpknmhngaaDoorW.PrintLast Go.Proofs.YtnpkocpknmhngaaDoor.PPf
/-- Block g of W is a decimal: its digits d, how many they are, the point, whether some were cut. -/
structure IsDec (W : World) (g : Nat) (d : Nat → Int) (nd dp : Int) (tr : Bool) : Prop where
  digs : ∀ i : Nat, i < 800 → W.cell? ⟨g, i, none⟩ = some (.int .u8 (d i))
  nd : W.cell? ⟨g, 800, none⟩ = some (.int .i64 nd)
  dp : W.cell? ⟨g, 801, none⟩ = some (.int .i64 dp)
  neg : W.cell? ⟨g, 802, none⟩ = some (.bool false)
  tr : W.cell? ⟨g, 803, none⟩ = some (.bool tr)
  fr : ∀ i : Nat, W.frozen? ⟨g, i, none⟩ = false
theorem cell_set_same (W : World) (g i : Nat) (v u : Value) (h : W.cell? ⟨g, i, none⟩ = some u) : (W.setCell ⟨g, i, none⟩ v).cell? ⟨g, i, none⟩ = some v := by
  unfold World.cell? at h ⊢
  cases hb : W.heap[g]? with
  | none => simp [hb] at h
  | some o =>
    cases o <;> simp [hb, World.setCell, Array.getElem?_modify] at h ⊢
    rw [Array.getElem?_setIfInBounds_self_of_lt (Array.getElem?_eq_some_iff.1 h).1]
theorem cell_set_other (W : World) (g i j : Nat) (v : Value) (h : i ≠ j) : (W.setCell ⟨g, i, none⟩ v).cell? ⟨g, j, none⟩ = W.cell? ⟨g, j, none⟩ := by
  unfold World.cell?
  cases hb : W.heap[g]? with
  | none => simp [hb, World.setCell, Array.getElem?_modify]
  | some o =>
    cases o <;> simp [hb, World.setCell, Array.getElem?_modify, h]
theorem frozen_set (W : World) (g i j : Nat) (v : Value) : (W.setCell ⟨g, i, none⟩ v).frozen? ⟨g, j, none⟩ = W.frozen? ⟨g, j, none⟩ := by
  unfold World.frozen?
  cases hb : W.heap[g]? with
  | none => simp [hb, World.setCell, Array.getElem?_modify]
  | some o =>
    cases o <;> simp [hb, World.setCell, Array.getElem?_modify]
theorem IsDec.setDig {W : World} {g : Nat} {d : Nat → Int} {nd dp : Int} {tr : Bool} (h : IsDec W g d nd dp tr) (i : Nat) (hi : i < 800) (v : Int) : IsDec (W.setCell ⟨g, i, none⟩ (.int .u8 v)) g (fun j => if j = i then v else d j) nd dp tr :=
  ⟨fun j hj => by
    by_cases e : j = i
    · subst e; simp only [reduceIte]; exact cell_set_same _ _ _ _ _ (h.digs j hj)
    · simp only [if_neg e]; rw [cell_set_other _ _ _ _ _ (fun q => e q.symm)]; exact h.digs j hj,
   (cell_set_other _ _ _ _ _ (by omega)).trans h.nd, (cell_set_other _ _ _ _ _ (by omega)).trans h.dp, (cell_set_other _ _ _ _ _ (by omega)).trans h.neg, (cell_set_other _ _ _ _ _ (by omega)).trans h.tr, fun j => (frozen_set _ _ _ _ _).trans (h.fr j)⟩
theorem IsDec.setNd {W : World} {g : Nat} {d : Nat → Int} {nd dp : Int} {tr : Bool} (h : IsDec W g d nd dp tr) (v : Int) : IsDec (W.setCell ⟨g, 800, none⟩ (.int .i64 v)) g d v dp tr :=
  ⟨fun j hj => (cell_set_other _ _ _ _ _ (by omega)).trans (h.digs j hj),
   cell_set_same _ _ _ _ _ h.nd, (cell_set_other _ _ _ _ _ (by omega)).trans h.dp, (cell_set_other _ _ _ _ _ (by omega)).trans h.neg, (cell_set_other _ _ _ _ _ (by omega)).trans h.tr, fun j => (frozen_set _ _ _ _ _).trans (h.fr j)⟩
theorem IsDec.setDp {W : World} {g : Nat} {d : Nat → Int} {nd dp : Int} {tr : Bool} (h : IsDec W g d nd dp tr) (v : Int) : IsDec (W.setCell ⟨g, 801, none⟩ (.int .i64 v)) g d nd v tr :=
  ⟨fun j hj => (cell_set_other _ _ _ _ _ (by omega)).trans (h.digs j hj),
   (cell_set_other _ _ _ _ _ (by omega)).trans h.nd, cell_set_same _ _ _ _ _ h.dp, (cell_set_other _ _ _ _ _ (by omega)).trans h.neg, (cell_set_other _ _ _ _ _ (by omega)).trans h.tr, fun j => (frozen_set _ _ _ _ _).trans (h.fr j)⟩
theorem IsDec.setTr {W : World} {g : Nat} {d : Nat → Int} {nd dp : Int} {tr : Bool} (h : IsDec W g d nd dp tr) (v : Bool) : IsDec (W.setCell ⟨g, 803, none⟩ (.bool v)) g d nd dp v :=
  ⟨fun j hj => (cell_set_other _ _ _ _ _ (by omega)).trans (h.digs j hj),
   (cell_set_other _ _ _ _ _ (by omega)).trans h.nd, (cell_set_other _ _ _ _ _ (by omega)).trans h.dp, (cell_set_other _ _ _ _ _ (by omega)).trans h.neg, cell_set_same _ _ _ _ _ h.tr, fun j => (frozen_set _ _ _ _ _).trans (h.fr j)⟩
theorem IsDec.drewN {W : World} {g : Nat} {d : Nat → Int} {nd dp : Int} {tr : Bool} (h : IsDec W g d nd dp tr) (n : Nat) : IsDec (W.drewN n) g d nd dp tr := ⟨h.digs, h.nd, h.dp, h.neg, h.tr, h.fr⟩
theorem Below.drewN' {B : Nat} {a w : World} (h : Below B a w) (n : Nat) : Below B a (w.drewN n) := ⟨h.os, h.tape, h.output, h.size, h.block⟩
/-- What trim leaves. -/
def Trimmed (g : Nat) (d : Nat → Int) (nd dp : Int) (tr : Bool) (w' : World) : Prop := ∃ n : Int, 0 ≤ n ∧ n ≤ nd ∧ (0 < nd → d 0 ≠ 48 → 0 < n) ∧ IsDec w' g d n (if n = 0 then 0 else dp) tr
set_option maxRecDepth 100000 in
set_option maxHeartbeats 4000000 in
theorem trim_any (g : Nat) (d : Nat → Int) (nd dp : Int) (tr : Bool) (w : World) (hI : IsDec w g d nd dp tr) (h0 : 0 ≤ nd ∧ nd ≤ 800) :
    Calls Tryd.prog 78 #[.pointer (some ⟨g, 0, none⟩)] w fun r w' => r = .returned (.tuple #[]) ∧ Trimmed g d nd dp tr w' ∧ Below g w w' := by
  have hu99 := Tryd.underlying99
  have HN := Aside0.mk h0
  have HI := Aside0.mk hI
  clear h0 hI
  go_enter Tryd.func78, Tryd.ntmps78
  go_wp2
  go_loopg [] nd.toNat (fun kq w' => ∃ n : Int, Aside0 (0 ≤ n ∧ n ≤ nd ∧ n = kq ∧ (0 < nd → d 0 ≠ 48 → 0 < n)) ∧ Aside0 (IsDec w' g d n dp tr) ∧ Aside0 (Below g w w'))
  case atStart => exact ⟨nd, ⟨by have := HN.out; omega⟩, HI, ⟨Below.refl _ _⟩⟩
  case round =>
    obtain ⟨n, HA, HD, HB⟩ := hrel
    have c0 := HD.out.nd
    have c1 := HD.out.dp
    have f0 := HD.out.fr 800
    have f1 := HD.out.fr 801
    by_cases hn : n = 0
    · subst hn
      go_wp2
      go_quiet (fail)
      go_wp2
      go_end0
      exact ⟨rfl, ⟨0, by omega, by have := HA.out; omega, HA.out.2.2.2, by simpa using (HD.out.drewN _).setDp 0⟩, (Below.drewN' HB.out _).setCell (Nat.le_refl g) _⟩
    · obtain ⟨m, rfl⟩ : ∃ m, n = m + 1 := ⟨n - 1, by omega⟩
      have hp : decide (0 < m + 1) = true := decide_eq_true (by have := HA.out; omega)
      have hp2 : decide (0 ≤ m) = true := decide_eq_true (by have := HA.out; omega)
      have h8 := HN.out
      have h9 := HA.out
      have q1 := eq_true (show 0 ≤ m by omega)
      have q2 := eq_true (show m < 800 by omega)
      have cd := HD.out.digs m.toNat (by omega)
      have hw : wrap64 m = m := by unfold wrap64; omega
      have hw2 : IntKind.i64.wrap m = m := by rw [i64_w]; exact hw
      have hnb : (m + 1 == 0) = false := beq_eq_false_iff_ne.mpr hn
      clear h8 h9
      generalize hc : d m.toNat = c at cd
      by_cases h48 : c = 48
      · obtain ⟨g1, rfl⟩ : ∃ g1, gk = g1 + 1 := ⟨gk - 1, by have := HA.out; omega⟩
        have hb : (c == 48) = true := beq_iff_eq.mpr h48
        have HC := Aside0.mk hc
        have HE := Aside0.mk h48
        have HNN := Aside0.mk hn
        clear hc h48 hn
        go_wp2
        go_quiet (fail)
        go_wp2
        go_roundg g1
        case measure => omega
        case rel => exact ⟨m, ⟨by have h1 := HA.out; have h2 := HE.out; have h3 := HC.out; refine ⟨by omega, by omega, by omega, fun h4 h5 => ?_⟩; have hm0 : m ≠ 0 := (fun e => by subst e; exact h5 (h3.trans h2)); omega⟩, ⟨(HD.out.drewN _).setNd m⟩, ⟨(Below.drewN' HB.out _).setCell (Nat.le_refl g) _⟩⟩
      · have hb : (c == 48) = false := beq_eq_false_iff_ne.mpr h48
        have HC := Aside0.mk hc
        have HE := Aside0.mk h48
        have HNN := Aside0.mk hn
        clear hc h48 hn
        go_wp2
        go_quiet (fail)
        go_wp2
        go_end0
        exact ⟨rfl, ⟨m + 1, by have := HA.out; omega, by have := HA.out; omega, HA.out.2.2.2, by rw [if_neg HNN.out]; exact HD.out.drewN _⟩, Below.drewN' HB.out _⟩
end Go.Proofs.YtnpkocpknmhngaaDoor.Pf
namespace Go.Proofs.YtnpkocpknmhngaaDoor.Pf
open Go.RowKit Go.Lib Go.Proofs.YtnpkocpknmhngaaDoorW.PrintWords Go.Proofs.YtnpkocpknmhngaaDoorW.PrintLast Go.Proofs.YtnpkocpknmhngaaDoor.PPf
/-- After r digits (the first one c0) the number is n; K the power of two. -/
def Lead (c0 K r n : Int) : Prop := ∃ L : Int, 0 ≤ r ∧ L = 10 ^ (r - 1).toNat ∧ 1 ≤ L ∧ 0 ≤ n ∧ n < 10 * K ∧ (r = 0 ∧ n = 0 ∨ 1 ≤ r ∧ L ≤ n ∧ n < 10 * L ∧ (r = 1 ∧ n = c0 - 48 ∨ 2 ≤ r ∧ L < 10 * K))
theorem Lead.start (c0 K : Int) (hK : 8 ≤ K) : Lead c0 K 0 0 := ⟨1, by omega, by decide, by omega, by omega, by omega, .inl ⟨rfl, rfl⟩⟩
theorem Lead.step {c0 K r n : Int} (h : Lead c0 K r n) (hn : n < K) (hK : 8 ≤ K) (c : Int) (hc : 48 ≤ c ∧ c ≤ 57) (h0 : r = 0 → c = c0 ∧ 49 ≤ c) : Lead c0 K (r + 1) (n * 10 + c - 48) := by
  obtain ⟨L, h1, h2, h3, h4, h5, h6⟩ := h
  rcases h6 with ⟨rfl, rfl⟩ | ⟨h7, h8, h9, h10⟩
  · have := h0 rfl
    exact ⟨1, by omega, by decide, by omega, by omega, by omega, .inr ⟨by omega, by omega, by omega, .inl ⟨by omega, by omega⟩⟩⟩
  · refine ⟨10 * L, by omega, ?_, by omega, by omega, by omega, .inr ⟨by omega, by omega, by omega, .inr ⟨by omega, by omega⟩⟩⟩
    rw [h2, show (r + 1 - 1).toNat = (r - 1).toNat + 1 by omega, Int.pow_succ]
    omega
theorem Lead.pad {c0 K r n : Int} (h : Lead c0 K r n) (hn : n < K) (h1 : 1 ≤ r) : Lead c0 K (r + 1) (n * 10) := by
  obtain ⟨L, h1, h2, h3, h4, h5, h6⟩ := h
  rcases h6 with ⟨rfl, rfl⟩ | ⟨h7, h8, h9, h10⟩
  · omega
  · refine ⟨10 * L, by omega, ?_, by omega, by omega, by omega, .inr ⟨by omega, by omega, by omega, .inr ⟨by omega, by omega⟩⟩⟩
    rw [h2, show (r + 1 - 1).toNat = (r - 1).toNat + 1 by omega, Int.pow_succ]
    omega
theorem Lead.facts {c0 K r n : Int} (h : Lead c0 K r n) : 0 ≤ r ∧ 0 ≤ n ∧ n < 10 * K ∧ (1 ≤ r → 1 ≤ n) := by
  obtain ⟨L, h1, h2, h3, h4, h5, h6⟩ := h
  rcases h6 with ⟨rfl, rfl⟩ | ⟨h7, h8, h9, h10⟩
  · omega
  · omega
theorem quo_zero {n K : Int} (h0 : 0 ≤ n) (hn : n < K) : (n / K == 0) = true := beq_iff_eq.mpr (Int.ediv_eq_zero_of_lt h0 hn)
theorem quo_pos {n K : Int} (h0 : K ≤ n) (hK : 0 < K) : 1 ≤ n / K := by
  have := Int.le_ediv_of_mul_le hK (a := 1) (b := n) (by omega)
  omega
theorem quo_some {n K : Int} (h0 : K ≤ n) (hK : 0 < K) : (n / K == 0) = false := beq_eq_false_iff_ne.mpr (by have := quo_pos h0 hK; omega)
theorem u64_in {n : Int} (h0 : 0 ≤ n) (h1 : n < 18446744073709551616) : IntKind.u64.wrap n = n := Int.emod_eq_of_lt h0 h1
theorem pow_63 (k : Nat) (hk : k < 64) : (2 : Nat) ^ k ≤ 9223372036854775808 := Nat.le_trans (Nat.pow_le_pow_right (by decide) (show k ≤ 63 by omega)) (Nat.le_of_eq (by rfl))
theorem and_mask' {m k M : Nat} (hK : (2 : Nat) ^ k = M) (hk : k < 64) (h1 : m < 18446744073709551616) : Go.bits .and .u64 (m : Int) ((M : Int) - 1) = ((m % M : Nat) : Int) := by
  have hp := pow_63 k hk
  have hq : 0 < (2 : Nat) ^ k := Nat.pow_pos (by decide)
  rw [hK] at hp hq
  rw [u64_and (m : Int) ((M : Int) - 1) (by omega) (by omega) (by omega) (by omega)]
  have e1 : ((M : Int) - 1).toNat = 2 ^ k - 1 := by rw [hK]; omega
  rw [e1, Nat.and_two_pow_sub_one_eq_mod, hK]
  rfl
theorem and_mask {n K : Int} {k : Nat} (hK : (2 : Int) ^ k = K) (hk : k < 64) (h0 : 0 ≤ n) (h1 : n < 18446744073709551616) : Go.bits .and .u64 n (K - 1) = n % K := by
  obtain ⟨m, rfl⟩ := Int.eq_ofNat_of_zero_le h0
  have hM : ((2 ^ k : Nat) : Int) = K := by rw [← hK]; exact Int.natCast_pow 2 k
  rw [← hM]
  rw [and_mask' rfl hk (Int.ofNat_lt.1 h1)]
  rfl
theorem Lead.rle {c0 K r n : Int} (h : Lead c0 K r n) (hK : 8 ≤ K ∧ K ≤ 134217728) (hn : K ≤ n) : 1 ≤ r ∧ r ≤ 10 := by
  obtain ⟨L, h1, h2, h3, h4, h5, h6⟩ := h
  rcases h6 with ⟨rfl, rfl⟩ | ⟨h7, h8, h9, h10⟩
  · omega
  · refine ⟨h7, ?_⟩
    rcases h10 with h10 | h10
    · omega
    · by_cases h11 : r ≤ 10
      · exact h11
      · have : (10 : Nat) ^ 10 ≤ 10 ^ (r - 1).toNat := Nat.pow_le_pow_right (by decide) (by omega)
        have h12 : (10 : Int) ^ 10 ≤ 10 ^ (r - 1).toNat := by exact_mod_cast this
        rw [← h2] at h12
        omega
/-- The digit that is put down first. -/
def First (K q0 x n : Int) (d : Nat → Int) : Prop := (x = 0 → K ≤ n ∧ n / K = q0) ∧ (1 ≤ x → d 0 = 48 + q0)
/-- Valid digits up to x. -/
def Digs (d : Nat → Int) (x : Int) : Prop := ∀ i : Nat, (i : Int) < x → 48 ≤ d i ∧ d i ≤ 57
theorem Digs.put {d : Nat → Int} {x : Int} (h : Digs d x) (i : Nat) (v : Int) (hv : 48 ≤ v ∧ v ≤ 57) : Digs (fun j => if j = i then v else d j) x := by
  intro j hj
  by_cases e : j = i
  · simp only [if_pos e]; exact hv
  · simp only [if_neg e]; exact h j hj
theorem Digs.more {d : Nat → Int} {x : Int} (h : Digs d x) (h0 : 0 ≤ x) (v : Int) (hv : 48 ≤ v ∧ v ≤ 57) : Digs (fun j => if j = x.toNat then v else d j) (x + 1) := by
  intro j hj
  by_cases e : j = x.toNat
  · simp only [if_pos e]; exact hv
  · simp only [if_neg e]; exact h j (by omega)
theorem Digs.less {d : Nat → Int} {x y : Int} (h : Digs d x) (hy : y ≤ x) : Digs d y := fun j hj => h j (by omega)
theorem First.put {K q0 x n n' : Int} {d : Nat → Int} (h : First K q0 x n d) (h0 : 0 ≤ x) : First K q0 (x + 1) n' (fun j => if j = x.toNat then n / K + 48 else d j) := by
  refine ⟨fun e => absurd e (by omega), fun _ => ?_⟩
  by_cases e : x = 0
  · subst e; simp only [Int.toNat_zero, if_pos]; have := h.1 rfl; omega
  · show (if 0 = x.toNat then _ else _) = _
    rw [if_neg (by omega)]; exact h.2 (by omega)
theorem First.keep {K q0 x n n' : Int} {d : Nat → Int} (h : First K q0 x n d) (h0 : 1 ≤ x) : First K q0 x n' d := ⟨fun e => absurd e (by omega), h.2⟩
theorem quo_small {n K : Int} (h0 : 0 ≤ n) (h1 : n < 10 * K) (hK : 0 < K) : 0 ≤ n / K ∧ n / K ≤ 9 := by
  have := Int.ediv_nonneg h0 (Int.le_of_lt hK)
  have := Int.ediv_lt_of_lt_mul hK (a := n) (b := 10) (by omega)
  omega
theorem rem_small {n K : Int} (hK : 0 < K) : 0 ≤ n % K ∧ n % K < K := ⟨Int.emod_nonneg _ (by omega), Int.emod_lt_of_pos _ hK⟩
/-- What rightShift leaves. -/
def RightOut (g : Nat) (d : Nat → Int) (dp K : Int) (w' : World) : Prop := ∃ (r L nd' : Int) (d' : Nat → Int) (tr' : Bool), IsDec w' g d' nd' (dp - (r - 1)) tr' ∧ (1 ≤ nd' ∧ nd' ≤ 800) ∧ Digs d' nd' ∧ 49 ≤ d' 0 ∧ 1 ≤ r ∧ L = 10 ^ (r - 1).toNat ∧ K < 10 * L ∧ (r = 1 ∧ d' 0 = 48 + (d 0 - 48) / K ∨ 2 ≤ r ∧ L < 10 * K)
set_option maxRecDepth 100000 in
set_option maxHeartbeats 4000000 in
theorem right_any (g : Nat) (d : Nat → Int) (nd dp k K : Int) (tr : Bool) (w : World) (hI : IsDec w g d nd dp tr) (h0 : 1 ≤ nd ∧ nd ≤ 800) (hk : 0 ≤ k ∧ k < 64) (hKe : (2 : Int) ^ k.toNat = K) (hK : 8 ≤ K ∧ K ≤ 134217728) (hdp : 0 ≤ dp ∧ dp ≤ 1000) (hd : Digs d nd) (hd0 : 49 ≤ d 0) :
    Calls Tryd.prog 75 #[.pointer (some ⟨g, 0, none⟩), .int .u64 k] w fun r w' => r = .returned (.tuple #[]) ∧ RightOut g d dp K w' ∧ Below g w w' := by
  have hu99 := Tryd.underlying99
  have HN := Aside0.mk h0
  have HI := Aside0.mk hI
  have HDP := Aside0.mk hdp
  have HDD := Aside0.mk hd
  have HD0 := Aside0.mk hd0
  have HK := Aside0.mk hK
  have hk1 := eq_true hk.1
  have hk2 := eq_true (show k ≤ 64 by omega)
  have HKK := Aside0.mk hk
  clear h0 hI hdp hd hd0 hk hK
  go_enter Tryd.func75, Tryd.ntmps75
  go_upto_block 0 with (fail)
  go_cut [4, 6] (fun v4 v6 w' => ∃ r n : Int, v4 = .int .i64 r ∧ v6 = .int .u64 n ∧ Aside0 (Lead (d 0) K r n) ∧ Aside0 (K ≤ n) ∧ ∃ q, w' = w.drewN q)
  case first =>
    go_wp2
    go_loopg [4, 6] nd.toNat (fun kq v4 v6 w' => ∃ r n : Int, v4 = .int .i64 r ∧ v6 = .int .u64 n ∧ Aside0 (0 ≤ r ∧ r + kq = nd) ∧ Aside0 (Lead (d 0) K r n) ∧ ∃ q, w' = w.drewN q)
    case atStart => exact ⟨0, 0, rfl, rfl, ⟨by have := HN.out; omega⟩, ⟨Lead.start _ _ HK.out.1⟩, 0, rfl⟩
    case round =>
      obtain ⟨r, n, rfl, rfl, HR, HL, q, rfl⟩ := hrel
      have c0 := HI.out.nd
      by_cases hn : K ≤ n
      · have e1 := quo_some hn (by have := HK.out; omega)
        have HNN := Aside0.mk hn
        clear hn
        go_wp2
        go_meet
        case rel => exact ⟨r, n, rfl, rfl, HL, HNN, q, rfl⟩
      · have e1 := quo_zero HL.out.facts.2.1 (by omega : n < K)
        have HNN := Aside0.mk hn
        by_cases hr : nd ≤ r
        · have e2 : (n == 0) = false := beq_eq_false_iff_ne.mpr (by have := HL.out.facts; have := HN.out; omega)
          have e3 : decide (nd ≤ r) = true := decide_eq_true hr
          have HRR := Aside0.mk hr
          clear hn hr
          go_wp2
          go_loopg [4, 6] (K - n).toNat (fun kq v4 v6 w' => ∃ r n : Int, v4 = .int .i64 r ∧ v6 = .int .u64 n ∧ Aside0 (1 ≤ r ∧ r + kq ≤ nd + K) ∧ Aside0 (K ≤ n + kq) ∧ Aside0 (Lead (d 0) K r n) ∧ ∃ q, w' = w.drewN q)
          case atStart => exact ⟨r, n, rfl, rfl, ⟨by have := HL.out.facts; have := HN.out; have := HR.out; have := HNN.out; have := HRR.out; omega⟩, ⟨by omega⟩, HL, q, rfl⟩
          case round =>
            clear e1 e2 e3 HL HNN HRR HR
            obtain ⟨r, n, rfl, rfl, HR, HM, HL, q, rfl⟩ := hrel
            by_cases hn : K ≤ n
            · have e1 := quo_some hn (by have := HK.out; omega)
              have HNN := Aside0.mk hn
              clear hn
              go_wp2
              go_meet
              case rel => exact ⟨r, n, rfl, rfl, HL, HNN, q, rfl⟩
            · have e1 := quo_zero HL.out.facts.2.1 (by omega : n < K)
              have HNN := Aside0.mk hn
              have e4 := u64_in (n := n * 10) (by have := HL.out.facts; omega) (by have := HL.out.facts; have := HK.out; omega)
              have e5 : wrap64 (r + 1) = r + 1 := by unfold wrap64; have := HN.out; have := HR.out; have := HK.out; omega
              obtain ⟨g1, rfl⟩ : ∃ g1, gk = g1 + 1 := ⟨gk - 1, by have := HM.out; omega⟩
              clear hn
              go_wp2
              go_roundg g1
              case measure => omega
              case rel => exact ⟨r + 1, n * 10, by first | rfl | rw [e5], by first | rfl | rw [e4], ⟨by have := HR.out; omega⟩, ⟨by have := HM.out; have := HL.out.facts; have := HR.out; omega⟩, ⟨HL.out.pad (by have := HNN.out; omega) HR.out.1⟩, q, rfl⟩
        · have e3 : decide (nd ≤ r) = false := decide_eq_false hr
          have q1 := eq_true (show 0 ≤ r from HR.out.1)
          have q2 := eq_true (show r < 800 by have := HN.out; omega)
          have cd := HI.out.digs r.toNat (by have := HN.out; have := HR.out; omega)
          have hc := HDD.out r.toNat (by have := HR.out; omega)
          have hc0 : r = 0 → d r.toNat = d 0 ∧ 49 ≤ d r.toNat := by rintro rfl; exact ⟨rfl, HD0.out⟩
          generalize d r.toNat = c at cd hc hc0
          have e4 := u64_in (n := n * 10) (by have := HL.out.facts; omega) (by have := HL.out.facts; have := HK.out; omega)
          have e6 := u64_in (n := n * 10 + c) (by have := HL.out.facts; omega) (by have := HL.out.facts; have := HK.out; omega)
          have e7 := u64_in (n := n * 10 + c - 48) (by have := HL.out.facts; omega) (by have := HL.out.facts; have := HK.out; omega)
          have e8 := u64_in (n := c) (by omega) (by omega)
          have e5 : wrap64 (r + 1) = r + 1 := by unfold wrap64; have := HN.out; have := HR.out; omega
          obtain ⟨g1, rfl⟩ : ∃ g1, gk = g1 + 1 := ⟨gk - 1, by have := HR.out; omega⟩
          have HC := Aside0.mk hc
          have HC0 := Aside0.mk hc0
          clear hn hr hc hc0
          go_wp2
          go_roundg g1
          case measure => omega
          case rel => exact ⟨r + 1, n * 10 + c - 48, by first | rfl | rw [e5], by first | rfl | rw [e7], ⟨by have := HR.out; omega⟩, ⟨HL.out.step (by have := HNN.out; omega) HK.out.1 c HC.out HC0.out⟩, q, rfl⟩
  case rest =>
    obtain ⟨r, n, rfl, rfl, HL, HNN, q, rfl⟩ := hcut
    have HR := Aside0.mk (HL.out.rle HK.out HNN.out)
    have c0 := HI.out.nd
    have c1 := HI.out.dp
    have f0 := HI.out.fr 800
    have f1 := HI.out.fr 801
    have e1 : wrap64 (r - 1) = r - 1 := by unfold wrap64; have := HR.out; omega
    have e2 : wrap64 (dp - (r - 1)) = dp - (r - 1) := by unfold wrap64; have := HR.out; have := HDP.out; omega
    have e3 := u64_in (n := K) (by have := HK.out; omega) (by have := HK.out; omega)
    have e4 := u64_in (n := K - 1) (by have := HK.out; omega) (by have := HK.out; omega)
    go_upto_block 4 with (fail)
    have HB0 : Aside0 (Below g w ((w.drewN q).setCell { block := g, off := 801 } (.int .i64 (dp - (r - 1))))) := ⟨(Below.drewN' (Below.refl _ _) _).setCell (Nat.le_refl g) _⟩
    have HI0 : Aside0 (IsDec ((w.drewN q).setCell { block := g, off := 801 } (.int .i64 (dp - (r - 1)))) g d nd (dp - (r - 1)) tr) := ⟨(HI.out.drewN _).setDp _⟩
    generalize ((w.drewN q).setCell { block := g, off := 801 } (.int .i64 (dp - (r - 1)))) = W at HB0 HI0 ⊢
    have HF0 : Aside0 (First K (n / K) 0 n d) := ⟨⟨fun _ => ⟨HNN.out, rfl⟩, fun h => by omega⟩⟩
    clear c0 c1 f0 f1 e1 e2 e3 e4
    go_wp2
    go_loopg [4, 5, 6] (nd - r).toNat (fun kq v4 v5 v6 w' => ∃ (r1 x n1 : Int) (d' : Nat → Int), v4 = .int .i64 r1 ∧ v5 = .int .i64 x ∧ v6 = .int .u64 n1 ∧ Aside0 (1 ≤ r1 ∧ 0 ≤ x ∧ x ≤ r1 - 1 ∧ x ≤ nd ∧ nd ≤ r1 + kq ∧ r1 ≤ 1000) ∧ Aside0 (0 ≤ n1 ∧ n1 < 10 * K) ∧ Aside0 (First K (n / K) x n1 d') ∧ Aside0 (Digs d' nd) ∧ Aside0 (IsDec w' g d' nd (dp - (r - 1)) tr) ∧ Aside0 (Below g w w'))
    case atStart => exact ⟨r, 0, n, d, rfl, rfl, rfl, ⟨by have := HR.out; have := HN.out; omega⟩, ⟨by have := HL.out.facts; omega⟩, HF0, HDD, HI0, HB0⟩
    case round =>
      clear HB0 HI0 HF0
      obtain ⟨r1, x, n1, d', rfl, rfl, rfl, HX, HM, HF, HDG, HI1, HB1⟩ := hrel
      have c0 := HI1.out.nd
      have f0 := HI1.out.fr 800
      have f3 := HI1.out.fr 803
      have c3 := HI1.out.tr
      by_cases hlt : r1 < nd
      · have hltb : decide (r1 < nd) = true := decide_eq_true hlt
        have q1 := eq_true (show 0 ≤ r1 by have := HX.out; omega)
        have q2 := eq_true (show r1 < 800 by have := HN.out; omega)
        have q3 := eq_true (show 0 ≤ x by have := HX.out; omega)
        have q4 := eq_true (show x < 800 by have := HX.out; have := HN.out; omega)
        have cd := HI1.out.digs r1.toNat (by have := HN.out; have := HX.out; omega)
        have cx := HI1.out.digs x.toNat (by have := HN.out; have := HX.out; omega)
        have fx := HI1.out.fr x.toNat
        have hc := HDG.out r1.toNat (by have := HX.out; omega)
        generalize d' r1.toNat = c at cd hc
        have hKp : 0 < K := by have := HK.out; omega
        have hq := quo_small HM.out.1 HM.out.2 hKp
        have hm := rem_small (n := n1) hKp
        have a1 := and_mask (n := n1) hKe (by have := HKK.out; omega) HM.out.1 (by have := HM.out; have := HK.out; omega)
        have e4 := u64_in (n := n1 % K * 10) (by omega) (by have := HK.out; omega)
        have e6 := u64_in (n := n1 % K * 10 + c) (by omega) (by have := HK.out; omega)
        have e7 := u64_in (n := n1 % K * 10 + c - 48) (by omega) (by have := HK.out; omega)
        have e8 := u64_in (n := c) (by omega) (by omega)
        have e9 := u64_in (n := n1 / K + 48) (by omega) (by omega)
        have e10 : IntKind.u8.wrap (n1 / K + 48) = n1 / K + 48 := Int.emod_eq_of_lt (by omega) (by show _ < (256 : Int); omega)
        have e5 : wrap64 (r1 + 1) = r1 + 1 := by unfold wrap64; have := HX.out; omega
        have e11 : wrap64 (x + 1) = x + 1 := by unfold wrap64; have := HX.out; omega
        obtain ⟨g1, rfl⟩ : ∃ g1, gk = g1 + 1 := ⟨gk - 1, by have := HX.out; omega⟩
        have HC := Aside0.mk hc
        have HQ := Aside0.mk hq
        have HMM := Aside0.mk hm
        have HLT := Aside0.mk hlt
        clear hc hlt hq hm hKp
        go_wp2
        go_roundg g1
        case measure => omega
        case rel => exact ⟨r1 + 1, x + 1, n1 % K * 10 + c - 48, _, by first | rfl | rw [e5], by first | rfl | rw [e11], by first | rfl | rw [e7], ⟨by have := HX.out; have := HLT.out; have := HN.out; omega⟩, ⟨by have := HMM.out; have := HC.out; omega⟩, ⟨HF.out.put HX.out.2.1⟩, ⟨HDG.out.put x.toNat (n1 / K + 48) (by have := HQ.out; omega)⟩, ⟨HI1.out.setDig x.toNat (by have := HX.out; have := HN.out; have := HLT.out; omega) (n1 / K + 48)⟩, ⟨HB1.out.setCell (Nat.le_refl g) _⟩⟩
      · have hltb : decide (r1 < nd) = false := decide_eq_false hlt
        have HLT := Aside0.mk hlt
        clear hlt
        go_wp2
        go_loopg [5, 6] (k.toNat + 1) (fun kq v5 v6 w' => ∃ (x n1 : Int) (d' : Nat → Int) (tr' : Bool), v5 = .int .i64 x ∧ v6 = .int .u64 n1 ∧ Aside0 (0 ≤ x ∧ x ≤ 800) ∧ Aside0 (0 ≤ n1 ∧ n1 < 10 * K) ∧ Aside0 (First K (n / K) x n1 d') ∧ Aside0 (Digs d' x) ∧ Aside0 (n1 = 0 ∨ ∃ j : Nat, kq + j = k.toNat + 1 ∧ (2 : Int) ^ j ∣ n1 ∧ j ≤ k.toNat) ∧ Aside0 (IsDec w' g d' nd (dp - (r - 1)) tr') ∧ Aside0 (Below g w w'))
        case atStart => exact ⟨x, n1, d', tr, rfl, rfl, ⟨by have := HX.out; have := HN.out; omega⟩, HM, HF, ⟨HDG.out.less (by have := HX.out; omega)⟩, ⟨.inr ⟨0, by omega, by simp, by omega⟩⟩, HI1, HB1⟩
        case round =>
          clear HI1 HB1 HF HM HDG HX hltb HLT c0 f0 f3 c3
          obtain ⟨x, n1, d', tr', rfl, rfl, HX, HM, HF, HDG, HJ, HI1, HB1⟩ := hrel
          have c0 := HI1.out.nd
          have f0 := HI1.out.fr 800
          have f3 := HI1.out.fr 803
          have c3 := HI1.out.tr
          have hKp : 0 < K := by have := HK.out; omega
          by_cases hn0 : n1 = 0
          · have e1 : decide (0 < n1) = false := decide_eq_false (by omega)
            have HN0 := Aside0.mk hn0
            have hx1 : 1 ≤ x := by
              have h1 := HF.out.1
              have := HX.out
              by_cases h : x = 0
              · have := (h1 h).1; omega
              · omega
            have HX1 := Aside0.mk hx1
            clear hn0 hKp hx1
            go_wp2_with (go_at_call 78; go_loud (refine (trim_any g d' x (dp - (r - 1)) tr' _ (HI1.out.setNd x) (by have := HX.out; omega)).mono ?_; rintro e w9 ⟨rfl, HTT, HBB⟩; have HT9 := Aside0.mk HTT; have HB9 := Aside0.mk HBB; clear HTT HBB))
            go_end0
            obtain ⟨n', hn0, hn1, hpos, hD⟩ := HT9.out
            have hKp : 0 < K := by have := HK.out; omega
            have hq1 := quo_pos HNN.out hKp
            have hd9 := HF.out.2 HX1.out
            have hn2 := hpos (by have := HX1.out; omega) (by omega)
            rw [if_neg (by omega)] at hD
            refine ⟨rfl, ?_, (HB1.out.setCell (Nat.le_refl g) _).trans HB9.out⟩
            obtain ⟨L, h1, h2, h3, h4, h5, h6⟩ := HL.out
            have hKn := HNN.out
            rcases h6 with ⟨h7, h8⟩ | ⟨h7, h8, h9, h10⟩
            · omega
            · refine ⟨r, L, n', d', tr', hD, ⟨by omega, by have := HX.out; omega⟩, HDG.out.less hn1, by omega, h7, h2, by omega, ?_⟩
              rcases h10 with ⟨h11, h12⟩ | h11
              · exact .inl ⟨h11, by rw [hd9, h12]⟩
              · exact .inr h11
          · have e1 : decide (0 < n1) = true := decide_eq_true (by have := HM.out; omega)
            have hq := quo_small HM.out.1 HM.out.2 hKp
            have hm := rem_small (n := n1) hKp
            have a1 := and_mask (n := n1) hKe (by have := HKK.out; omega) HM.out.1 (by have := HM.out; have := HK.out; omega)
            have e4 := u64_in (n := n1 % K * 10) (by omega) (by have := HK.out; omega)
            obtain ⟨g1, rfl, HJ1⟩ : ∃ g1, gk = g1 + 1 ∧ Aside0 (n1 % K * 10 = 0 ∨ ∃ j : Nat, g1 + j = k.toNat + 1 ∧ (2 : Int) ^ j ∣ n1 % K * 10 ∧ j ≤ k.toNat) := by
              rcases HJ.out with h | ⟨j, h1, h2, h3⟩
              · exact absurd h hn0
              · refine ⟨gk - 1, by omega, ⟨?_⟩⟩
                have hd : (2 : Int) ^ j ∣ n1 % K := by
                  rw [Int.emod_def]
                  refine Int.dvd_sub h2 (Int.dvd_trans ?_ (Int.dvd_mul_right K (n1 / K)))
                  rw [← hKe, show k.toNat = j + (k.toNat - j) by omega, Int.pow_add]
                  exact Int.dvd_mul_right _ _
                by_cases hj : j = k.toNat
                · left
                  rw [hj, hKe] at hd
                  have h5 := Int.emod_eq_zero_of_dvd hd
                  rw [Int.emod_eq_of_lt hm.1 hm.2] at h5
                  rw [h5]
                  rfl
                · right
                  refine ⟨j + 1, by omega, ?_, by omega⟩
                  rw [Int.pow_succ]
                  exact Int.mul_dvd_mul hd ⟨5, rfl⟩
            by_cases hx : x < 800
            · have e2 : decide (x < 800) = true := decide_eq_true hx
              have q3 := eq_true (show 0 ≤ x by have := HX.out; omega)
              have q4 := eq_true hx
              have cx := HI1.out.digs x.toNat (by have := HX.out; omega)
              have fx := HI1.out.fr x.toNat
              have e9 := u64_in (n := n1 / K + 48) (by omega) (by omega)
              have e10 : IntKind.u8.wrap (n1 / K + 48) = n1 / K + 48 := Int.emod_eq_of_lt (by omega) (by show _ < (256 : Int); omega)
              have e11 : wrap64 (x + 1) = x + 1 := by unfold wrap64; have := HX.out; omega
              have HQ := Aside0.mk hq
              have HMM := Aside0.mk hm
              have HXX := Aside0.mk hx
              clear hx hq hm hKp hn0
              go_wp2
              go_roundg g1
              case measure => omega
              case rel => exact ⟨x + 1, n1 % K * 10, _, tr', by first | rfl | rw [e11], by first | rfl | rw [e4], ⟨by have := HX.out; have := HXX.out; omega⟩, ⟨by have := HMM.out; omega⟩, ⟨HF.out.put HX.out.1⟩, ⟨HDG.out.more HX.out.1 (n1 / K + 48) (by have := HQ.out; omega)⟩, HJ1, ⟨HI1.out.setDig x.toNat (by have := HX.out; have := HXX.out; omega) (n1 / K + 48)⟩, ⟨HB1.out.setCell (Nat.le_refl g) _⟩⟩
            · have e2 : decide (x < 800) = false := decide_eq_false hx
              have HXX := Aside0.mk hx
              have HMM := Aside0.mk hm
              by_cases hz : 0 < n1 / K
              · have e3 : decide (0 < n1 / K) = true := decide_eq_true hz
                clear hx hq hm hKp hn0 hz
                go_wp2
                go_roundg g1
                case measure => omega
                case rel => exact ⟨x, n1 % K * 10, d', true, rfl, by first | rfl | rw [e4], HX, ⟨by have := HMM.out; omega⟩, ⟨HF.out.keep (by have := HXX.out; omega)⟩, HDG, HJ1, ⟨HI1.out.setTr true⟩, ⟨HB1.out.setCell (Nat.le_refl g) _⟩⟩
              · have e3 : decide (0 < n1 / K) = false := decide_eq_false hz
                clear hx hq hm hKp hn0 hz
                go_wp2
                go_roundg g1
                case measure => omega
                case rel => exact ⟨x, n1 % K * 10, d', tr', rfl, by first | rfl | rw [e4], HX, ⟨by have := HMM.out; omega⟩, ⟨HF.out.keep (by have := HXX.out; omega)⟩, HDG, HJ1, HI1, HB1⟩
end Go.Proofs.YtnpkocpknmhngaaDoor.Pf
namespace Go.Proofs.YtnpkocpknmhngaaDoor.Pf
open Go.RowKit Go.Lib Go.Proofs.YtnpkocpknmhngaaDoorW.PrintWords Go.Proofs.YtnpkocpknmhngaaDoorW.PrintLast Go.Proofs.YtnpkocpknmhngaaDoor.PPf
set_option maxRecDepth 100000 in
set_option maxHeartbeats 4000000 in
theorem prefix_first (g m : Nat) (d0 : Int) (c : Nat) (s : ByteArray) (h0 : 0 < s.size) (hs : s.size ≤ 100) (hc : (s[0]'h0).toNat = c) (hne : d0 ≠ c) (hn : 1 ≤ m ∧ m ≤ 800) (w : World) (hd : w.cell? ⟨g, 0, none⟩ = some (.int .u8 d0)) :
    Calls Tryd.prog 77 #[.slice (some ⟨g, 0, none⟩) m 800, .string s] w fun r w' => r = .returned (.bool (decide (d0 < c))) ∧ Drawn0 w w' := by
  have z2 := eq_true (show (0 : Int) < s.size by omega)
  have z3 := eq_true h0
  have z4 : decide ((m : Int) ≤ 0) = false := decide_eq_false (by omega)
  have z5 := eq_true (show 0 < m by omega)
  have z7 := eq_true (show (0 : Int) < (m : Int) by omega)
  have z8 := eq_false (show ¬ m = 0 by omega)
  have ne : (d0 != (c : Int)) = true := bne_iff_ne.mpr hne
  have HNE := Aside0.mk hne
  have HN := Aside0.mk hn
  clear hne hn
  go_enter Tryd.func77, Tryd.ntmps77
  go_wp2
  refine wp_loop_rounds 1 ?_
  rw [rounds_succ]
  go_wp2
  go_quiet (fail)
  go_wp2
  go_quiet (fail)
  go_wp2
  go_ret
  exact ⟨rfl, by first | exact ⟨_, World.drewN_drewN _ _ _⟩ | exact ⟨_, rfl⟩⟩
theorem digit_mul {c K : Int} (h : 48 ≤ c ∧ c ≤ 57) (hK : 0 ≤ K) : 0 ≤ (c - 48) * K ∧ (c - 48) * K ≤ 9 * K :=
  ⟨Int.mul_nonneg (by omega) hK, Int.mul_le_mul_of_nonneg_right (by omega) hK⟩
/-- What leftShift leaves, D orders added. -/
def LeftOut (g : Nat) (d : Nat → Int) (dp K D : Int) (w' : World) : Prop := ∃ (nd' dp' : Int) (d' : Nat → Int) (tr' : Bool), IsDec w' g d' nd' dp' tr' ∧ (0 ≤ nd' ∧ nd' ≤ 800) ∧ (dp' = dp + D ∨ dp' = 0) ∧ (D = 0 → Digs d' nd' ∧ 48 + (d 0 - 48) * K ≤ d' 0 ∧ 1 ≤ nd' ∧ dp' = dp)
set_option maxRecDepth 100000 in
set_option maxHeartbeats 4000000 in
theorem left_any (g : Nat) (d : Nat → Int) (nd dp k K D D0 T : Int) (tr : Bool) (b o c : Nat) (s : ByteArray) (w : World) (hI : IsDec w g d nd dp tr) (h0 : 1 ≤ nd ∧ nd ≤ 800) (hk : 0 ≤ k ∧ k < 61) (hKe : (2 : Int) ^ k.toNat = K) (hK : 2 ≤ K ∧ K ≤ 9007199254740992) (hdp : 0 ≤ dp ∧ dp ≤ 1000) (hd : Digs d nd) (hd0 : 49 ≤ d 0)
    (hg : w.cell? ⟨12, 0, none⟩ = some (.slice (some ⟨b, o, none⟩) 61 61)) (hb1 : w.cell? ⟨b, o + k.toNat * 2, none⟩ = some (.int .i64 D0)) (hb2 : w.cell? ⟨b, o + k.toNat * 2 + 1, none⟩ = some (.string s))
    (hs0 : 0 < s.size) (hs : s.size ≤ 100) (hc : (s[0]'hs0).toNat = c) (hne : d 0 ≠ c) (hD : D = if d 0 < c then D0 - 1 else D0) (hD0 : 0 ≤ D ∧ D ≤ 17) (hT : T = 10 ^ D.toNat) (hTT : (d 0 - 48) * K + K ≤ 10 * T) (hlt : 12 < g ∧ b < g) :
    Calls Tryd.prog 74 #[.pointer (some ⟨g, 0, none⟩), .int .u64 k] w fun r w' => r = .returned (.tuple #[]) ∧ LeftOut g d dp K D w' ∧ Below g w w' := by
  have hu99 := Tryd.underlying99
  have HN := Aside0.mk h0
  have HI := Aside0.mk hI
  have HDP := Aside0.mk hdp
  have HDD := Aside0.mk hd
  have HD0 := Aside0.mk hd0
  have HK := Aside0.mk hK
  have HKK := Aside0.mk hk
  have HNE := Aside0.mk hne
  have HD := Aside0.mk hD
  have HDR := Aside0.mk hD0
  have HT := Aside0.mk hT
  have HTT := Aside0.mk hTT
  have HLT := Aside0.mk hlt
  have HS0 := Aside0.mk hs
  have hk1 := eq_true hk.1
  have hk2 := eq_true (show k ≤ 64 by omega)
  have hk3 := eq_true (show k < 61 by omega)
  have c0 := hI.nd
  clear h0 hI hdp hd hd0 hk hK hne hD hD0 hT hTT hlt hs
  go_enter Tryd.func74, Tryd.ntmps74
  go_upto_region 1 with (fail)
  have hn1 := eq_true (show 0 ≤ nd by have := HN.out; omega)
  have hn2 := eq_true (show nd ≤ 800 by have := HN.out; omega)
  go_quiet ((go_at_call 77; refine (prefix_first g nd.toNat (d 0) c s hs0 HS0.out hc HNE.out (by have := HN.out; omega) _ ((HI.out.drewN _).digs 0 (by omega))).mono ?_; rintro e w1 ⟨rfl, ⟨n1, rfl⟩⟩; exact ⟨rfl, _, World.drewN_drewN _ _ _⟩))
  go_upto_if 30 with (fail)
  go_cut [4] (fun v4 w' => v4 = .int .i64 D ∧ ∃ q, w' = w.drewN q)
  case first =>
    go_wp2
    all_goals
      go_meet
      case rel => exact ⟨congrArg _ (by have h1 := HD.out; have := HDR.out; (first | rw [if_pos (by omega)] at h1 | rw [if_neg (by omega)] at h1); (try unfold wrap64); omega), _, rfl⟩
  case rest =>
    obtain ⟨rfl, q, rfl⟩ := hcut
    have e1 : wrap64 (nd + D) = nd + D := by unfold wrap64; have := HN.out; have := HDR.out; omega
    have e2 : wrap64 (nd - 1) = nd - 1 := by unfold wrap64; have := HN.out; omega
    have c1 := HI.out.dp
    have f0 := HI.out.fr 800
    have f1 := HI.out.fr 801
    go_wp2
    go_loopg [5, 6, 7] nd.toNat (fun kq v5 v6 v7 w' => ∃ (r n : Int) (d' : Nat → Int) (tr' : Bool), v5 = .int .i64 r ∧ v6 = .int .i64 (r + 1 + D) ∧ v7 = .int .u64 n ∧ Aside0 (-1 ≤ r ∧ r < nd ∧ r + 1 = kq) ∧ Aside0 (0 ≤ n ∧ (0 ≤ r → n < K) ∧ (r < 0 → n < T)) ∧ Aside0 (Digs d' nd) ∧ Aside0 (0 ≤ r → d' 0 = d 0) ∧ Aside0 (D = 0 → r < 0 → 48 + (d 0 - 48) * K ≤ d' 0) ∧ Aside0 (IsDec w' g d' nd dp tr') ∧ Aside0 (Below g w w'))
    case atStart => exact ⟨nd - 1, 0, d, tr, by rw [e2], by rw [e1]; congr 1; omega, rfl, ⟨by have := HN.out; omega⟩, ⟨by have := HN.out; have := HK.out; omega⟩, HDD, ⟨fun _ => rfl⟩, ⟨fun _ h => by have := HN.out; omega⟩, ⟨HI.out.drewN _⟩, ⟨Below.drewN' (Below.refl _ _) _⟩⟩
    case round =>
      clear c1 f0 f1 e1 e2 c0
      obtain ⟨r, n, d', tr', rfl, rfl, rfl, HR, HM, HDG, HD1, HD2, HI1, HB1⟩ := hrel
      have c0 := HI1.out.nd
      have c1 := HI1.out.dp
      have c3 := HI1.out.tr
      have f0 := HI1.out.fr 800
      have f1 := HI1.out.fr 801
      have f3 := HI1.out.fr 803
      by_cases hr : 0 ≤ r
      · have hrb : decide (0 ≤ r) = true := decide_eq_true hr
        have q1 := eq_true hr
        have q2 := eq_true (show r < 800 by have := HN.out; have := HR.out; omega)
        have q3 := eq_true (show 0 ≤ r + D by have := HDR.out; omega)
        have cd := HI1.out.digs r.toNat (by have := HN.out; have := HR.out; omega)
        have hc9 := HDG.out r.toNat (by have := HR.out; omega)
        have hcr : r = 0 → d' r.toNat = d 0 := by rintro rfl; exact HD1.out (by omega)
        generalize d' r.toNat = x at cd hc9 hcr
        have hx := digit_mul hc9 (K := K) (by have := HK.out; omega)
        obtain ⟨P, hP⟩ : ∃ P, (x - 48) * K = P := ⟨_, rfl⟩
        rw [hP] at hx
        have e3 := u64_in (n := x) (by omega) (by omega)
        have e4 := u64_in (n := x - 48) (by omega) (by omega)
        have e5 := u64_in (n := P) (by omega) (by have := HK.out; omega)
        obtain ⟨N, hN⟩ : ∃ N, n + P = N := ⟨_, rfl⟩
        have hN2 : 0 ≤ N ∧ N < 18446744073709551616 := by have := HK.out; have := HM.out; omega
        have e6 := u64_in (n := N) hN2.1 hN2.2
        obtain ⟨Q, hQ⟩ : ∃ Q, N / 10 = Q := ⟨_, rfl⟩
        have e7 : IntKind.u64.wrap (N.tdiv 10) = Q := by rw [Int.tdiv_eq_ediv_of_nonneg hN2.1, hQ]; exact u64_in (by omega) (by omega)
        have e8 := u64_in (n := 10 * Q) (by omega) (by omega)
        obtain ⟨R, hR⟩ : ∃ R, N - 10 * Q = R := ⟨_, rfl⟩
        have hR2 : 0 ≤ R ∧ R ≤ 9 := by omega
        have e11 := u64_in (n := R) (by omega) (by omega)
        have e12 := u64_in (n := R + 48) (by omega) (by omega)
        have e13 : (R + 48) % 256 = R + 48 := Int.emod_eq_of_lt (by omega) (by omega)
        have e9 : wrap64 (r + 1 + D - 1) = r + D := by unfold wrap64; have := HR.out; have := HDR.out; have := HN.out; omega
        have e10 : wrap64 (r - 1) = r - 1 := by unfold wrap64; have := HR.out; have := HN.out; omega
        obtain ⟨g1, rfl⟩ : ∃ g1, gk = g1 + 1 := ⟨gk - 1, by have := HR.out; omega⟩
        have HX := Aside0.mk hx
        have HP := Aside0.mk hP
        have HC := Aside0.mk hc9
        have HCR := Aside0.mk hcr
        have HRR := Aside0.mk hr
        have HQ := Aside0.mk hQ
        have HR1 := Aside0.mk hR
        have HR2 := Aside0.mk hR2
        have HNN := Aside0.mk hN
        have HM2 : Aside0 (0 ≤ Q ∧ (0 ≤ r - 1 → Q < K) ∧ (r - 1 < 0 → Q < T)) := ⟨by
          have h1 := HM.out
          have h2 := HTT.out
          have h3 := h1.2.1 hr
          refine ⟨by omega, fun h => by omega, fun h => ?_⟩
          have hr0 : r = 0 := by have := HR.out; omega
          rw [hcr hr0] at hP
          omega⟩
        have HD22 : Aside0 (D = 0 → r - 1 < 0 → 48 + (d 0 - 48) * K ≤ 48 + R) := ⟨by
          intro hD0 h
          have hr0 : r = 0 := by have := HR.out; omega
          have h5 := HM2.out.2.2 h
          rw [HT.out, hD0] at h5
          rw [hcr hr0] at hP
          have h1 := HM.out
          simp at h5
          omega⟩
        clear hr hx hc9 hcr hQ hR2 hN2
        by_cases hw : r + D < 800
        · have hwb : decide (r + D < 800) = true := decide_eq_true hw
          have q4 := eq_true hw
          have cw := HI1.out.digs (r + D).toNat (by have := HRR.out; have := HDR.out; omega)
          have fw := HI1.out.fr (r + D).toNat
          have HW := Aside0.mk hw
          clear hw
          go_wp2
          go_roundg g1
          case measure => omega
          case rel => exact ⟨r - 1, Q, _, tr', by first | rfl | rw [e10], by first | (congr 1; omega) | (rw [e9]; congr 1; omega), by first | rfl | rw [e7], ⟨by have := HR.out; have := HRR.out; omega⟩, HM2, ⟨HDG.out.put (r + D).toNat (R + 48) (by have := HR2.out; omega)⟩, ⟨fun h => by (show (if 0 = (r + D).toNat then _ else _) = _); rw [if_neg (by have := HDR.out; omega)]; exact HD1.out (by omega)⟩, ⟨fun hD0 h => by (show _ ≤ (if 0 = (r + D).toNat then _ else _)); rw [if_pos (by have := HRR.out; omega)]; have := HD22.out hD0 h; omega⟩, ⟨HI1.out.setDig (r + D).toNat (by have := HW.out; have := HRR.out; have := HDR.out; omega) (R + 48)⟩, ⟨HB1.out.setCell (Nat.le_refl g) _⟩⟩
        · have hwb : decide (r + D < 800) = false := decide_eq_false hw
          have hD0 : D ≠ 0 := by have := HR.out; have := HN.out; omega
          have HW := Aside0.mk hw
          have HD00 := Aside0.mk hD0
          clear hD0
          by_cases hz : R = 0
          · have hzb : (R != 0) = false := bne_eq_false_iff_eq.mpr hz
            clear hw hz
            go_wp2
            go_roundg g1
            case measure => omega
            case rel => exact ⟨r - 1, Q, d', tr', by first | rfl | rw [e10], by first | (congr 1; omega) | (rw [e9]; congr 1; omega), by first | rfl | rw [e7], ⟨by have := HR.out; have := HRR.out; omega⟩, HM2, HDG, ⟨fun h => HD1.out (by omega)⟩, ⟨fun h => absurd h HD00.out⟩, HI1, HB1⟩
          · have hzb : (R != 0) = true := bne_iff_ne.mpr hz
            clear hw hz
            go_wp2
            go_roundg g1
            case measure => omega
            case rel => exact ⟨r - 1, Q, d', true, by first | rfl | rw [e10], by first | (congr 1; omega) | (rw [e9]; congr 1; omega), by first | rfl | rw [e7], ⟨by have := HR.out; have := HRR.out; omega⟩, HM2, HDG, ⟨fun h => HD1.out (by omega)⟩, ⟨fun h => absurd h HD00.out⟩, ⟨HI1.out.setTr true⟩, ⟨HB1.out.setCell (Nat.le_refl g) _⟩⟩
      · have hrb : decide (0 ≤ r) = false := decide_eq_false hr
        have hr1 : r = -1 := by have := HR.out; omega
        subst hr1
        have hs : (-1 : Int) + 1 + D = D := by omega
        clear hr c0 c1 c3 f0 f1 f3
        go_wp2
        go_loopg [6, 7] D.toNat (fun kq v6 v7 w' => ∃ (x n : Int) (d' : Nat → Int) (tr' : Bool), v6 = .int .i64 x ∧ v7 = .int .u64 n ∧ Aside0 (0 ≤ x ∧ x ≤ D ∧ x = kq) ∧ Aside0 (0 ≤ n ∧ n < 10 ^ x.toNat) ∧ Aside0 (D = 0 → Digs d' nd ∧ 48 + (d 0 - 48) * K ≤ d' 0) ∧ Aside0 (IsDec w' g d' nd dp tr') ∧ Aside0 (Below g w w'))
        case atStart => exact ⟨D, n, d', tr', by first | rfl | rw [hs], rfl, ⟨by have := HDR.out; omega⟩, ⟨by have h1 := HM.out; have h2 := HT.out; rw [← h2]; exact ⟨h1.1, h1.2.2 (by omega)⟩⟩, ⟨fun h => ⟨HDG.out, HD2.out h (by omega)⟩⟩, HI1, HB1⟩
        case round =>
          clear HR HM HDG HD1 HD2 HI1 HB1 hrb hs
          obtain ⟨x, n, d', tr', rfl, rfl, HX, HM, HP, HI1, HB1⟩ := hrel
          have c0 := HI1.out.nd
          have c1 := HI1.out.dp
          have c3 := HI1.out.tr
          have f0 := HI1.out.fr 800
          have f1 := HI1.out.fr 801
          have f3 := HI1.out.fr 803
          by_cases hn : n = 0
          · have hnb : decide (0 < n) = false := decide_eq_false (by omega)
            have e1 : wrap64 (nd + D) = nd + D := by unfold wrap64; have := HN.out; have := HDR.out; omega
            have e2 : wrap64 (dp + D) = dp + D := by unfold wrap64; have := HDP.out; have := HDR.out; omega
            clear hn
            by_cases h8 : 800 ≤ nd + D
            · have h8b : decide (800 ≤ nd + D) = true := decide_eq_true h8
              have H8 := Aside0.mk h8
              clear h8
              go_wp2_with (go_at_call 78; go_loud (refine (trim_any g d' 800 (dp + D) tr' _ (by first | exact (((HI1.out.setNd (nd + D)).setNd 800).setDp (dp + D)) | (simp only [e1, e2]; exact (((HI1.out.setNd (nd + D)).setNd 800).setDp (dp + D)))) (by omega)).mono ?_; rintro e w9 ⟨rfl, HTT, HBB⟩; have HT9 := Aside0.mk HTT; have HB9 := Aside0.mk HBB; clear HTT HBB))
              go_end0
              obtain ⟨n', h1, h2, h3, hD⟩ := HT9.out
              refine ⟨rfl, ?_, (((HB1.out.setCell (Nat.le_refl g) _).setCell (Nat.le_refl g) _).setCell (Nat.le_refl g) _).trans HB9.out⟩
              refine ⟨n', _, d', tr', hD, ⟨h1, by have := H8.out; omega⟩, by split; exact .inr rfl; exact .inl rfl, fun hD0 => ?_⟩
              obtain ⟨hp1, hp2⟩ := HP.out hD0
              have hK9 := Int.mul_le_mul_of_nonneg_right (c := K) (show 1 ≤ d 0 - 48 by have := HD0.out; omega) (by have := HK.out; omega)
              have hn' : 0 < n' := h3 (by have := HN.out; have := H8.out; omega) (by have := HK.out; omega)
              exact ⟨hp1.less (by have := H8.out; have := HN.out; omega), hp2, by omega, by rw [if_neg (by omega)]; omega⟩
            · have h8b : decide (800 ≤ nd + D) = false := decide_eq_false h8
              have H8 := Aside0.mk h8
              clear h8
              go_wp2_with (go_at_call 78; go_loud (refine (trim_any g d' (nd + D) (dp + D) tr' _ (by first | exact (((HI1.out.setNd (nd + D))).setDp (dp + D)) | (simp only [e1, e2]; exact (((HI1.out.setNd (nd + D))).setDp (dp + D)))) (by have := H8.out; have := HN.out; have := HDR.out; omega)).mono ?_; rintro e w9 ⟨rfl, HTT, HBB⟩; have HT9 := Aside0.mk HTT; have HB9 := Aside0.mk HBB; clear HTT HBB))
              go_end0
              obtain ⟨n', h1, h2, h3, hD⟩ := HT9.out
              refine ⟨rfl, ?_, ((HB1.out.setCell (Nat.le_refl g) _).setCell (Nat.le_refl g) _).trans HB9.out⟩
              refine ⟨n', _, d', tr', hD, ⟨h1, by have := H8.out; omega⟩, by split; exact .inr rfl; exact .inl rfl, fun hD0 => ?_⟩
              obtain ⟨hp1, hp2⟩ := HP.out hD0
              have hK9 := Int.mul_le_mul_of_nonneg_right (c := K) (show 1 ≤ d 0 - 48 by have := HD0.out; omega) (by have := HK.out; omega)
              have hn' : 0 < n' := h3 (by have := HN.out; have := H8.out; omega) (by have := HK.out; omega)
              exact ⟨hp1.less (by have := H8.out; have := HN.out; omega), hp2, by omega, by rw [if_neg (by omega)]; omega⟩
          · have hnb : decide (0 < n) = true := decide_eq_true (by have := HM.out; omega)
            obtain ⟨y, rfl⟩ : ∃ y, x = y + 1 := ⟨x - 1, by omega⟩
            have hy0 : 0 ≤ y := by
              have h1 := HM.out
              have h2 := HX.out
              by_cases h : y = -1
              · subst h; simp at h1; omega
              · omega
            have h17 : n < 100000000000000000 := by
              have h2 : (10 : Int) ^ (y + 1).toNat ≤ 10 ^ 17 := by
                have : (10 : Nat) ^ (y + 1).toNat ≤ 10 ^ 17 := Nat.pow_le_pow_right (by decide) (by have := HX.out; have := HDR.out; omega)
                exact_mod_cast this
              have := HM.out
              omega
            have hnp : n / 10 < 10 ^ y.toNat := by
              have h1 := HM.out.2
              rw [show (y + 1).toNat = y.toNat + 1 by omega, Int.pow_succ] at h1
              omega
            obtain ⟨Q, hQ⟩ : ∃ Q, n / 10 = Q := ⟨_, rfl⟩
            have e7 : IntKind.u64.wrap (n.tdiv 10) = Q := by rw [Int.tdiv_eq_ediv_of_nonneg HM.out.1, hQ]; exact u64_in (by have := HM.out; omega) (by omega)
            have e8 := u64_in (n := 10 * Q) (by have := HM.out; omega) (by omega)
            obtain ⟨R, hR⟩ : ∃ R, n - 10 * Q = R := ⟨_, rfl⟩
            have hR2 : 0 ≤ R ∧ R ≤ 9 := by omega
            have e11 := u64_in (n := R) (by omega) (by omega)
            have e12 := u64_in (n := R + 48) (by omega) (by omega)
            have e13 : (R + 48) % 256 = R + 48 := Int.emod_eq_of_lt (by omega) (by omega)
            have e9 : wrap64 y = y := by unfold wrap64; have := HX.out; have := HDR.out; omega
            have q3 := eq_true hy0
            have q4 := eq_true (show y < 800 by have := HX.out; have := HDR.out; omega)
            have hwb : decide (y < 800) = true := decide_eq_true (by have := HX.out; have := HDR.out; omega)
            have cw := HI1.out.digs y.toNat (by have := HX.out; have := HDR.out; omega)
            have fw := HI1.out.fr y.toNat
            obtain ⟨g1, rfl⟩ : ∃ g1, gk = g1 + 1 := ⟨gk - 1, by have := HX.out; omega⟩
            have HM2 : Aside0 (0 ≤ Q ∧ Q < 10 ^ y.toNat) := ⟨by have := HM.out; rw [hQ] at hnp; exact ⟨by omega, hnp⟩⟩
            have HY := Aside0.mk hy0
            clear hn hy0 h17 hnp hQ hR2
            go_wp2
            go_roundg g1
            case measure => omega
            case rel => exact ⟨y, Q, _, tr', by first | rfl | rw [e9], by first | rfl | rw [e7], ⟨by have := HX.out; have := HY.out; omega⟩, HM2, ⟨fun h => by have := HX.out; have := HY.out; omega⟩, ⟨HI1.out.setDig y.toNat (by have := HX.out; have := HDR.out; omega) (R + 48)⟩, ⟨HB1.out.setCell (Nat.le_refl g) _⟩⟩
end Go.Proofs.YtnpkocpknmhngaaDoor.Pf
namespace Go.Proofs.YtnpkocpknmhngaaDoor.Pf
open Go.RowKit Go.Lib Go.Proofs.YtnpkocpknmhngaaDoorW.PrintWords Go.Proofs.YtnpkocpknmhngaaDoorW.PrintLast Go.Proofs.YtnpkocpknmhngaaDoor.PPf
set_option maxRecDepth 100000 in
set_option maxHeartbeats 4000000 in
theorem shift_neg (g : Nat) (d : Nat → Int) (nd dp k m K : Int) (tr : Bool) (w : World) (hm : k = -m) (hI : IsDec w g d nd dp tr) (h0 : 1 ≤ nd ∧ nd ≤ 800) (hk : 1 ≤ m ∧ m ≤ 60) (hKe : (2 : Int) ^ m.toNat = K) (hK : 8 ≤ K ∧ K ≤ 134217728) (hdp : 0 ≤ dp ∧ dp ≤ 1000) (hd : Digs d nd) (hd0 : 49 ≤ d 0) :
    Calls Tryd.prog 70 #[.pointer (some ⟨g, 0, none⟩), .int .i64 k] w fun r w' => r = .returned (.tuple #[]) ∧ RightOut g d dp K w' ∧ Below g w w' := by
  have HI := Aside0.mk hI
  have HN := Aside0.mk h0
  have HK := Aside0.mk hK
  have HDP := Aside0.mk hdp
  have HDD := Aside0.mk hd
  have HD0 := Aside0.mk hd0
  have HKK := Aside0.mk hk
  have c0 := hI.nd
  have z1 : (nd == 0) = false := beq_eq_false_iff_ne.mpr (by omega)
  have z2 : decide (0 < k) = false := decide_eq_false (by omega)
  have z3 : decide (k < 0) = true := decide_eq_true (by omega)
  have z4 : decide (k < -60) = false := decide_eq_false (by omega)
  have z5 : wrap64 (-k) = m := by unfold wrap64; omega
  have z6 := u64_in (n := m) (by omega) (by omega)
  clear hI h0 hK hdp hd hd0 hk hm
  go_enter Tryd.func70, Tryd.ntmps70
  go_wp2
  refine wp_loop_rounds 1 ?_
  rw [rounds_succ]
  go_wp2_with (go_at_call 75; go_loud (refine (right_any g d nd dp m K tr _ HI.out HN.out (by have := HKK.out; omega) hKe HK.out HDP.out HDD.out HD0.out).mono ?_; rintro e w1 ⟨rfl, h1, h2⟩; have H1 := Aside0.mk h1; have H2 := Aside0.mk h2; clear h1 h2))
  go_end0
  exact ⟨rfl, H1.out, H2.out⟩
set_option maxRecDepth 100000 in
set_option maxHeartbeats 4000000 in
theorem shift_pos (g : Nat) (d : Nat → Int) (nd dp k K D D0 T : Int) (tr : Bool) (b o c : Nat) (s : ByteArray) (w : World) (hI : IsDec w g d nd dp tr) (h0 : 1 ≤ nd ∧ nd ≤ 800) (hk : 1 ≤ k ∧ k ≤ 60) (hKe : (2 : Int) ^ k.toNat = K) (hK : 2 ≤ K ∧ K ≤ 9007199254740992) (hdp : 0 ≤ dp ∧ dp ≤ 1000) (hd : Digs d nd) (hd0 : 49 ≤ d 0)
    (hg : w.cell? ⟨12, 0, none⟩ = some (.slice (some ⟨b, o, none⟩) 61 61)) (hb1 : w.cell? ⟨b, o + k.toNat * 2, none⟩ = some (.int .i64 D0)) (hb2 : w.cell? ⟨b, o + k.toNat * 2 + 1, none⟩ = some (.string s))
    (hs0 : 0 < s.size) (hs : s.size ≤ 100) (hc : (s[0]'hs0).toNat = c) (hne : d 0 ≠ c) (hD : D = if d 0 < c then D0 - 1 else D0) (hD0 : 0 ≤ D ∧ D ≤ 17) (hT : T = 10 ^ D.toNat) (hTT : (d 0 - 48) * K + K ≤ 10 * T) (hlt : 12 < g ∧ b < g) :
    Calls Tryd.prog 70 #[.pointer (some ⟨g, 0, none⟩), .int .i64 k] w fun r w' => r = .returned (.tuple #[]) ∧ LeftOut g d dp K D w' ∧ Below g w w' := by
  have HI := Aside0.mk hI
  have HC := fun w => left_any g d nd dp k K D D0 T tr b o c s w
  have HX := Aside0.mk (left_any g d nd dp k K D D0 T tr b o c s w hI h0 (by omega) hKe hK hdp hd hd0 hg hb1 hb2 hs0 hs hc hne hD hD0 hT hTT hlt)
  have c0 := hI.nd
  have z1 : (nd == 0) = false := beq_eq_false_iff_ne.mpr (by omega)
  have z2 : decide (0 < k) = true := decide_eq_true (by omega)
  have z4 : decide (60 < k) = false := decide_eq_false (by omega)
  have z6 := u64_in (n := k) (by omega) (by omega)
  clear hI h0 hK hdp hd hd0 hk hg hb1 hb2 hne hD hD0 hT hTT hlt HC hKe
  go_enter Tryd.func70, Tryd.ntmps70
  go_wp2
  refine wp_loop_rounds 1 ?_
  rw [rounds_succ]
  go_wp2_with (go_at_call 74; go_loud (refine (HX.out).mono ?_; rintro e w1 ⟨rfl, h1, h2⟩; have H1 := Aside0.mk h1; have H2 := Aside0.mk h2; clear h1 h2))
  go_end0
  exact ⟨rfl, H1.out, H2.out⟩
end Go.Proofs.YtnpkocpknmhngaaDoor.Pf
namespace Go.Proofs.YtnpkocpknmhngaaDoor.Pf
open Go.RowKit Go.Lib Go.Proofs.YtnpkocpknmhngaaDoorW.PrintWords Go.Proofs.YtnpkocpknmhngaaDoorW.PrintLast Go.Proofs.YtnpkocpknmhngaaDoor.PPf
/-- A bool is told. -/
def BoolOnly (r : Ending) : Prop := ∃ b : Bool, r = .returned (.bool b)
/-- A number of 64 bits is told. -/
def U64Only (r : Ending) : Prop := ∃ n : Int, r = .returned (.int .u64 n)
set_option maxRecDepth 100000 in
set_option maxHeartbeats 4000000 in
theorem up_any (g : Nat) (d : Nat → Int) (n dp m : Int) (tr : Bool) (w : World) (hI : IsDec w g d n dp tr) (h0 : 0 ≤ n ∧ n ≤ 800) (hm : 0 ≤ m ∧ m ≤ 1000) :
    Calls Tryd.prog 76 #[.pointer (some ⟨g, 0, none⟩), .int .i64 m] w fun r w' => BoolOnly r ∧ Drawn0 w w' := by
  have hu99 := Tryd.underlying99
  have HI := Aside0.mk hI
  have HN := Aside0.mk h0
  have HM := Aside0.mk hm
  have c0 := hI.nd
  have c3 := hI.tr
  have z1 : decide (m < 0) = false := decide_eq_false (by omega)
  clear hI h0 hm
  by_cases hn : n ≤ m
  · have z2 : decide (n ≤ m) = true := decide_eq_true hn
    clear hn
    go_enter Tryd.func76, Tryd.ntmps76
    go_wp2
    repeat (go_quiet (fail); go_wp2)
    go_ret
    exact ⟨⟨_, rfl⟩, by first | exact Drawn0.refl _ | exact ⟨⟨_, rfl⟩⟩⟩
  · have z2 : decide (n ≤ m) = false := decide_eq_false hn
    have q1 := eq_true HM.out.1
    have q2 := eq_true (show m < 800 by have := HN.out; omega)
    have cm := HI.out.digs m.toNat (by have := HN.out; have := HM.out; omega)
    have e1 : wrap64 (m + 1) = m + 1 := by unfold wrap64; have := HM.out; omega
    have e2 : IntKind.i64.wrap (m + 1) = m + 1 := by rw [i64_w]; exact e1
    generalize d m.toNat = c at cm
    clear hn
    by_cases h5 : c = 53
    · have z3 : (c == 53) = true := beq_iff_eq.mpr h5
      have H5 := Aside0.mk h5
      clear h5
      by_cases h6 : m + 1 = n
      · have z4 : (m + 1 == n) = true := beq_iff_eq.mpr h6
        have H6 := Aside0.mk h6
        clear h6
        cases tr
        · by_cases h7 : m = 0
          · have z5 : decide (0 < m) = false := decide_eq_false (by omega)
            have H7 := Aside0.mk h7
            clear h7
            go_enter Tryd.func76, Tryd.ntmps76
            go_wp2
            repeat (go_quiet (fail); go_wp2)
            go_ret
            exact ⟨⟨_, rfl⟩, by first | exact Drawn0.refl _ | exact ⟨⟨_, rfl⟩⟩⟩
          · obtain ⟨y, rfl⟩ : ∃ y, m = y + 1 := ⟨m - 1, by omega⟩
            have z5 : decide (0 < y + 1) = true := decide_eq_true (by have := HM.out; omega)
            have z6 : decide (0 ≤ y) = true := decide_eq_true (by have := HM.out; omega)
            have q3 := eq_true (show 0 ≤ y by have := HM.out; omega)
            have q4 := eq_true (show y < 800 by have := HM.out; have := HN.out; have := H6.out; omega)
            have cy := HI.out.digs y.toNat (by have := HN.out; have := H6.out; omega)
            have e3 : wrap64 y = y := by unfold wrap64; have := HM.out; omega
            have e4 : IntKind.i64.wrap y = y := by rw [i64_w]; exact e3
            clear h7
            go_enter Tryd.func76, Tryd.ntmps76
            go_wp2
            repeat (go_quiet (fail); go_wp2)
            go_ret
            exact ⟨⟨_, rfl⟩, by first | exact Drawn0.refl _ | exact ⟨⟨_, rfl⟩⟩⟩
        · go_enter Tryd.func76, Tryd.ntmps76
          go_wp2
          repeat (go_quiet (fail); go_wp2)
          go_ret
          exact ⟨⟨_, rfl⟩, by first | exact Drawn0.refl _ | exact ⟨⟨_, rfl⟩⟩⟩
      · have z4 : (m + 1 == n) = false := beq_eq_false_iff_ne.mpr h6
        clear h6
        go_enter Tryd.func76, Tryd.ntmps76
        go_wp2
        repeat (go_quiet (fail); go_wp2)
        go_ret
        exact ⟨⟨_, rfl⟩, by first | exact Drawn0.refl _ | exact ⟨⟨_, rfl⟩⟩⟩
    · have z3 : (c == 53) = false := beq_eq_false_iff_ne.mpr h5
      clear h5
      go_enter Tryd.func76, Tryd.ntmps76
      go_wp2
      repeat (go_quiet (fail); go_wp2)
      go_ret
      exact ⟨⟨_, rfl⟩, by first | exact Drawn0.refl _ | exact ⟨⟨_, rfl⟩⟩⟩
set_option maxRecDepth 100000 in
set_option maxHeartbeats 4000000 in
theorem rounded_any (g : Nat) (d : Nat → Int) (n dp : Int) (tr : Bool) (w : World) (hI : IsDec w g d n dp tr) (h0 : 0 ≤ n ∧ n ≤ 800) (hm : 0 ≤ dp ∧ dp ≤ 20) :
    Calls Tryd.prog 71 #[.pointer (some ⟨g, 0, none⟩)] w fun r w' => U64Only r ∧ Drawn0 w w' := by
  have hu99 := Tryd.underlying99
  have HI := Aside0.mk hI
  have HN := Aside0.mk h0
  have HM := Aside0.mk hm
  have c0 := hI.nd
  have c1 := hI.dp
  have z1 : decide (20 < dp) = false := decide_eq_false (by omega)
  clear hI h0 hm
  go_enter Tryd.func71, Tryd.ntmps71
  go_upto_block 0 with (fail)
  go_cut [3, 4] (fun v3 v4 w' => ∃ i m : Int, v3 = .int .i64 i ∧ v4 = .int .u64 m ∧ Aside0 (0 ≤ i ∧ i ≤ dp) ∧ ∃ q, w' = w.drewN q)
  case first =>
    go_wp2
    go_loopg [3, 4] dp.toNat (fun kq v3 v4 w' => ∃ i m : Int, v3 = .int .i64 i ∧ v4 = .int .u64 m ∧ Aside0 (0 ≤ i ∧ i ≤ dp ∧ i + kq = dp) ∧ ∃ q, w' = w.drewN q)
    case atStart => exact ⟨0, 0, rfl, rfl, ⟨by have := HM.out; omega⟩, 0, rfl⟩
    case round =>
      obtain ⟨i, m, rfl, rfl, HX, q, rfl⟩ := hrel
      by_cases hi : i < dp
      · have z2 : decide (i < dp) = true := decide_eq_true hi
        by_cases hj : i < n
        · have z3 : decide (i < n) = true := decide_eq_true hj
          have q1 := eq_true (show 0 ≤ i from HX.out.1)
          have q2 := eq_true (show i < 800 by have := HN.out; omega)
          have ci := HI.out.digs i.toNat (by have := HX.out; have := HN.out; omega)
          have e1 : wrap64 (i + 1) = i + 1 := by unfold wrap64; have := HX.out; have := HN.out; omega
          obtain ⟨g1, rfl⟩ : ∃ g1, gk = g1 + 1 := ⟨gk - 1, by have := HX.out; omega⟩
          have H := Aside0.mk hi
          clear hi hj
          go_wp2
          repeat (go_quiet (fail); go_wp2)
          go_roundg g1
          case measure => omega
          case rel => exact ⟨i + 1, _, by first | rfl | rw [e1], rfl, ⟨by have := HX.out; have := H.out; omega⟩, _, rfl⟩
        · have z3 : decide (i < n) = false := decide_eq_false hj
          clear hi hj
          go_wp2
          repeat (go_quiet (fail); go_wp2)
          go_meet
          case rel => exact ⟨i, m, rfl, rfl, ⟨by have := HX.out; omega⟩, _, rfl⟩
      · have z2 : decide (i < dp) = false := decide_eq_false hi
        clear hi
        go_wp2
        repeat (go_quiet (fail); go_wp2)
        go_meet
        case rel => exact ⟨i, m, rfl, rfl, ⟨by have := HX.out; omega⟩, _, rfl⟩
  case rest =>
    obtain ⟨i, m, rfl, rfl, HX, q, rfl⟩ := hcut
    go_wp2
    go_loopg [3, 4] dp.toNat (fun kq v3 v4 w' => ∃ i m : Int, v3 = .int .i64 i ∧ v4 = .int .u64 m ∧ Aside0 (0 ≤ i ∧ i ≤ dp ∧ dp ≤ i + kq) ∧ ∃ q, w' = w.drewN q)
    case atStart => exact ⟨i, m, rfl, rfl, ⟨by have := HX.out; omega⟩, _, rfl⟩
    case round =>
      clear HX
      obtain ⟨i, m, rfl, rfl, HX, q, rfl⟩ := hrel
      by_cases hi : i < dp
      · have z2 : decide (i < dp) = true := decide_eq_true hi
        have e1 : wrap64 (i + 1) = i + 1 := by unfold wrap64; have := HX.out; have := HM.out; omega
        obtain ⟨g1, rfl⟩ : ∃ g1, gk = g1 + 1 := ⟨gk - 1, by have := HX.out; omega⟩
        have H := Aside0.mk hi
        clear hi
        go_wp2
        go_roundg g1
        case measure => omega
        case rel => exact ⟨i + 1, _, by first | rfl | rw [e1], rfl, ⟨by have := HX.out; have := H.out; omega⟩, _, rfl⟩
      · have z2 : decide (i < dp) = false := decide_eq_false hi
        clear hi
        go_wp2_with (go_at_call 76; go_loud (refine (up_any g d n dp dp tr _ (HI.out.drewN _) HN.out (by have := HM.out; omega)).mono ?_; rintro e w1 ⟨⟨b, rfl⟩, ⟨n1, rfl⟩⟩))
        all_goals
          go_ret
          exact ⟨⟨_, rfl⟩, by first | exact Drawn0.refl _ | exact ⟨⟨_, rfl⟩⟩⟩
end Go.Proofs.YtnpkocpknmhngaaDoor.Pf
