/- (*internal/strconv.decimal).set at a text of digits. (*internal/strconv.decimal).floatBits: no overflow is told. internal/strconv.atof64 at a text of digits. strconv.ParseFloat at a text of at most twenty digits: no error is told. -/
import Derived.Test.YtnpkocpknmhngaaDoorGShifts
import Derived.BigRegion
import Derived.RegionTactic
import Derived.ScopeJumps
import Derived.Test.YtnpkocpknmhngaaDoorShelf
namespace Go.Proofs.YtnpkocpknmhngaaDoor.Pf
open Go.RowKit Go.Lib Go.Proofs.YtnpkocpknmhngaaDoorW.PrintWords Go.Proofs.YtnpkocpknmhngaaDoorW.PrintLast Go.Proofs.YtnpkocpknmhngaaDoor.PPf
theorem IsDec.setNeg {W : World} {g : Nat} {d : Nat → Int} {nd dp : Int} {tr : Bool} (h : IsDec W g d nd dp tr) : IsDec (W.setCell ⟨g, 802, none⟩ (.bool false)) g d nd dp tr :=
  ⟨fun j hj => (cell_set_other _ _ _ _ _ (by omega)).trans (h.digs j hj),
   (cell_set_other _ _ _ _ _ (by omega)).trans h.nd, (cell_set_other _ _ _ _ _ (by omega)).trans h.dp, cell_set_same _ _ _ _ _ h.neg, (cell_set_other _ _ _ _ _ (by omega)).trans h.tr, fun j => (frozen_set _ _ _ _ _).trans (h.fr j)⟩
theorem IsDec.drew {W : World} {g : Nat} {d : Nat → Int} {nd dp : Int} {tr : Bool} (h : IsDec W g d nd dp tr) : IsDec W.drew g d nd dp tr := ⟨h.digs, h.nd, h.dp, h.neg, h.tr, h.fr⟩
/-- What set leaves. -/
def SetOut (g : Nat) (s : ByteArray) (w' : World) : Prop := ∃ d : Nat → Int, (∀ (i : Nat) (h : i < s.size), d i = (s[i]'h).toNat) ∧ IsDec w' g d s.size s.size false
set_option maxRecDepth 100000 in
set_option maxHeartbeats 4000000 in
theorem set_digits (g : Nat) (d : Nat → Int) (s : ByteArray) (h0 : 0 < s.size) (hs : s.size ≤ 100) (hd : ∀ (i : Nat) (h : i < s.size), 48 ≤ (s[i]'h).toNat ∧ (s[i]'h).toNat ≤ 57) (hz : (s[0]'h0).toNat ≠ 48) (w : World) (hI : IsDec w g d 0 0 false) :
    Calls Tryd.prog 54 #[.pointer (some ⟨g, 0, none⟩), .string s] w fun r w' => r = .returned (.bool true) ∧ SetOut g s w' ∧ Below g w w' := by
  have hu99 := Tryd.underlying99
  have d0 := hd 0 h0
  have HI := Aside0.mk hI
  have HS := Aside0.mk hs
  have HDD := Aside0.mk hd
  have z2 := eq_true (show (0 : Int) < s.size by omega)
  have z4 : decide ((s.size : Int) ≤ 0) = false := decide_eq_false (by omega)
  have z3 := eq_true h0
  have ze : decide (s = ByteArray.empty) = false := decide_eq_false (fun e => by rw [e] at h0; exact absurd h0 (by decide))
  have c43 : (((s[0]'h0).toNat : Int) == 43) = false := beq_eq_false_iff_ne.mpr (by omega)
  have c45 : (((s[0]'h0).toNat : Int) == 45) = false := beq_eq_false_iff_ne.mpr (by omega)
  have HZ := Aside0.mk hz
  have c2 := hI.neg
  have c3 := hI.tr
  have f2 := hI.fr 802
  have f3 := hI.fr 803
  clear hI hs hd hz d0
  go_enter Tryd.func54, Tryd.ntmps54
  go_wp2
  go_loopg [5, 6, 7] s.size (fun kq v5 v6 v7 w' => ∃ (x : Int) (d' : Nat → Int), v5 = .int .i64 x ∧ v6 = .bool false ∧ v7 = .bool (decide (0 < x)) ∧ Aside0 (0 ≤ x ∧ x + kq = s.size) ∧ Aside0 (∀ (j : Nat) (h : j < s.size), (j : Int) < x → d' j = (s[j]'h).toNat) ∧ Aside0 (IsDec w' g d' x 0 false) ∧ Aside0 (Below g w w'))
  case atStart => exact ⟨0, d, rfl, rfl, rfl, ⟨by omega⟩, ⟨fun j h h1 => by omega⟩, ⟨(HI.out.setNeg).setTr false⟩, ⟨((Below.refl _ _).setCell (Nat.le_refl g) _).setCell (Nat.le_refl g) _⟩⟩
  case round =>
    clear c2 c3 f2 f3
    obtain ⟨x, d', rfl, rfl, rfl, HX, HE, HI1, HB1⟩ := hrel
    have k0 := HI1.out.nd
    have k1 := HI1.out.dp
    have f0 := HI1.out.fr 800
    have f1 := HI1.out.fr 801
    by_cases hlt : x < s.size
    · obtain ⟨g1, rfl⟩ : ∃ g1, gk = g1 + 1 := ⟨gk - 1, by have := HX.out; omega⟩
      have hx := bt_at s x
      have p4 := eq_true HX.out.1
      have q4 := eq_true hlt
      have q5 := eq_true (show x < 800 by have := HS.out; omega)
      have q6 := eq_false (show ¬ x.toNat = 800 by have := HS.out; omega)
      have q7 := eq_false (show ¬ 800 = x.toNat by have := HS.out; omega)
      have hltb : decide (x < (s.size : Int)) = true := decide_eq_true hlt
      have q5b : decide (x < 800) = true := decide_eq_true (by have := HS.out; omega)
      have hbt : ∀ h : x.toNat < s.size, bt s x = (s[x.toNat]'h).toNat := by
        intro h
        unfold bt
        rw [dif_pos h]
      have hcc : 48 ≤ bt s x ∧ bt s x ≤ 57 := by
        rw [hbt (by have := HX.out; omega)]
        have := HDD.out x.toNat (by have := HX.out; omega)
        omega
      have hc0 : x = 0 → bt s x ≠ 48 := by
        rintro rfl
        rw [hbt h0]
        exact fun e => HZ.out (Int.ofNat_inj.mp e)
      generalize bt s x = c at *
      have a1 : (c == 95) = false := beq_eq_false_iff_ne.mpr (by omega)
      have a2 : (c == 46) = false := beq_eq_false_iff_ne.mpr (by omega)
      have a3 : decide (48 ≤ c) = true := decide_eq_true hcc.1
      have a4 : decide (c ≤ 57) = true := decide_eq_true hcc.2
      have w1 : wrap64 (x + 1) = x + 1 := by unfold wrap64; have := HX.out; have := HS.out; omega
      have cx := HI1.out.digs x.toNat (by have := HX.out; have := HS.out; omega)
      have fx := HI1.out.fr x.toNat
      have HBT := Aside0.mk hbt
      have Hc := Aside0.mk hcc
      by_cases b48 : c = 48
      · have b1 : (c == 48) = true := beq_iff_eq.mpr b48
        have x0 : (x == 0) = false := beq_eq_false_iff_ne.mpr (fun e => hc0 e b48)
        have HQ := Aside0.mk hlt
        clear b48 hc0 hlt hbt hcc
        go_wp2
        repeat (go_quiet (fail); go_wp2)
        go_region
        go_wp2
        go_roundg g1
        case measure => omega
        case rel => exact ⟨x + 1, fun j => if j = x.toNat then c else d' j, by first | rfl | rw [w1], rfl, by have := HX.out; rw [decide_eq_true (show 0 < x + 1 by omega)], ⟨by have := HX.out; omega⟩, ⟨fun j h h1 => by
            (show (if j = x.toNat then _ else _) = _)
            by_cases e : j = x.toNat
            · subst e; rw [if_pos rfl]; exact HBT.out h
            · rw [if_neg e]; exact HE.out j h (by omega)⟩, ⟨((HI1.out.setDig x.toNat (by have := HX.out; have := HS.out; have := HQ.out; omega) c).setNd (x + 1)).drew⟩, ⟨((HB1.out.setCell (Nat.le_refl g) _).setCell (Nat.le_refl g) _).drew⟩⟩
      · have b1 : (c == 48) = false := beq_eq_false_iff_ne.mpr b48
        have HQ := Aside0.mk hlt
        clear b48 hc0 hlt hbt hcc
        go_wp2
        repeat (go_quiet (fail); go_wp2)
        go_region
        go_wp2
        go_roundg g1
        case measure => omega
        case rel => exact ⟨x + 1, fun j => if j = x.toNat then c else d' j, by first | rfl | rw [w1], rfl, by have := HX.out; rw [decide_eq_true (show 0 < x + 1 by omega)], ⟨by have := HX.out; omega⟩, ⟨fun j h h1 => by
            (show (if j = x.toNat then _ else _) = _)
            by_cases e : j = x.toNat
            · subst e; rw [if_pos rfl]; exact HBT.out h
            · rw [if_neg e]; exact HE.out j h (by omega)⟩, ⟨((HI1.out.setDig x.toNat (by have := HX.out; have := HS.out; have := HQ.out; omega) c).setNd (x + 1)).drew⟩, ⟨((HB1.out.setCell (Nat.le_refl g) _).setCell (Nat.le_refl g) _).drew⟩⟩
    · have hltb : decide (x < (s.size : Int)) = false := decide_eq_false hlt
      have hxs : x = s.size := by have := HX.out; omega
      subst hxs
      have hpos : decide ((0 : Int) < s.size) = true := decide_eq_true (by omega)
      clear hlt
      go_wp2
      repeat (go_quiet (fail); go_wp2)
      go_ret
      exact ⟨rfl, ⟨d', fun i h => HE.out i h (by omega), HI1.out.setDp _⟩, HB1.out.setCell (Nat.le_refl g) _⟩
end Go.Proofs.YtnpkocpknmhngaaDoor.Pf
namespace Go.Proofs.YtnpkocpknmhngaaDoor.Pf
open Go.RowKit Go.Lib Go.Proofs.YtnpkocpknmhngaaDoorW.PrintWords Go.Proofs.YtnpkocpknmhngaaDoorW.PrintLast Go.Proofs.YtnpkocpknmhngaaDoor.PPf
theorem jump_normal {l : Nat} {J : Act → World → Prop} {Q : Exit → Act → World → Prop} {a : Act} {w : World} : Exit.jump l J Q .normal a w = Q .normal a w := rfl
theorem jump_exit {l : Nat} {J : Act → World → Prop} {Q : Exit → Act → World → Prop} {a : Act} {w : World} (id : Nat) : Exit.jump l J Q (.exit id) a w = Q (.exit id) a w := rfl
theorem jump_ret {l : Nat} {J : Act → World → Prop} {Q : Exit → Act → World → Prop} {a : Act} {w : World} : Exit.jump l J Q .ret a w = Q .ret a w := rfl
theorem jump_panic {l : Nat} {J : Act → World → Prop} {Q : Exit → Act → World → Prop} {a : Act} {w : World} (ch : List PanicEntry) : Exit.jump l J Q (.panic ch) a w = Q (.panic ch) a w := rfl
/-- A scope in which the run jumps forward to one label, once. -/
theorem scope_forward {P : Program} {a : Act} {w : World} {Q : Exit → Act → World → Prop} {c rest : Code} (l : Nat) (hf : findLabel c l = some rest)
    (first : ∀ J : Act → World → Prop, (∀ a w, rest.wp P (Exit.noGoto Q) a w → J a w) → c.wp P (Exit.jump l J Q) a w) : (Code.scope c).wp P Q a w := by
  refine wp_scope_jumps l (fun a w => rest.wp P (Exit.noGoto Q) a w) (fun _ _ => 0) hf (first _ fun _ _ h => h) ?_
  intro a w h
  refine wp_mono h ?_
  intro e a' w' hq
  cases e with
  | goto l' => exact hq.elim
  | normal => exact hq
  | exit id => exact hq
  | ret => exact hq
  | panic ch => exact hq
  | outgrown => exact hq
attribute [local go_sem] jump_normal jump_exit jump_ret jump_panic
/-- How far a decimal with its point at dp is shifted to the right: n places, by K. -/
def Pw (dp n K : Int) : Prop := (dp = 1 ∧ n = 3 ∧ K = 8) ∨ (dp = 2 ∧ n = 6 ∧ K = 64) ∨ (dp = 3 ∧ n = 9 ∧ K = 512) ∨ (dp = 4 ∧ n = 13 ∧ K = 8192) ∨ (dp = 5 ∧ n = 16 ∧ K = 65536) ∨ (dp = 6 ∧ n = 19 ∧ K = 524288) ∨ (dp = 7 ∧ n = 23 ∧ K = 8388608) ∨ (dp = 8 ∧ n = 26 ∧ K = 67108864) ∨ (9 ≤ dp ∧ n = 27 ∧ K = 134217728)
theorem Pw.facts {dp n K : Int} (h : Pw dp n K) : (3 ≤ n ∧ n ≤ 27) ∧ (2 : Int) ^ n.toNat = K ∧ (8 ≤ K ∧ K ≤ 134217728) := by
  rcases h with ⟨-, rfl, rfl⟩ | ⟨-, rfl, rfl⟩ | ⟨-, rfl, rfl⟩ | ⟨-, rfl, rfl⟩ | ⟨-, rfl, rfl⟩ | ⟨-, rfl, rfl⟩ | ⟨-, rfl, rfl⟩ | ⟨-, rfl, rfl⟩ | ⟨-, rfl, rfl⟩ <;> exact ⟨by omega, by decide, by omega⟩
/-- Twice the point, and one where the first digit is eight or nine. -/
def Msr (dp d0 : Int) : Int := 2 * dp + if 56 ≤ d0 then 1 else 0
theorem Msr_nn {dp : Int} (h : 0 ≤ dp) (d0 : Int) : 0 ≤ Msr dp d0 := by unfold Msr; split <;> omega
theorem Pw.step {dp n K r L d0 d1 : Int} (h : Pw dp n K) (hr : 1 ≤ r) (hL : L = 10 ^ (r - 1).toNat) (h1 : K < 10 * L) (h2 : r = 1 ∧ d1 = 48 + (d0 - 48) / K ∨ 2 ≤ r ∧ L < 10 * K) (hd0 : d0 ≤ 57) (hd1 : 49 ≤ d1) :
    0 ≤ dp - (r - 1) ∧ Msr (dp - (r - 1)) d1 < Msr dp d0 ∧ n ≤ 14 * (Msr dp d0 - Msr (dp - (r - 1)) d1) := by
  obtain ⟨j, rfl⟩ : ∃ j : Nat, r = j + 1 := ⟨(r - 1).toNat, by omega⟩
  rw [show ((j : Int) + 1 - 1).toNat = j by omega] at hL
  have hj : j ≤ 9 := by
    by_cases hj : j ≤ 9
    · exact hj
    · have : (10 : Nat) ^ 10 ≤ 10 ^ j := Nat.pow_le_pow_right (by decide) (by omega)
      have h12 : (10 : Int) ^ 10 ≤ 10 ^ j := by exact_mod_cast this
      rw [← hL] at h12
      have := h.facts.2.2
      rcases h2 with h2 | h2 <;> omega
  unfold Msr
  have hjj : j = 0 ∨ j = 1 ∨ j = 2 ∨ j = 3 ∨ j = 4 ∨ j = 5 ∨ j = 6 ∨ j = 7 ∨ j = 8 ∨ j = 9 := by omega
  rcases hjj with rfl | rfl | rfl | rfl | rfl | rfl | rfl | rfl | rfl | rfl <;> (simp only [Int.reducePow] at hL) <;> rcases h with ⟨rfl, rfl, rfl⟩ | ⟨rfl, rfl, rfl⟩ | ⟨rfl, rfl, rfl⟩ | ⟨rfl, rfl, rfl⟩ | ⟨rfl, rfl, rfl⟩ | ⟨rfl, rfl, rfl⟩ | ⟨rfl, rfl, rfl⟩ | ⟨rfl, rfl, rfl⟩ | ⟨h9, rfl, rfl⟩ <;> (split <;> split <;> omega)
abbrev five53 : ByteArray := ⟨#[49, 49, 49, 48, 50, 50, 51, 48, 50, 52, 54, 50, 53, 49, 53, 54, 53, 52, 48, 52, 50, 51, 54, 51, 49, 54, 54, 56, 48, 57, 48, 56, 50, 48, 51, 49, 50, 53]⟩
/-- What floatBits reads of the library's tables; all of it below block g. -/
structure Tabs (W : World) (g bp op b o : Nat) : Prop where
  m0 : W.cell? ⟨7, 0, none⟩ = some (.int .u64 52)
  m1 : W.cell? ⟨7, 1, none⟩ = some (.int .u64 11)
  m2 : W.cell? ⟨7, 2, none⟩ = some (.int .i64 (-1023))
  p : W.cell? ⟨9, 0, none⟩ = some (.slice (some ⟨bp, op, none⟩) 9 9)
  p0 : W.cell? ⟨bp, op, none⟩ = some (.int .i64 1)
  pn : ∀ dp : Int, 1 ≤ dp → dp ≤ 8 → ∃ n K, Pw dp n K ∧ W.cell? ⟨bp, op + dp.toNat, none⟩ = some (.int .i64 n)
  l : W.cell? ⟨12, 0, none⟩ = some (.slice (some ⟨b, o, none⟩) 61 61)
  l1 : W.cell? ⟨b, o + 2, none⟩ = some (.int .i64 1)
  l1s : W.cell? ⟨b, o + 3, none⟩ = some (.string ⟨#[53]⟩)
  l53 : W.cell? ⟨b, o + 106, none⟩ = some (.int .i64 16)
  l53s : W.cell? ⟨b, o + 107, none⟩ = some (.string five53)
  hg : 12 < g ∧ bp < g ∧ b < g
theorem Tabs.below {W W' : World} {g bp op b o : Nat} (h : Tabs W g bp op b o) (hB : Below g W W') : Tabs W' g bp op b o :=
  have hg := h.hg
  ⟨(hB.cell (by show 7 < g; omega)).trans h.m0, (hB.cell (by show 7 < g; omega)).trans h.m1, (hB.cell (by show 7 < g; omega)).trans h.m2, (hB.cell (by show 9 < g; omega)).trans h.p, (hB.cell (by exact hg.2.1)).trans h.p0,
   fun dp h1 h2 => by obtain ⟨n, K, h3, h4⟩ := h.pn dp h1 h2; exact ⟨n, K, h3, (hB.cell (by exact hg.2.1)).trans h4⟩,
   (hB.cell (by show 12 < g; omega)).trans h.l, (hB.cell (by exact hg.2.2)).trans h.l1, (hB.cell (by exact hg.2.2)).trans h.l1s, (hB.cell (by exact hg.2.2)).trans h.l53, (hB.cell (by exact hg.2.2)).trans h.l53s, hg⟩
/-- Bits are told, and that nothing ran over. -/
def BitsFalse (r : Ending) : Prop := ∃ n : Int, r = .returned (.tuple #[.int .u64 n, .bool false])
set_option maxRecDepth 100000 in
set_option maxHeartbeats 4000000 in
theorem bits_any (g : Nat) (d : Nat → Int) (nd dp : Int) (bp op b o : Nat) (w : World) (hI : IsDec w g d nd dp false) (h0 : 1 ≤ nd ∧ nd ≤ 800) (hdp : 1 ≤ dp ∧ dp ≤ 20) (hd : Digs d nd) (hd0 : 49 ≤ d 0) (hT : Tabs w g bp op b o) :
    Calls Tryd.prog 55 #[.pointer (some ⟨g, 0, none⟩), .pointer (some ⟨7, 0, none⟩)] w fun r w' => BitsFalse r ∧ Below g w w' := by
  have hu99 := Tryd.underlying99
  have HI := Aside0.mk hI
  have HN := Aside0.mk h0
  have HDP := Aside0.mk hdp
  have HDD := Aside0.mk hd
  have HD0 := Aside0.mk hd0
  have HT := Aside0.mk hT
  have c0 := hI.nd
  have c1 := hI.dp
  have z1 : (nd == 0) = false := beq_eq_false_iff_ne.mpr (by omega)
  have z2 : decide (310 < dp) = false := decide_eq_false (by omega)
  have z3 : decide (dp < -330) = false := decide_eq_false (by omega)
  clear hI h0 hdp hd hd0 hT
  go_enter Tryd.func55, Tryd.ntmps55
  go_wp2
  refine scope_forward 0 rfl ?_
  intro J hJ
  go_wp2
  clear c0 c1 z1 z2 z3
  go_loopg [6, 8] (Msr dp (d 0)).toNat (fun kq v6 v8 w' => ∃ (e nd1 dp1 : Int) (d1 : Nat → Int) (tr1 : Bool), v6 = .int .i64 e ∧ Aside0 (1 ≤ nd1 ∧ nd1 ≤ 800) ∧ Aside0 (0 ≤ dp1 ∧ dp1 ≤ 20) ∧ Aside0 (0 ≤ e ∧ e + 14 * Msr dp1 (d1 0) ≤ 574) ∧ Aside0 (Msr dp1 (d1 0) = kq) ∧ Aside0 (Digs d1 nd1) ∧ Aside0 (49 ≤ d1 0) ∧ Aside0 (IsDec w' g d1 nd1 dp1 tr1) ∧ Aside0 (Below g w w'))
  case atStart => exact ⟨0, nd, dp, d, false, rfl, HN, ⟨by have := HDP.out; omega⟩, ⟨by have := HDP.out; unfold Msr; split <;> omega⟩, ⟨by have := HDP.out; unfold Msr; split <;> omega⟩, HDD, HD0, HI, ⟨Below.refl _ _⟩⟩
  case round =>
    obtain ⟨e, nd1, dp1, d1, tr1, rfl, HN1, HDP1, HE, HM, HDG, HD1, HI1, HB1⟩ := hrel
    have c1 := HI1.out.dp
    have HT1 := Aside0.mk (HT.out.below HB1.out)
    have k9 := HT1.out.p
    by_cases h0 : 0 < dp1
    · have z1 : decide (0 < dp1) = true := decide_eq_true h0
      have HX := Aside0.mk h0
      by_cases h9 : 9 ≤ dp1
      · have z2 : decide (9 ≤ dp1) = true := decide_eq_true h9
        have hp : Pw dp1 27 134217728 := by unfold Pw; omega
        have HP := Aside0.mk hp
        have e1 : wrap64 (e + 27) = e + 27 := by unfold wrap64; have := HE.out; have := Msr_nn HDP1.out.1 (d1 0); omega
        clear h9 h0 hp
        go_wp2
        go_quiet (fail)
        go_wp2_with (go_at_call 70; go_loud (refine (shift_neg g d1 nd1 dp1 _ 27 134217728 tr1 _ (by first | rfl | omega) (by first | exact HI1.out | exact HI1.out.drewN _) HN1.out (by have := HP.out.facts; omega) HP.out.facts.2.1 HP.out.facts.2.2 (by have := HDP1.out; omega) HDG.out HD1.out).mono ?_; rintro e w1 ⟨rfl, h1, h2⟩; have H1 := Aside0.mk h1; have H2 := Aside0.mk h2; clear h1 h2))
        obtain ⟨r, L, nd2, d2, tr2, hI2, hN2, hG2, hD2, hr, hL, hK, hr2⟩ := H1.out
        have st := HP.out.step hr hL hK hr2 (HDG.out 0 (by have := HN1.out; omega)).2 hD2
        have m0 : 0 ≤ Msr (dp1 - (r - 1)) (d2 0) := by unfold Msr; split <;> omega
        go_roundg (Msr (dp1 - (r - 1)) (d2 0)).toNat
        case measure => have := HM.out; omega
        case rel => exact ⟨e + 27, nd2, dp1 - (r - 1), d2, tr2, by first | rfl | rw [e1], ⟨hN2⟩, ⟨by have := HDP1.out; omega⟩, ⟨by have := HE.out; have := HP.out.facts; omega⟩, ⟨by omega⟩, ⟨hG2⟩, ⟨hD2⟩, ⟨by first | exact hI2 | exact hI2.drewN _⟩, ⟨by first | exact HB1.out.trans H2.out | exact (HB1.out.drewN' _).trans H2.out | exact (Below.drewN' HB1.out _).trans H2.out⟩⟩
      · have z2 : decide (9 ≤ dp1) = false := decide_eq_false h9
        obtain ⟨n, K, hp, hcell⟩ := HT1.out.pn dp1 (by omega) (by omega)
        have HP := Aside0.mk hp
        have q1 := eq_true (show 0 ≤ dp1 by omega)
        have q2 := eq_true (show dp1 < 9 by omega)
        have e1 : wrap64 (e + n) = e + n := by unfold wrap64; have := HE.out; have := HP.out.facts; have := Msr_nn HDP1.out.1 (d1 0); omega
        have e2 : wrap64 (-n) = -n := by unfold wrap64; have := HP.out.facts; omega
        clear h9 h0 hp
        go_wp2
        go_quiet (fail)
        go_wp2
        repeat (go_quiet (fail))
        go_wp2_with (go_at_call 70; go_loud (refine (shift_neg g d1 nd1 dp1 _ n K tr1 _ (by first | rfl | omega) (by first | exact HI1.out | exact HI1.out.drewN _) HN1.out (by have := HP.out.facts; omega) HP.out.facts.2.1 HP.out.facts.2.2 (by have := HDP1.out; omega) HDG.out HD1.out).mono ?_; rintro e w1 ⟨rfl, h1, h2⟩; have H1 := Aside0.mk h1; have H2 := Aside0.mk h2; clear h1 h2))
        obtain ⟨r, L, nd2, d2, tr2, hI2, hN2, hG2, hD2, hr, hL, hK, hr2⟩ := H1.out
        have st := HP.out.step hr hL hK hr2 (HDG.out 0 (by have := HN1.out; omega)).2 hD2
        have m0 : 0 ≤ Msr (dp1 - (r - 1)) (d2 0) := by unfold Msr; split <;> omega
        go_roundg (Msr (dp1 - (r - 1)) (d2 0)).toNat
        case measure => have := HM.out; omega
        case rel => exact ⟨e + n, nd2, dp1 - (r - 1), d2, tr2, by first | rfl | rw [e1], ⟨hN2⟩, ⟨by have := HDP1.out; omega⟩, ⟨by have := HE.out; have := HP.out.facts; omega⟩, ⟨by omega⟩, ⟨hG2⟩, ⟨hD2⟩, ⟨by first | exact hI2 | exact hI2.drewN _⟩, ⟨by first | exact HB1.out.trans H2.out | exact (HB1.out.drewN' _).trans H2.out | exact (Below.drewN' HB1.out _).trans H2.out⟩⟩
    · have z1 : decide (0 < dp1) = false := decide_eq_false h0
      have hd0 : dp1 = 0 := by have := HDP1.out; omega
      subst hd0
      have HE2 : Aside0 (0 ≤ e ∧ e ≤ 574) := ⟨by have := HE.out; have := Msr_nn HDP1.out.1 (d1 0); omega⟩
      clear h0 HE HM HDP1 k9
      go_wp2
      go_loopg [6, 9] (57 - d1 0).toNat (fun kq v6 v9 w' => ∃ (e nd2 : Int) (d2 : Nat → Int) (tr2 : Bool), v6 = .int .i64 e ∧ Aside0 (1 ≤ nd2 ∧ nd2 ≤ 800) ∧ Aside0 (kq = 57 - d2 0 ∧ (kq : Int) - 9 ≤ e ∧ e ≤ 574) ∧ Aside0 (Digs d2 nd2) ∧ Aside0 (49 ≤ d2 0) ∧ Aside0 (IsDec w' g d2 nd2 0 tr2) ∧ Aside0 (Below g w w'))
      case atStart => exact ⟨e, nd1, d1, tr1, rfl, HN1, ⟨by have := HE2.out; have := HD1.out; have := HDG.out 0 (by have := HN1.out; omega); omega⟩, HDG, HD1, HI1, HB1⟩
      case round =>
        clear HE2 HN1 HDG HD1 HI1 HB1 HT1 z1 c1
        obtain ⟨e, nd2, d2, tr2, rfl, HN2, HE, HDG, HD2, HI2, HB2⟩ := hrel
        have c1 := HI2.out.dp
        have ci := HI2.out.digs 0 (by omega)
        have HT2 := Aside0.mk (HT.out.below HB2.out)
        have k9 := HT2.out.p
        have k90 := HT2.out.p0
        by_cases h5 : d2 0 < 53
        · have z3 : decide (d2 0 < 53) = true := decide_eq_true h5
          have e1 : wrap64 (e - 1) = e - 1 := by unfold wrap64; have := HE.out; have := HD2.out; omega
          have H5 := Aside0.mk h5
          clear h5
          go_wp2
          repeat (go_quiet (fail); go_wp2_with (go_at_call 70; go_loud (refine (shift_pos g d2 nd2 0 1 2 0 1 1 tr2 b o 53 ⟨#[53]⟩ _ (by first | exact HI2.out | exact HI2.out.drewN _) HN2.out (by omega) (by decide) (by omega) (by omega) HDG.out HD2.out (by exact HT2.out.l) (by exact HT2.out.l1) (by exact HT2.out.l1s) (by decide) (by decide) (by decide) (by have := H5.out; omega) (by have h := H5.out; rw [if_pos (show d2 0 < ((53 : Nat) : Int) from h)]; rfl) (by omega) (by decide) (by have := H5.out; omega) ⟨HT2.out.hg.1, HT2.out.hg.2.2⟩).mono ?_; rintro e w1 ⟨rfl, h1, h2⟩; have H1 := Aside0.mk h1; have H2 := Aside0.mk h2; clear h1 h2)))
          obtain ⟨nd3, dp3, d3, tr3, hI3, hN3, -, hP3⟩ := H1.out
          obtain ⟨hG3, hL3, hN31, hdp3⟩ := hP3 rfl
          subst hdp3
          have hD3 := hG3 0 (by omega)
          go_roundg (57 - d3 0).toNat
          case measure => have := HE.out; have := HD2.out; omega
          case rel => exact ⟨e - 1, nd3, d3, tr3, by first | rfl | rw [e1], ⟨by omega⟩, ⟨by have := HE.out; have := HD2.out; omega⟩, ⟨hG3⟩, ⟨by have := HD2.out; omega⟩, ⟨by first | exact hI3 | exact hI3.drewN _⟩, ⟨by first | exact HB2.out.trans H2.out | exact (Below.drewN' HB2.out _).trans H2.out⟩⟩
        · have z3 : decide (d2 0 < 53) = false := decide_eq_false h5
          have m0 := HT2.out.m0
          have m1 := HT2.out.m1
          have m2 := HT2.out.m2
          have H5 := Aside0.mk h5
          clear h5
          obtain ⟨E, rfl⟩ : ∃ E, e = E + 1 := ⟨e - 1, by omega⟩
          have e1 : wrap64 E = E := by unfold wrap64; have := HE.out; have := HD2.out; omega
          have e2 : wrap64 (E + 1023) = E + 1023 := by unfold wrap64; have := HE.out; have := HD2.out; omega
          have e3 : wrap64 (E + 1) = E + 1 := by unfold wrap64; have := HE.out; have := HD2.out; omega
          have e4 : wrap64 (E + 1 + 1023) = E + 1 + 1023 := by unfold wrap64; have := HE.out; have := HD2.out; omega
          have z4 : decide (E < -1022) = false := decide_eq_false (by have := HE.out; have := HD2.out; omega)
          have z5 : decide (2047 ≤ E + 1023) = false := decide_eq_false (by have := HE.out; omega)
          have z6 : decide (2047 ≤ E + 1 + 1023) = false := decide_eq_false (by have := HE.out; omega)
          go_wp2
          go_quiet (fail)
          go_wp2_with (first | (go_at_call 70; go_loud (refine (shift_pos g d2 nd2 0 53 9007199254740992 16 16 10000000000000000 tr2 b o 49 five53 _ (by first | exact HI2.out | exact HI2.out.drewN _) HN2.out (by omega) (by decide) (by omega) (by omega) HDG.out HD2.out (by exact HT2.out.l) (by exact HT2.out.l53) (by exact HT2.out.l53s) (by decide) (by decide) (by decide) (by have := H5.out; omega) (by have h := H5.out; rw [if_neg (show ¬ d2 0 < ((49 : Nat) : Int) by omega)]) (by omega) (by decide) (by have := HDG.out 0 (by have := HN2.out; omega); omega) ⟨HT2.out.hg.1, HT2.out.hg.2.2⟩).mono ?_; rintro e w1 ⟨rfl, h1, h2⟩; obtain ⟨nd3, dp3, d3, tr3, hI3, hN3, hdp3, -⟩ := h1; have H2 := Aside0.mk (Below.trans (Below.drewN' HB2.out _) h2); have HI3 := Aside0.mk hI3; have HN3 := Aside0.mk hN3; have HDP3 := Aside0.mk hdp3; have HT3 := Aside0.mk (HT2.out.below (Below.trans (Below.drewN' (Below.refl _ _) _) h2)); have m0' := HT3.out.m0; have m1' := HT3.out.m1; have m2' := HT3.out.m2; have cn := HI3.out.neg; clear h2 hI3 hN3 hdp3)) | (go_at_call 71; go_loud (refine (rounded_any g d3 nd3 dp3 tr3 _ HI3.out HN3.out (by have := HDP3.out; omega)).mono ?_; rintro e w2 ⟨⟨m, rfl⟩, ⟨n2, rfl⟩⟩)))
          all_goals (try (go_quiet (fail); go_wp2))
          all_goals
            go_step3
            show 0 = 0 ∧ J _ _
            refine ⟨rfl, hJ _ _ ?_⟩
            go_wp2
            repeat (go_quiet (fail); go_wp2)
            rw [Exit.noGoto_ret]
            go_ret2
            exact ⟨⟨_, rfl⟩, by first | exact H2.out | exact Below.drewN' H2.out _ | exact Below.drewN' (Below.drewN' H2.out _) _⟩
end Go.Proofs.YtnpkocpknmhngaaDoor.Pf
namespace Go.Proofs.YtnpkocpknmhngaaDoor.Pf
open Go.RowKit Go.Lib Go.Proofs.YtnpkocpknmhngaaDoorW.PrintWords Go.Proofs.YtnpkocpknmhngaaDoorW.PrintLast Go.Proofs.YtnpkocpknmhngaaDoor.PPf
/-- A float, how many signs were read, no error. -/
def FloatRead (n : Nat) (r : Ending) : Prop := ∃ x : Nat, r = .returned (.tuple #[.float .f64 x, .int .i64 n, .nilIface])
theorem bitAux_le : ∀ (f x : Nat), Lib.bitLenAux f x ≤ f
  | 0, _ => Nat.le_refl _
  | f + 1, x => by
    simp only [Lib.bitLenAux]
    split
    · omega
    · have := bitAux_le f (x / 2); omega
theorem bitAux_pos (f x : Nat) (h : x ≠ 0) : 1 ≤ Lib.bitLenAux (f + 1) x := by
  simp only [Lib.bitLenAux, if_neg h]
  omega
theorem bit_len (d : Int) (h : 1 ≤ d ∧ d ≤ 18446744073709551615) : ∃ b : Int, (1 ≤ b ∧ b ≤ 64) ∧ ∀ w : World, Calls Tryd.prog 30 #[.int .u64 d] w fun r w' => r = .returned (.int .i64 b) ∧ Drawn0 w w' := by
  refine ⟨(Lib.bitLen d.toNat : Int), ?_, fun w => (Tryd.bits_Len64 d w (by omega) h.2).mono fun e w' ⟨h1, h2⟩ => ⟨h1, by subst h2; exact Drawn0.refl _⟩⟩
  have h1 := bitAux_le 64 d.toNat
  have h2 : 1 ≤ Lib.bitLenAux 64 d.toNat := bitAux_pos 63 d.toNat (by omega)
  unfold Lib.bitLen
  generalize Lib.bitLenAux 64 d.toNat = q at h1 h2 ⊢
  omega
/-- The table of powers reads at nought and at one. -/
def TenAt (w : World) : Prop := ∀ p : Int, p = 0 ∨ p = 1 → ∃ hi lo : Int, w.cell? ⟨11, 2 * (p + 348).toNat, none⟩ = some (.int .u64 hi) ∧ w.cell? ⟨11, 2 * (p + 348).toNat + 1, none⟩ = some (.int .u64 lo)
theorem TenAt.below {w w' : World} {g : Nat} (h : TenAt w) (hg : 11 < g) (hB : Below g w w') : TenAt w' := by
  intro p hp
  obtain ⟨hi, lo, h1, h2⟩ := h p hp
  exact ⟨hi, lo, (hB.cell (by exact hg)).trans h1, (hB.cell (by exact hg)).trans h2⟩
theorem parse_at (d p : Int) (hd : 1 ≤ d ∧ d ≤ 18446744073709551615) (hp : p = 0 ∨ p = 1) (w : World) (hT : TenAt w) :
    Calls Tryd.prog 59 #[.int .u64 d, .int .i64 p, .int .u64 0] w fun r w' => FloatNil r ∧ Below w.heap.size w w' := by
  obtain ⟨b, hb, hl⟩ := bit_len d hd
  obtain ⟨hi, lo, h1, h2⟩ := hT p hp
  rcases hp with rfl | rfl
  · exact parse_any d 0 0 b hi lo hd hb w hl (.inl ⟨rfl, rfl⟩) h1 h2
  · exact parse_any d 1 3 b hi lo hd hb w hl (.inr ⟨rfl, rfl⟩) h1 h2
/-- The cells of a new decimal. -/
def zList : List Value := List.replicate 800 (Value.int .u8 0) ++ [Value.int .i64 0, Value.int .i64 0, Value.bool false, Value.bool false]
theorem zero101 : Tryd.zeroCells101 = zList.toArray := by kernel_rfl
theorem z_dig (i : Nat) (h : i < 800) : zList[i]? = some (.int .u8 0) := by
  unfold zList
  rw [List.getElem?_append_left (by rw [List.length_replicate]; exact h), List.getElem?_replicate, if_pos h]
theorem z_800 : zList[800]? = some (.int .i64 0) := by kernel_rfl
theorem z_801 : zList[801]? = some (.int .i64 0) := by kernel_rfl
theorem z_802 : zList[802]? = some (.bool false) := by kernel_rfl
theorem z_803 : zList[803]? = some (.bool false) := by kernel_rfl
theorem dec_fresh (w : World) : IsDec (w.alloc (Obj.cells Tryd.zeroCells101 101)) w.heap.size (fun _ => 0) 0 0 false := by
  have hb : (w.alloc (Obj.cells Tryd.zeroCells101 101)).heap[w.heap.size]? = some (.cells zList.toArray 101 (0, 0)) := by
    rw [zero101]
    show (w.heap.push _)[w.heap.size]? = _
    rw [Array.getElem?_push, if_pos rfl]
  have hc : ∀ i, (w.alloc (Obj.cells Tryd.zeroCells101 101)).cell? ⟨w.heap.size, i, none⟩ = zList[i]? := by
    intro i
    rw [World.cell?, hb]
    show (if _ then _ else zList.toArray[i]?) = _
    rw [if_neg (fun h => Bool.noConfusion h), List.getElem?_toArray]
  refine ⟨fun i hi => (hc i).trans (z_dig i hi), (hc 800).trans z_800, (hc 801).trans z_801, (hc 802).trans z_802, (hc 803).trans z_803, fun i => ?_⟩
  unfold World.frozen?
  rw [hb]
  simp
theorem Tabs.mono {W : World} {g g' bp op b o : Nat} (h : Tabs W g bp op b o) (hg : g ≤ g') : Tabs W g' bp op b o :=
  ⟨h.m0, h.m1, h.m2, h.p, h.p0, h.pn, h.l, h.l1, h.l1s, h.l53, h.l53s, by have := h.hg; omega⟩
theorem read_digits2 (s : ByteArray) (h0 : 0 < s.size) (hs : s.size ≤ 20) (hd : ∀ (i : Nat) (h : i < s.size), 48 ≤ (s[i]'h).toNat ∧ (s[i]'h).toNat ≤ 57) (hz : (s[0]'h0).toNat = 48 → s.size = 1) (w : World) :
    Calls Tryd.prog 48 #[.string s] w fun e w' => (∃ (m x : Int) (tr : Bool), e = .returned (.tuple #[.int .u64 m, .int .i64 x, .bool false, .bool tr, .bool false, .int .i64 s.size, .bool true]) ∧ 0 ≤ m ∧ m < 10000000000000000000 ∧ 0 ≤ x ∧ x ≤ 1 ∧ (x = 1 → 1000000000000000000 ≤ m) ∧ ((s[0]'h0).toNat = 48 → m = 0)) ∧ w' = w := by
  by_cases c48 : (s[0]'h0).toNat = 48
  · have e1 := hz c48
    have es : s = ⟨#[48]⟩ := by
      apply ByteArray.ext
      apply Array.ext
      · exact e1
      · intro i hi hj
        have : i = 0 := by simp at hj; omega
        subst this
        exact UInt8.toNat_inj.mp c48
    rw [e1]
    subst es
    exact (read_zero w).mono fun e w' ⟨h, hw⟩ => ⟨⟨0, 0, false, h, by omega, by omega, by omega, by omega, by omega, fun _ => rfl⟩, hw⟩
  · exact (read_digits s h0 hs hd hz w).mono fun e w' ⟨⟨m, x, tr, h, h1, h2, h3, h4, h5⟩, hw⟩ => ⟨⟨m, x, tr, h, h1, h2, h3, h4, h5, fun h => absurd h c48⟩, hw⟩
set_option maxRecDepth 100000 in
set_option maxHeartbeats 4000000 in
theorem atof_digits (s : ByteArray) (h0 : 0 < s.size) (hs : s.size ≤ 20) (hd : ∀ (i : Nat) (h : i < s.size), 48 ≤ (s[i]'h).toNat ∧ (s[i]'h).toNat ≤ 57) (hz : (s[0]'h0).toNat = 48 → s.size = 1) (bp op b o : Nat) (w : World)
    (hO : w.cell? ⟨6, 0, none⟩ = some (.bool true)) (hT : Tabs w w.heap.size bp op b o) (hP : TenAt w) :
    Calls Tryd.prog 44 #[.string s] w fun r w' => FloatRead s.size r ∧ Below w.heap.size w w' := by
  have HS := Aside0.mk (special_digit s h0 (by omega) (hd 0 h0).1 (hd 0 h0).2 w)
  have HR := Aside0.mk (read_digits2 s h0 hs hd hz w)
  have HT := Aside0.mk hT
  have HP := Aside0.mk hP
  have HD := Aside0.mk hd
  have HZ := Aside0.mk hz
  have HSZ := Aside0.mk hs
  have m0 := hT.m0
  clear hd hz hT hP hs
  go_enter Tryd.func44, Tryd.ntmps44
  go_upto_region 12 with (first | (go_at_call 47; refine HS.out.mono ?_; rintro e w1 ⟨rfl, rfl⟩) | (go_at_call 48; refine HR.out.mono ?_; rintro e w1 ⟨⟨m, x, tr, rfl, hm⟩, rfl⟩; have HM := Aside0.mk hm; clear hm) | (go_at_call 56; refine (strconv_bool2_uint64.calls false 0 _ rfl).mono ?_; rintro e w1 ⟨rfl, ⟨n1, rfl⟩⟩))
  have zx1 : decide (310 < x) = false := decide_eq_false (by have := HM.out; omega)
  have zx2 : decide (x < -345) = false := decide_eq_false (by have := HM.out; omega)
  by_cases hm0 : m = 0
  · have zm : (m == 0) = true := beq_iff_eq.mpr hm0
    have hfb := from_bits
    clear hm0
    go_wp2
    go_ret3
    exact ⟨⟨_, rfl⟩, by first | exact Below.refl _ _ | exact Below.drewN' (Below.refl _ _) _⟩
  · have zm : (m == 0) = false := beq_eq_false_iff_ne.mpr hm0
    have HM0 := Aside0.mk hm0
    clear hm0
    cases tr
    · go_wp2_with (first | (go_at_call 58; go_loud (refine (exact_any m x HM.out.1 (by have := HM.out; omega) _ (by exact m0)).mono ?_; rintro e w2 ⟨⟨f, b, rfl⟩, ⟨n2, rfl⟩⟩)) | (go_at_call 59; go_loud (refine (parse_at m x (by have := HM.out; have := HM0.out; omega) (by have := HM.out; omega) _ (by exact HP.out)).mono ?_; rintro e w2 ⟨⟨f, rfl⟩, hB⟩; have HB := Aside0.mk hB; clear hB)))
      all_goals
        go_ret3
        exact ⟨⟨_, rfl⟩, by first | exact Below.drewN' (Below.refl _ _) _ | exact HB.out | exact ⟨HB.out.os, HB.out.tape, HB.out.output, HB.out.size, HB.out.block⟩⟩
    · have e1 := u64_in (n := m + 1) (by have := HM.out; omega) (by have := HM.out; omega)
      have h11 : 11 < w1.heap.size := by have := HT.out.hg; omega
      go_upto_region 28 with (first | (go_at_call 59; have hb1 := HB.out; refine (parse_at _ x (by have := HM.out; have := HM0.out; omega) (by have := HM.out; omega) _ (by exact HP.out.below h11 hb1)).mono ?_; rintro e w3 ⟨⟨f1, rfl⟩, hB⟩; have HB2 : Aside0 (Below w1.heap.size w1 w3) := ⟨hb1.trans (hB.mono hb1.size)⟩; clear hB hb1) | (go_at_call 59; refine (parse_at _ x (by have := HM.out; have := HM0.out; omega) (by have := HM.out; omega) _ (by exact HP.out)).mono ?_; rintro e w2 ⟨⟨f, rfl⟩, hB⟩; have HB : Aside0 (Below w1.heap.size w1 w2) := ⟨⟨hB.os, hB.tape, hB.output, hB.size, hB.block⟩⟩; clear hB))
      · go_ret3
        exact ⟨⟨_, rfl⟩, by first | exact HB2.out | exact ⟨HB2.out.os, HB2.out.tape, HB2.out.output, HB2.out.size, HB2.out.block⟩⟩
      · go_upto_region 29 with (fail)
        have hfr := dec_fresh w3
        have HFR := Aside0.mk hfr
        have HB3 : Aside0 (Below w1.heap.size w1 (w3.alloc (Obj.cells Tryd.zeroCells101 101))) := ⟨HB2.out.alloc HB2.out.size _⟩
        have HG : Aside0 (w1.heap.size ≤ w3.heap.size) := ⟨HB2.out.size⟩
        have HTT : Aside0 (Tabs (w3.alloc (Obj.cells Tryd.zeroCells101 101)) w3.heap.size bp op b o) := ⟨(HT.out.below HB3.out).mono HG.out⟩
        have hse : s.extract 0 s.size = s := by
          apply ByteArray.ext
          simp
        have hfb := from_bits
        have HZ2 : Aside0 ((s[0]'h0).toNat ≠ 48) := ⟨fun h => HM0.out (HM.out.2.2.2.2.2 h)⟩
        clear hfr
        generalize (w3.alloc (Obj.cells Tryd.zeroCells101 101)) = W4 at HFR HB3 HTT ⊢
        generalize w3.heap.size = G at HFR HTT HG ⊢
        go_wp2_with (first | (go_at_call 54; go_loud (refine (set_digits G (fun _ => 0) s h0 (by have := HSZ.out; omega) HD.out HZ2.out _ (by exact HFR.out)).mono ?_; rintro e w5 ⟨rfl, ⟨d, hd, hI⟩, hB⟩; have HBS := Aside0.mk hB; have HIS := Aside0.mk hI; have HDS := Aside0.mk hd; clear hB hI hd)) | (go_at_call 55; go_loud (have hq := HDS.out 0 h0; refine (bits_any G d s.size s.size bp op b o _ (by exact HIS.out) (by have := HSZ.out; omega) (by have := HSZ.out; omega) (fun i hi => by have h1 := HDS.out i (by omega); have h2 := HD.out i (by omega); omega) (by have := HD.out 0 h0; have := HZ2.out; omega) (by exact HTT.out.below HBS.out)).mono ?_; rintro e w6 ⟨⟨v, rfl⟩, hB⟩; have HBB := Aside0.mk hB; clear hB hq)))
        go_ret3
        exact ⟨⟨_, rfl⟩, (HB3.out.trans (HBS.out.mono HG.out)).trans (HBB.out.mono HG.out)⟩
end Go.Proofs.YtnpkocpknmhngaaDoor.Pf
namespace Go.Proofs.YtnpkocpknmhngaaDoor.Pf
open Go.RowKit Go.Lib Go.Proofs.YtnpkocpknmhngaaDoorW.PrintWords Go.Proofs.YtnpkocpknmhngaaDoorW.PrintLast Go.Proofs.YtnpkocpknmhngaaDoor.PPf
set_option maxRecDepth 100000 in
set_option maxHeartbeats 4000000 in
theorem prefix_digits (s : ByteArray) (h0 : 0 < s.size) (hs : s.size ≤ 20) (hd : ∀ (i : Nat) (h : i < s.size), 48 ≤ (s[i]'h).toNat ∧ (s[i]'h).toNat ≤ 57) (hz : (s[0]'h0).toNat = 48 → s.size = 1) (bp op b o : Nat) (w : World)
    (hO : w.cell? ⟨6, 0, none⟩ = some (.bool true)) (hT : Tabs w w.heap.size bp op b o) (hP : TenAt w) :
    Calls Tryd.prog 34 #[.string s, .int .i64 64] w fun r w' => FloatRead s.size r ∧ Below w.heap.size w w' := by
  have H := Aside0.mk (atof_digits s h0 hs hd hz bp op b o w hO hT hP)
  clear hO hT hP hd hz hs
  go_enter Tryd.func34, Tryd.ntmps34
  go_wp2_with (go_at_call 44; refine H.out.mono ?_; rintro e w1 ⟨⟨x, rfl⟩, hB⟩; have HB := Aside0.mk hB; clear hB)
  go_ret3
  exact ⟨⟨_, rfl⟩, HB.out⟩
set_option maxRecDepth 100000 in
set_option maxHeartbeats 4000000 in
theorem inner_digits (s : ByteArray) (h0 : 0 < s.size) (hs : s.size ≤ 20) (hd : ∀ (i : Nat) (h : i < s.size), 48 ≤ (s[i]'h).toNat ∧ (s[i]'h).toNat ≤ 57) (hz : (s[0]'h0).toNat = 48 → s.size = 1) (bp op b o : Nat) (w : World)
    (hO : w.cell? ⟨6, 0, none⟩ = some (.bool true)) (hT : Tabs w w.heap.size bp op b o) (hP : TenAt w) :
    Calls Tryd.prog 25 #[.string s, .int .i64 64] w fun r w' => FloatNil r ∧ Below w.heap.size w w' := by
  have H := Aside0.mk (prefix_digits s h0 hs hd hz bp op b o w hO hT hP)
  clear hO hT hP hd hz hs
  go_enter Tryd.func25, Tryd.ntmps25
  go_wp2_with (go_at_call 34; refine H.out.mono ?_; rintro e w1 ⟨⟨x, rfl⟩, hB⟩; have HB := Aside0.mk hB; clear hB)
  go_ret2
  exact ⟨⟨_, rfl⟩, HB.out⟩
set_option maxRecDepth 100000 in
set_option maxHeartbeats 4000000 in
theorem float_digits (s : ByteArray) (h0 : 0 < s.size) (hs : s.size ≤ 20) (hd : ∀ (i : Nat) (h : i < s.size), 48 ≤ (s[i]'h).toNat ∧ (s[i]'h).toNat ≤ 57) (hz : (s[0]'h0).toNat = 48 → s.size = 1) (bp op b o : Nat) (w : World)
    (hO : w.cell? ⟨6, 0, none⟩ = some (.bool true)) (hT : Tabs w w.heap.size bp op b o) (hP : TenAt w) :
    Calls Tryd.prog 13 #[.string s, .int .i64 64] w fun r w' => FloatNil r ∧ Below w.heap.size w w' := by
  have H := Aside0.mk (inner_digits s h0 hs hd hz bp op b o w hO hT hP)
  clear hO hT hP hd hz hs
  go_enter Tryd.func13, Tryd.ntmps13
  go_wp2_with (go_at_call 25; refine H.out.mono ?_; rintro e w1 ⟨⟨x, rfl⟩, hB⟩; have HB := Aside0.mk hB; clear hB)
  go_ret2
  exact ⟨⟨_, rfl⟩, HB.out⟩
end Go.Proofs.YtnpkocpknmhngaaDoor.Pf
