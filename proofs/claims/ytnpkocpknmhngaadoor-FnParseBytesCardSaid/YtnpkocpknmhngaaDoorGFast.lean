/- internal/strconv.special at a text that begins with a digit. internal/strconv.readFloat at a text of digits. internal/strconv.readFloat at a text of digits. internal/strconv.pack64 away from the end of the range; float64frombits. internal/strconv.atof64exact: no error is told; where the exponent is one the mantissa is too long for it. internal/strconv.prescale at a power of nought or one (condition: the table's cells). internal/strconv.parseFloat64 at exponents nought and one: no error. -/
import Derived.Test.YtnpkocpknmhngaaDoorPPbx2
import Derived.WalkKit
import Derived.WalkSpells
import Derived.Lib.Hide
import Derived.WalkMore
import Derived.LoopN
import Derived.Deep.LoopGhost
import Derived.Laws.Externs
import Derived.Laws.Cover2
import Derived.Test.YtnpkocpknmhngaaDoorPPfx
namespace Go.Proofs.YtnpkocpknmhngaaDoor.Pf
open Go.RowKit Go.Lib Go.Proofs.YtnpkocpknmhngaaDoorW.PrintWords Go.Proofs.YtnpkocpknmhngaaDoorW.PrintLast
set_option maxHeartbeats 1000000 in
theorem special_digit (s : ByteArray) (h0 : 0 < s.size) (hs : s.size ≤ 9223372036854775807) (h1 : 48 ≤ (s[0]'h0).toNat) (h2 : (s[0]'h0).toNat ≤ 57) (w : World) :
    Calls Tryd.prog 47 #[.string s] w fun e w' => e = .returned (.tuple #[.float .f64 0, .int .i64 0, .bool false]) ∧ w' = w := by
  have z1 : ((s.size : Int) == 0) = false := beq_eq_false_iff_ne.mpr (by omega)
  have z2 := eq_true (show (0 : Int) < s.size by omega)
  have z3 := eq_true h0
  have c43 : (((s[0]'h0).toNat : Int) == 43) = false := beq_eq_false_iff_ne.mpr (by omega)
  have c45 : (((s[0]'h0).toNat : Int) == 45) = false := beq_eq_false_iff_ne.mpr (by omega)
  have c105 : (((s[0]'h0).toNat : Int) == 105) = false := beq_eq_false_iff_ne.mpr (by omega)
  have c73 : (((s[0]'h0).toNat : Int) == 73) = false := beq_eq_false_iff_ne.mpr (by omega)
  have c110 : (((s[0]'h0).toNat : Int) == 110) = false := beq_eq_false_iff_ne.mpr (by omega)
  have c78 : (((s[0]'h0).toNat : Int) == 78) = false := beq_eq_false_iff_ne.mpr (by omega)
  clear h1 h2
  go_enter Tryd.func47, Tryd.ntmps47
  go_wp2
  refine bodyPost_ret (v := .tuple #[.float .f64 0, .int .i64 0, .bool false]) ?_ rfl ⟨rfl, rfl⟩
  simp [results, go_sem]
end Go.Proofs.YtnpkocpknmhngaaDoor.Pf
namespace Go.Proofs.YtnpkocpknmhngaaDoor.Pf
open Go.RowKit Go.Lib Go.Proofs.YtnpkocpknmhngaaDoorW.PrintWords Go.Proofs.YtnpkocpknmhngaaDoorW.PrintLast
set_option maxRecDepth 100000 in
set_option maxHeartbeats 4000000 in
theorem read_zero (w : World) :
    Calls Tryd.prog 48 #[.string ⟨#[48]⟩] w fun e w' => e = .returned (.tuple #[.int .u64 0, .int .i64 0, .bool false, .bool false, .bool false, .int .i64 1, .bool true]) ∧ w' = w := by
  go_enter Tryd.func48, Tryd.ntmps48
  go_wp2
  go_step3
  go_wp2
  go_step3
  go_wp2
  refine wp_loop_rounds 2 ?_
  rw [rounds_succ]
  go_wp2
  rw [rounds_succ]
  go_wp2
  rw [Exit.noGoto_ret]
  refine bodyPost_ret (v := .tuple #[.int .u64 0, .int .i64 0, .bool false, .bool false, .bool false, .int .i64 1, .bool true]) ?_ rfl ⟨rfl, rfl⟩
  simp [results, go_sem]
end Go.Proofs.YtnpkocpknmhngaaDoor.Pf
namespace Go.Proofs.YtnpkocpknmhngaaDoor.Pf
open Go.RowKit Go.Lib Go.Proofs.YtnpkocpknmhngaaDoorW.PrintWords Go.Proofs.YtnpkocpknmhngaaDoorW.PrintLast
set_option maxRecDepth 100000 in
set_option maxHeartbeats 4000000 in
theorem read_digits (s : ByteArray) (h0 : 0 < s.size) (hs : s.size ≤ 20) (hd : ∀ (i : Nat) (h : i < s.size), 48 ≤ (s[i]'h).toNat ∧ (s[i]'h).toNat ≤ 57) (hz : (s[0]'h0).toNat = 48 → s.size = 1) (w : World) :
    Calls Tryd.prog 48 #[.string s] w fun e w' => (∃ (m x : Int) (tr : Bool), e = .returned (.tuple #[.int .u64 m, .int .i64 x, .bool false, .bool tr, .bool false, .int .i64 s.size, .bool true]) ∧ 0 ≤ m ∧ m < 10000000000000000000 ∧ 0 ≤ x ∧ x ≤ 1 ∧ (x = 1 → 1000000000000000000 ≤ m)) ∧ w' = w := by
  have d0 := hd 0 h0
  have z2 := eq_true (show (0 : Int) < s.size by omega)
  have z4 : decide ((s.size : Int) ≤ 0) = false := decide_eq_false (by omega)
  have z3 := eq_true h0
  have ze : decide (s = ByteArray.empty) = false := decide_eq_false (fun e => by rw [e] at h0; exact absurd h0 (by decide))
  have c43 : (((s[0]'h0).toNat : Int) == 43) = false := beq_eq_false_iff_ne.mpr (by omega)
  have c45 : (((s[0]'h0).toNat : Int) == 45) = false := beq_eq_false_iff_ne.mpr (by omega)
  by_cases c48 : (s[0]'h0).toNat = 48
  · have e1 := hz c48
    have es : s = ⟨#[48]⟩ := by
      apply ByteArray.ext
      apply Array.ext
      · exact e1
      · intro i hi hj
        have : i = 0 := by simp at hj; omega
        subst this
        exact UInt8.toNat_inj.mp c48
    rw [e1]
    subst es
    exact (read_zero w).mono fun e w' ⟨h, hw⟩ => ⟨⟨0, 0, false, h, by omega, by omega, by omega, by omega, by omega⟩, hw⟩
  · have c48b : (((s[0]'h0).toNat : Int) == 48) = false := beq_eq_false_iff_ne.mpr (by omega)
    go_enter Tryd.func48, Tryd.ntmps48
    obtain ⟨zb, z5b⟩ : ∃ b, decide ((2 : Int) < s.size) = b := ⟨_, rfl⟩
    cases zb
    all_goals
      go_wp2
      go_step3
      go_wp2
      go_step3
      go_wp2
      go_loopg [2, 5, 7, 9, 13, 14, 15, 16, 17] s.size (fun kq v2 v5 v7 v9 v13 v14 v15 v16 v17 w' => ∃ (m x7 x16 : Int) (tr : Bool), v2 = .int .u64 m ∧ v5 = .bool tr ∧ v7 = .int .i64 x7 ∧ v9 = .bool false ∧ v13 = .bool false ∧ v14 = .bool (decide (0 < x7)) ∧ v15 = .int .i64 x7 ∧ v16 = .int .i64 x16 ∧ v17 = .int .i64 0 ∧ Aside0 (0 ≤ x7 ∧ x7 + kq = s.size) ∧ Aside0 (x16 = if x7 < 19 then x7 else 19) ∧ Aside0 (0 ≤ m ∧ m < 10 ^ x16.toNat) ∧ Aside0 (x7 ≤ 19 → tr = false) ∧ Aside0 (1 ≤ x16 → 10 ^ (x16 - 1).toNat ≤ m) ∧ w' = w)
      case atStart => exact ⟨0, 0, 0, false, rfl, rfl, rfl, rfl, rfl, rfl, rfl, rfl, rfl, ⟨by omega⟩, ⟨by rw [if_pos (by omega)]⟩, ⟨by decide⟩, ⟨fun _ => rfl⟩, ⟨fun h => by omega⟩, rfl⟩
      case round =>
        obtain ⟨m, x7, x16, tr, rfl, rfl, rfl, rfl, rfl, rfl, rfl, rfl, rfl, HX, H16, HM, HTR, HLO, rfl⟩ := hrel
        by_cases hlt : x7 < s.size
        · obtain ⟨g1, rfl⟩ : ∃ g1, gk = g1 + 1 := ⟨gk - 1, by have := HX.out; omega⟩
          have hx := bt_at s x7
          have p4 := eq_true HX.out.1
          have q4 := eq_true hlt
          have hltb : decide (x7 < (s.size : Int)) = true := decide_eq_true hlt
          have hcc : 48 ≤ bt s x7 ∧ bt s x7 ≤ 57 := by
            unfold bt
            rw [dif_pos (by have := HX.out; omega)]
            have := hd x7.toNat (by have := HX.out; omega)
            omega
          have hc0 : x7 = 0 → bt s x7 ≠ 48 := by
            rintro rfl
            unfold bt
            rw [dif_pos (by exact h0)]
            exact fun e => c48 (Int.ofNat_inj.mp e)
          generalize bt s x7 = c at *
          have a1 : (c == 95) = false := beq_eq_false_iff_ne.mpr (by omega)
          have a2 : (c == 46) = false := beq_eq_false_iff_ne.mpr (by omega)
          have a3 : decide (48 ≤ c) = true := decide_eq_true hcc.1
          have a4 : decide (c ≤ 57) = true := decide_eq_true hcc.2
          have w1 : wrap64 (x7 + 1) = x7 + 1 := by unfold wrap64; have := HX.out; omega
          by_cases b48 : c = 48
          · subst b48
            have hpos : 0 < x7 := by
              rcases Int.lt_or_eq_of_le HX.out.1 with h | h
              · exact h
              · exact absurd rfl (hc0 h.symm)
            have n0 : (x7 == 0) = false := beq_eq_false_iff_ne.mpr (by omega)
            by_cases g : x7 < 19
            · have e16 : x16 = x7 := by rw [H16.out, if_pos g]
              subst e16
              have gb : decide (x16 < 19) = true := decide_eq_true g
              have hm19 : m < 10 ^ 18 := by
                have h1 := HM.out.2
                have h2 : (10 : Int) ^ x16.toNat ≤ 10 ^ 18 := by
                  have : (10 : Nat) ^ x16.toNat ≤ 10 ^ 18 := Nat.pow_le_pow_right (by decide) (by omega)
                  exact_mod_cast this
                omega
              have f1 : IntKind.u64.wrap (m * 10) = m * 10 := by
                show Int.emod _ _ = _
                exact Int.emod_eq_of_lt (by have := HM.out; omega) (by show _ < (18446744073709551616 : Int); omega)
              have HM' : Aside0 (0 ≤ m * 10 ∧ m * 10 < 10 ^ (x16 + 1).toNat) := ⟨by
                have h1 := HM.out
                rw [show (x16 + 1).toNat = x16.toNat + 1 by have := HX.out; omega, Int.pow_succ]
                omega⟩
              have HLO' : Aside0 (1 ≤ x16 + 1 → 10 ^ (x16 + 1 - 1).toNat ≤ m * 10) := ⟨fun _ => by
                have h1 := HLO.out (by omega)
                rw [show (x16 + 1 - 1).toNat = (x16 - 1).toNat + 1 by omega, Int.pow_succ]
                omega⟩
              have G := Aside0.mk g
              have HP := Aside0.mk hpos
              clear hcc hc0 hm19 g hpos
              go_wp2
              go_roundg g1
              case measure => omega
              case rel => exact ⟨m * 10, x16 + 1, x16 + 1, tr, by first | rfl | simp [f1], rfl, by first | rfl | rw [w1], rfl, rfl, by have := HX.out; rw [decide_eq_true (show 0 < x16 + 1 by omega)], by first | rfl | rw [w1], by first | rfl | rw [w1], rfl, ⟨by have := HX.out; omega⟩, ⟨by have := HX.out; have := G.out; split <;> omega⟩, HM', ⟨fun _ => HTR.out (by have := G.out; omega)⟩, HLO', rfl⟩
            · have e16 : x16 = 19 := by rw [H16.out, if_neg g]
              subst e16
              have G := Aside0.mk g
              have HP := Aside0.mk hpos
              clear hcc hc0 g hpos
              go_wp2
              go_roundg g1
              case measure => omega
              case rel => exact ⟨m, x7 + 1, 19, tr, rfl, rfl, by first | rfl | rw [w1], rfl, rfl, by have := HX.out; rw [decide_eq_true (show 0 < x7 + 1 by omega)], by first | rfl | rw [w1], rfl, rfl, ⟨by have := HX.out; omega⟩, ⟨by have := G.out; rw [if_neg (by omega)]⟩, HM, ⟨fun h => by have := G.out; omega⟩, HLO, rfl⟩
          · have b1 : (c == 48) = false := beq_eq_false_iff_ne.mpr b48
            have b2 : (c != 48) = true := bne_iff_ne.mpr b48
            by_cases g : x7 < 19
            · have e16 : x16 = x7 := by rw [H16.out, if_pos g]
              subst e16
              have gb : decide (x16 < 19) = true := decide_eq_true g
              have hm19 : m < 10 ^ 18 := by
                have h1 := HM.out.2
                have h2 : (10 : Int) ^ x16.toNat ≤ 10 ^ 18 := by
                  have : (10 : Nat) ^ x16.toNat ≤ 10 ^ 18 := Nat.pow_le_pow_right (by decide) (by omega)
                  exact_mod_cast this
                omega
              have hnz : x16 = 0 ∨ 0 < x16 := by have := HX.out; omega
              have f1 : IntKind.u64.wrap (m * 10) = m * 10 := by
                show Int.emod _ _ = _
                exact Int.emod_eq_of_lt (by have := HM.out; omega) (by show _ < (18446744073709551616 : Int); omega)
              have f2 : IntKind.u8.wrap (c - 48) = c - 48 := by
                show Int.emod _ _ = _
                exact Int.emod_eq_of_lt (by omega) (by show _ < (256 : Int); omega)
              have f3 : IntKind.u64.wrap (c - 48) = c - 48 := by
                show Int.emod _ _ = _
                exact Int.emod_eq_of_lt (by omega) (by show _ < (18446744073709551616 : Int); omega)
              have f4 : IntKind.u64.wrap (m * 10 + (c - 48)) = m * 10 + (c - 48) := by
                show Int.emod _ _ = _
                exact Int.emod_eq_of_lt (by have := HM.out; omega) (by show _ < (18446744073709551616 : Int); omega)
              have HM' : Aside0 (0 ≤ m * 10 + (c - 48) ∧ m * 10 + (c - 48) < 10 ^ (x16 + 1).toNat) := ⟨by
                have h1 := HM.out
                rw [show (x16 + 1).toNat = x16.toNat + 1 by have := HX.out; omega, Int.pow_succ]
                omega⟩
              have HLO' : Aside0 (1 ≤ x16 + 1 → 10 ^ (x16 + 1 - 1).toNat ≤ m * 10 + (c - 48)) := ⟨fun _ => by
                rcases hnz with h0 | h0
                · rw [h0]; have := HM.out; have := hcc; simp; omega
                · have h1 := HLO.out (by omega)
                  rw [show (x16 + 1 - 1).toNat = (x16 - 1).toNat + 1 by omega, Int.pow_succ]
                  omega⟩
              have HC := Aside0.mk hcc
              have G := Aside0.mk g
              clear hcc hc0 hm19 g hnz
              go_wp2
              go_roundg g1
              case measure => omega
              case rel => exact ⟨m * 10 + (c - 48), x16 + 1, x16 + 1, tr, rfl, rfl, by first | rfl | rw [w1], rfl, rfl, by have := HX.out; rw [decide_eq_true (show 0 < x16 + 1 by omega)], by first | rfl | rw [w1], by first | rfl | rw [w1], rfl, ⟨by have := HX.out; omega⟩, ⟨by have := HX.out; have := G.out; split <;> omega⟩, HM', ⟨fun _ => HTR.out (by omega)⟩, HLO', rfl⟩
            · have e16 : x16 = 19 := by rw [H16.out, if_neg g]
              subst e16
              have G := Aside0.mk g
              clear hcc hc0 g
              go_wp2
              go_roundg g1
              case measure => omega
              case rel => exact ⟨m, x7 + 1, 19, true, rfl, rfl, by first | rfl | rw [w1], rfl, rfl, by have := HX.out; rw [decide_eq_true (show 0 < x7 + 1 by omega)], by first | rfl | rw [w1], rfl, rfl, ⟨by have := HX.out; omega⟩, ⟨by have := G.out; rw [if_neg (by omega)]⟩, HM, ⟨fun h => by have := G.out; omega⟩, HLO, rfl⟩
        · have hltb : decide (x7 < (s.size : Int)) = false := decide_eq_false hlt
          have hxs : x7 = s.size := by have := HX.out; omega
          have hx16 : 0 ≤ x7 - x16 ∧ x7 - x16 ≤ 1 := by
            have := HX.out
            have := H16.out
            split at this <;> omega
          have hmm : 0 ≤ m ∧ m < 10000000000000000000 := by
            refine ⟨HM.out.1, ?_⟩
            have h1 := HM.out.2
            have h2 : (10 : Int) ^ x16.toNat ≤ 10 ^ 19 := by
              have : (10 : Nat) ^ x16.toNat ≤ 10 ^ 19 := Nat.pow_le_pow_right (by decide) (by have := HX.out; have := H16.out; split at this <;> omega)
              exact_mod_cast this
            omega
          have hlo : x7 - x16 = 1 → 1000000000000000000 ≤ m := by
            intro h
            have h16 : x16 = 19 := by have h2 := H16.out; have := HX.out; split at h2 <;> omega
            have h1 := HLO.out (by omega)
            rw [h16] at h1
            simpa using h1
          have HLL := Aside0.mk hlo
          have hpos : decide (0 < x7) = true := decide_eq_true (by have := HX.out; omega)
          have hw : wrap64 (x7 - x16) = x7 - x16 := by unfold wrap64; omega
          have HXX := Aside0.mk hx16
          have HMM := Aside0.mk hmm
          clear hx16 hmm hlo
          by_cases m0 : m = 0
          · have mb : (m != 0) = false := bne_eq_false_iff_eq.mpr m0
            go_wp2
            refine bodyPost_ret (v := .tuple #[.int .u64 m, .int .i64 0, .bool false, .bool tr, .bool false, .int .i64 s.size, .bool true]) ?_ rfl ⟨⟨m, 0, tr, rfl, HMM.out.1, HMM.out.2, by omega, by omega, by omega⟩, rfl⟩
            simp [results, go_sem]
            exact m0.symm
          · have mb : (m != 0) = true := bne_iff_ne.mpr m0
            go_wp2
            refine bodyPost_ret (v := .tuple #[.int .u64 m, .int .i64 (x7 - x16), .bool false, .bool tr, .bool false, .int .i64 s.size, .bool true]) ?_ rfl ⟨⟨m, x7 - x16, tr, rfl, HMM.out.1, HMM.out.2, HXX.out.1, HXX.out.2, HLL.out⟩, rfl⟩
            simp [results, go_sem]
            rw [← hxs, hw]
end Go.Proofs.YtnpkocpknmhngaaDoor.Pf
namespace Go.Proofs.YtnpkocpknmhngaaDoor.Pf
open Go.RowKit Go.Lib Go.Proofs.YtnpkocpknmhngaaDoorW.PrintWords Go.Proofs.YtnpkocpknmhngaaDoorW.PrintLast
theorem from_bits (n : Int) (w : World) : (callFunc 57 #[.int .u64 n]).run Tryd.prog w = .ok (.value (.float .f64 n.toNat)) w := by
  rw [run_callFunc_extern (e := Extern.MathFloatBits.float64frombits) Tryd.func57 (by kernel_rfl) (by kernel_rfl) (by kernel_rfl) (by kernel_rfl) _ w]
  rfl
set_option maxRecDepth 100000 in
set_option maxHeartbeats 1000000 in
theorem pack_small (m e : Int) (he : e < 900) (he2 : -2000 ≤ e) (w : World) :
    Calls Tryd.prog 72 #[.int .u64 m, .int .i64 e] w fun r w' => (∃ x, r = .returned (.tuple #[.float .f64 x, .nilIface])) ∧ w' = w := by
  have hfb := from_bits
  have hb : decide (972 ≤ e) = false := decide_eq_false (by omega)
  by_cases g : bits .and .u64 m 4503599627370496 = 0
  · have gb : (bits .and .u64 m 4503599627370496 == 0) = true := beq_iff_eq.mpr g
    go_enter Tryd.func72, Tryd.ntmps72
    go_wp2
    go_ret2
    exact ⟨⟨_, rfl⟩, rfl⟩
  · have gb : (bits .and .u64 m 4503599627370496 == 0) = false := beq_eq_false_iff_ne.mpr g
    go_enter Tryd.func72, Tryd.ntmps72
    go_wp2
    go_ret2
    exact ⟨⟨_, rfl⟩, rfl⟩
end Go.Proofs.YtnpkocpknmhngaaDoor.Pf
namespace Go.Proofs.YtnpkocpknmhngaaDoor.Pf
open Go.RowKit Go.Lib Go.Proofs.YtnpkocpknmhngaaDoorW.PrintWords Go.Proofs.YtnpkocpknmhngaaDoorW.PrintLast
/-- A float and a bool are told. -/
def FloatBool (r : Ending) : Prop := ∃ (x : Nat) (b : Bool), r = .returned (.tuple #[.float .f64 x, .bool b])
set_option maxRecDepth 100000 in
set_option maxHeartbeats 1000000 in
theorem exact_any (m e : Int) (h0 : 0 ≤ m) (he : e = 0 ∨ 4503599627370496 ≤ m) (w : World) (h7 : w.cell? ⟨7, 0, none⟩ = some (.int .u64 52)) :
    Calls Tryd.prog 58 #[.int .u64 m, .int .i64 e, .bool false] w fun r w' => FloatBool r ∧ Drawn0 w w' := by
  by_cases g : m / 4503599627370496 = 0
  · have gb : (m / 4503599627370496 != 0) = false := bne_eq_false_iff_eq.mpr g
    have e0 : e = 0 := by omega
    subst e0
    have hcv : ∀ w, (convert 22 39 (.int .u64 m)).run Tryd.prog w = _ := fun w => run_convert_int_float w 22 39 .u64 .f64 m (by kernel_rfl) Tryd.underlying39
    go_enter Tryd.func58, Tryd.ntmps58
    go_wp2
    go_ret2
    exact ⟨⟨_, _, rfl⟩, Drawn0.refl _⟩
  · have gb : (m / 4503599627370496 != 0) = true := bne_iff_ne.mpr g
    go_enter Tryd.func58, Tryd.ntmps58
    go_wp2
    go_ret2
    exact ⟨⟨_, _, rfl⟩, Drawn0.refl _⟩
end Go.Proofs.YtnpkocpknmhngaaDoor.Pf
namespace Go.Proofs.YtnpkocpknmhngaaDoor.Pf
open Go.RowKit Go.Lib Go.Proofs.YtnpkocpknmhngaaDoorW.PrintWords Go.Proofs.YtnpkocpknmhngaaDoorW.PrintLast Go.Proofs.YtnpkocpknmhngaaDoor.PPf
set_option maxRecDepth 100000 in
set_option maxHeartbeats 2000000 in
theorem pre_any (g : Nat) (e lp p hi lo : Int) (he : -4000 ≤ e ∧ e ≤ 4000) (hl : -4000 ≤ lp ∧ lp ≤ 4000) (hp : p = 0 ∨ p = 1) (w0 w : World) (hg : 11 ≠ g) (hI : IsS114 w0 w g 0 0 0)
    (h0 : w.cell? ⟨11, 2 * (p + 348).toNat, none⟩ = some (.int .u64 hi)) (h1 : w.cell? ⟨11, 2 * (p + 348).toNat + 1, none⟩ = some (.int .u64 lo)) (hB : Below w0.heap.size w0 w) :
    Calls Tryd.prog 65 #[.pointer (some ⟨g, 0, none⟩), .int .i64 e, .int .i64 p, .int .i64 lp] w fun r w' => r = .returned (.tuple #[]) ∧ IsS114 w0 w' g hi lo (-(e + lp + 3)) ∧ Below w0.heap.size w0 w' := by
  have hu114 := Tryd.underlying114
  have hu129 := Tryd.underlying129
  have HI := Aside0.mk hI
  have HB := Aside0.mk hB
  have hg' : ¬ (11 = g) := hg
  have hg2 : ¬ (g = 11) := fun h => hg h.symm
  have c0 : w.cell? ⟨g, 0, none⟩ = some (.int .u64 0) := by simp [World.cell?, hI.1]
  have c1 : w.cell? ⟨g, 1, none⟩ = some (.int .u64 0) := by simp [World.cell?, hI.1]
  have c2 : w.cell? ⟨g, 2, none⟩ = some (.int .i64 0) := by simp [World.cell?, hI.1]
  have z0 : w.frozen? ⟨g, 0, none⟩ = false := by simp [World.frozen?, hI.1]
  have z1 : w.frozen? ⟨g, 1, none⟩ = false := by simp [World.frozen?, hI.1]
  have z2 : w.frozen? ⟨g, 2, none⟩ = false := by simp [World.frozen?, hI.1]
  clear hI hB hg
  rcases hp with rfl | rfl
  · have k0 : w.cell? ⟨11, 696, none⟩ = some (.int .u64 hi) := h0
    have k1 : w.cell? ⟨11, 697, none⟩ = some (.int .u64 lo) := h1
    clear h0 h1
    go_enter Tryd.func65, Tryd.ntmps65
    go_wp2
    go_end0
    exact ⟨rfl, ((HI.out.set_0 hi).set_1 lo).set_2 _, ((HB.out.setCell HI.out.2 _).setCell HI.out.2 _).setCell HI.out.2 _⟩
  · have k0 : w.cell? ⟨11, 698, none⟩ = some (.int .u64 hi) := h0
    have k1 : w.cell? ⟨11, 699, none⟩ = some (.int .u64 lo) := h1
    clear h0 h1
    go_enter Tryd.func65, Tryd.ntmps65
    go_wp2
    go_end0
    exact ⟨rfl, ((HI.out.set_0 hi).set_1 lo).set_2 _, ((HB.out.setCell HI.out.2 _).setCell HI.out.2 _).setCell HI.out.2 _⟩
end Go.Proofs.YtnpkocpknmhngaaDoor.Pf
namespace Go.Proofs.YtnpkocpknmhngaaDoor.Pf
open Go.RowKit Go.Lib Go.Proofs.YtnpkocpknmhngaaDoorW.PrintWords Go.Proofs.YtnpkocpknmhngaaDoorW.PrintLast Go.Proofs.YtnpkocpknmhngaaDoor.PPf
def FloatNil (r : Ending) : Prop := ∃ x : Nat, r = .returned (.tuple #[.float .f64 x, .nilIface])
theorem bool2_int (b : Bool) (w : World) : Calls Tryd.prog 31 #[.bool b] w fun r w' => (∃ s : Int, (0 ≤ s ∧ s ≤ 1) ∧ r = .returned (.int .i64 s)) ∧ w' = w := by
  cases b
  · go_enter Tryd.func31, Tryd.ntmps31
    go_wp2
    go_ret
    exact ⟨⟨0, by omega, rfl⟩, rfl⟩
  · go_enter Tryd.func31, Tryd.ntmps31
    go_wp2
    go_ret
    exact ⟨⟨1, by omega, rfl⟩, rfl⟩
theorem bool2_u (b : Bool) : ∃ r, strconv_bool2_uint64.f b = some r := by cases b <;> simp [strconv_bool2_uint64.f]
theorem mul_ex (a b : Int) : ∃ r : Int × Int, bits_Mul64.f a b = some r := ⟨_, rfl⟩
theorem uscale_ex (a hi lo : Int) : ∃ r, strconv_uscale.f a hi lo 8 = some (r, hi, lo, 8) := by
  have e8 : (Go.bits .and .i64 8 63) = 8 := by decide
  obtain ⟨m1, h1⟩ := mul_ex a hi
  obtain ⟨m2, h2⟩ := mul_ex a lo
  obtain ⟨x1, e1⟩ := bool2_u (decide (m1.2 < m2.1))
  obtain ⟨x2, e2⟩ := bool2_u (decide ((IntKind.u64.wrap (m1.2 - m2.1)) > 1))
  simp only [strconv_uscale.f, h1, h2, e1, e2, e8, Option.bind_some]
  rw [if_pos (by decide)]
  split
  · exact ⟨_, rfl⟩
  · exact ⟨_, rfl⟩
set_option maxRecDepth 100000 in
set_option maxHeartbeats 4000000 in
theorem parse_any (d p lp b hi lo : Int) (hd : 1 ≤ d ∧ d ≤ 18446744073709551615) (hb : 1 ≤ b ∧ b ≤ 64) (w : World)
    (hlen : ∀ w : World, Calls Tryd.prog 30 #[.int .u64 d] w fun r w' => r = .returned (.int .i64 b) ∧ Drawn0 w w') (hp : p = 0 ∧ lp = 0 ∨ p = 1 ∧ lp = 3)
    (h0 : w.cell? ⟨11, 2 * (p + 348).toNat, none⟩ = some (.int .u64 hi)) (h1 : w.cell? ⟨11, 2 * (p + 348).toNat + 1, none⟩ = some (.int .u64 lo)) :
    Calls Tryd.prog 59 #[.int .u64 d, .int .i64 p, .int .u64 0] w fun r w' => FloatNil r ∧ Below w.heap.size w w' := by
  have HL := Aside0.mk hlen
  have hg : strconv_log2Pow10.f p = some lp := by rcases hp with ⟨rfl, rfl⟩ | ⟨rfl, rfl⟩ <;> simp [strconv_log2Pow10.f, wrap64]
  have HG := Aside0.mk hg
  have HP := Aside0.mk hp
  have hl0 : 0 ≤ lp := by omega
  have hl1 : lp ≤ 3 := by omega
  have HD := Aside0.mk hd
  have HBB := Aside0.mk hb
  have K0 := Aside0.mk h0
  have K1 := Aside0.mk h1
  have hU : strconv_unmin.f 9007199254740992 = some 36028797018963966 := by decide
  clear h0 h1 hg hp
  clear hlen
  go_enter Tryd.func59, Tryd.ntmps59
  go_wp2_with (first | (go_at_call 30; refine (HL.out _).mono ?_; rintro e w1 ⟨rfl, ⟨n1, rfl⟩⟩) | (go_at_call 64; refine (strconv_log2Pow10.calls p lp _ HG.out).mono ?_; rintro e w1 ⟨rfl, ⟨n2, rfl⟩⟩) | (go_at_call 65; go_loud (refine (pre_any w.heap.size _ lp p hi lo (by have := HBB.out; omega) (by omega) (by rcases HP.out with h | h; exact .inl h.1; exact .inr h.1) (w.drewN (n1 + n2)) _ ?hne ?hI ?k0 ?k1 ?hB).mono ?_; (case hne => have := (World.block_lt_of_cell? _ _ K0.out); exact fun h => by simp at this; omega); (case hI => exact ⟨by (show (w.heap.push _)[w.heap.size]? = _; rw [Array.getElem?_push, if_pos rfl]), Nat.le_refl _⟩); (case k0 => exact (World.cell?_alloc_past _ _ _ (by have := (World.block_lt_of_cell? _ _ K0.out); simpa using this)).trans K0.out); (case k1 => exact (World.cell?_alloc_past _ _ _ (by have := (World.block_lt_of_cell? _ _ K0.out); simpa using this)).trans K1.out); (case hB => exact Below.alloc (Below.refl _ _) (Nat.le_refl _) _); rintro e w3 ⟨rfl, HI3, HB3⟩; rw [show -(53 - b - lp - (64 - b) + lp + 3) = 8 by omega] at HI3; have c8 : w3.cell? ⟨w.heap.size, 2, none⟩ = some (.int .i64 8) := (by simp [World.cell?, HI3.1]); have HI4 := Aside0.mk HI3; have HB4 := Aside0.mk HB3; clear HI3 HB3)) | (go_at_call 66; go_loud (obtain ⟨u, hu⟩ := uscale_ex (IntKind.u64.wrap (d * 2 ^ (64 - b).toNat)) hi lo; refine (strconv_uscale.calls _ w.heap.size hi lo 8 u hi lo 8 (w.drewN (n1 + n2)) w3 HI4.out HB4.out hu).mono ?_; rintro e w4 ⟨rfl, -, HB5, -⟩; have HB6 := Aside0.mk HB5; clear HB5)) | (go_at_call 67; refine (strconv_unmin.calls _ 36028797018963966 _ hU).mono ?_; rintro e w5 ⟨rfl, ⟨n5, rfl⟩⟩) | (go_at_call 31; refine (bool2_int _ _).mono ?_; rintro e w5 ⟨⟨s, ⟨hs0, hs1⟩, rfl⟩, rfl⟩) | (go_at_call 69; refine (strconv_unrounded_round.calls _ _ _ rfl).mono ?_; rintro e w6 ⟨rfl, ⟨n6, rfl⟩⟩) | (go_at_call 72; refine (pack_small _ _ (by have := HBB.out; omega) (by have := HBB.out; omega) _).mono ?_; rintro e w7 ⟨⟨x, rfl⟩, rfl⟩))
  go_ret2
  exact ⟨⟨_, rfl⟩, ⟨HB6.out.os, HB6.out.tape, HB6.out.output, HB6.out.size, HB6.out.block⟩⟩
end Go.Proofs.YtnpkocpknmhngaaDoor.Pf
