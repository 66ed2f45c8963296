/- The law FnOrdinal, walked: for every int it returns true (condition: strconv's table of powers of ten reads as the text lays it). -/
import Derived.Test.YtmdgbbiipjmenaaDoorPureDec
import Derived.Test.YtmdgbbiipjmenaaDoorOrd
namespace Go.Proofs.YtmdgbbiipjmenaaDoor.OrdLaw
open Go.RowKit Go.Lib Go.Proofs.YtmdgbbiipjmenaaDoor.PAll Go.Proofs.YtmdgbbiipjmenaaDoorW.PrintWords Go.Proofs.YtmdgbbiipjmenaaDoorW.PrintLast Go.Proofs.YtmdgbbiipjmenaaDoor.PlainDec Go.Proofs.YtmdgbbiipjmenaaDoor.PureDec Go.Proofs.YtmdgbbiipjmenaaDoor.Ord

theorem th2 : ((⟨#[116, 104]⟩ : ByteArray)).size = 2 := rfl
theorem suf_th (n : Int) (h : n < 0 ∨ (11 ≤ n.tmod 100 ∧ n.tmod 100 ≤ 13)) : suf n = ⟨#[116, 104]⟩ := by
  unfold suf
  have e10 : n < 0 → n.tmod 10 ≤ 0 := fun hn => by
    have := Int.tmod_nonneg 10 (show 0 ≤ -n by omega)
    rw [Int.neg_tmod] at this
    omega
  have e0 : 0 ≤ n → n.tmod 10 = n % 10 := fun hn => Int.tmod_eq_emod_of_nonneg hn
  have e1 : 0 ≤ n → n.tmod 100 = n % 100 := fun hn => Int.tmod_eq_emod_of_nonneg hn
  by_cases c1 : n.tmod 10 = 1
  · rw [if_pos c1, if_pos (by omega)]
  · rw [if_neg c1]
    by_cases c2 : n.tmod 10 = 2
    · rw [if_pos c2, if_pos (by omega)]
    · rw [if_neg c2]
      by_cases c3 : n.tmod 10 = 3
      · rw [if_pos c3, if_pos (by omega)]
      · rw [if_neg c3]
theorem j0_ok (n : Int) (h0 : -9223372036854775808 ≤ n) (h1 : n ≤ 9223372036854775807) (k : Nat) (hk : 30 ≤ k) (b : Bool) (hb : b = decide (0 ≤ n ∧ (n.tmod 100 < 11 ∨ n.tmod 100 > 13))) :
    spec_Ordinal.j0 k n (⟨#[116, 104]⟩ : ByteArray) b = some (decB n ++ suf n) := by
  obtain ⟨k, rfl⟩ : ∃ j, k = j + 1 := ⟨k - 1, by omega⟩
  have hl := itoa_len n h0 h1
  have hz : (decB n).size = (itoa n).length := mk_size _
  have hd := decimal_ok n h0 h1 k (by omega)
  have q : (decB n).size + 2 ≤ 9223372036854775807 := by omega
  unfold spec_Ordinal.j0
  simp only [hd, Option.bind_some, th2]
  by_cases c : b = true
  · rw [if_pos c]
    rw [hb] at c
    have c := of_decide_eq_true c
    unfold suf
    by_cases c1 : n.tmod 10 = 1
    · have g : ¬ n.tmod 100 = 11 := by omega
      rw [if_pos c1, if_pos q, if_pos c1, if_neg g]
    · rw [if_neg c1, if_neg c1]
      by_cases c2 : n.tmod 10 = 2
      · have g : ¬ n.tmod 100 = 12 := by omega
        rw [if_pos c2, if_pos q, if_pos c2, if_neg g]
      · rw [if_neg c2, if_neg c2]
        by_cases c3 : n.tmod 10 = 3
        · have g : ¬ n.tmod 100 = 13 := by omega
          rw [if_pos c3, if_pos q, if_pos c3, if_neg g]
        · rw [if_neg c3, if_neg c3, if_pos q]
  · rw [if_neg c, if_pos q]
    rw [hb] at c
    have c : ¬ (0 ≤ n ∧ (n.tmod 100 < 11 ∨ n.tmod 100 > 13)) := fun h => c (decide_eq_true h)
    rw [suf_th n (by omega)]
theorem specOrdinal_ok (n : Int) (h0 : -9223372036854775808 ≤ n) (h1 : n ≤ 9223372036854775807) (k : Nat) (hk : 31 ≤ k) : spec_Ordinal.f k n = some (decB n ++ suf n) := by
  unfold spec_Ordinal.f
  by_cases hn : n ≥ 0
  · rw [if_pos hn]
    by_cases h11 : n.tmod 100 < 11
    · rw [if_pos h11]
      exact j0_ok n h0 h1 k (by omega) true (by simp; omega)
    · rw [if_neg h11]
      refine j0_ok n h0 h1 k (by omega) _ ?_
      rw [Bool.eq_iff_iff]
      simp only [decide_eq_true_eq]
      omega
  · rw [if_neg hn]
    exact j0_ok n h0 h1 k (by omega) false (by simp; omega)
theorem below_drewN {b : Nat} {w w' : World} (h : Below b w w') (k : Nat) : Below b w (w'.drewN k) := by
  obtain ⟨h1, h2, h3, h4, h5⟩ := h
  exact ⟨h1, h2, h3, h4, h5⟩
set_option maxHeartbeats 1000000 in
theorem law_any (n : Int) (h0 : -9223372036854775808 ≤ n) (h1 : n ≤ 9223372036854775807) (w : World) (htab : Tab w) :
    Calls Tryd.prog 3 #[.int .i64 n] w fun e w' => e = .returned (.bool true) ∧ Below w.heap.size w w' := by
  have HT := Lib.hid htab
  have H0 := Lib.hid h0
  have H1 := Lib.hid h1
  have HS := Lib.hid (specOrdinal_ok n h0 h1 31 (by omega))
  clear htab h0 h1
  go_enter Tryd.func3, Tryd.ntmps3
  go_wp2_with (first | (go_at_call 7; refine (implOrdinal_any n H0.out H1.out _ HT.out).mono ?_; rintro e w1 ⟨rfl, hb⟩) | (go_at_call 8; refine (spec_Ordinal.calls 31 n _ _ HS.out).mono ?_; rintro e w2 ⟨rfl, ⟨nd, rfl⟩⟩))
  go_ret
  refine ⟨congrArg (fun b => Ending.returned (.bool b)) ?_, below_drewN hb nd⟩
  exact beq_self_eq_true (α := List UInt8) (decB n ++ suf n).toList
end Go.Proofs.YtmdgbbiipjmenaaDoor.OrdLaw
