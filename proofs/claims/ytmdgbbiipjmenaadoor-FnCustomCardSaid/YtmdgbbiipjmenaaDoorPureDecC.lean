/- The plain part of whole numbers' texts: the printed functions spec.Decimal, spec.grouped, spec.Comma and humanize.Comma come to the digits with commas behind every three (condition: the number lies in 64 bits). -/
import Derived.Test.YtmdgbbiipjmenaaDoorPCusx2
import Derived.Test.YtmdgbbiipjmenaaDoorPlainDec
namespace Go.Proofs.YtmdgbbiipjmenaaDoor.PureDecC
open Go.RowKit Go.Lib Go.Proofs.YtmdgbbiipjmenaaDoor.PCus Go.Proofs.YtmdgbbiipjmenaaDoorW.PrintWords Go.Proofs.YtmdgbbiipjmenaaDoorW.PrintLast Go.Proofs.YtmdgbbiipjmenaaDoor.PlainDec

/-! spec.Decimal -/
theorem tm (x : Int) : (Int.tmod x 10).natAbs = x.natAbs % 10 := by rw [Int.natAbs_tmod]; rfl
theorem td (x : Int) : (Int.tdiv x 10).natAbs = x.natAbs / 10 := by rw [Int.natAbs_tdiv]; rfl
theorem dec_l0 (x0 : Int) : ∀ (m k : Nat) (x4 : Int) (s : List UInt8), -9223372036854775808 ≤ x4 → x4 ≤ 9223372036854775807 → nDigits x4.natAbs = m → m ≤ k → s.length + m ≤ 100 →
    spec_Decimal.l0 k x0 ⟨s.toArray⟩ x4 = some ⟨(if x0 < 0 then 45 :: (decDigits x4.natAbs ++ s) else decDigits x4.natAbs ++ s).toArray⟩ := by
  intro m
  induction m with
  | zero => intro k x4 s _ _ h; have := nDigits_pos x4.natAbs; omega
  | succ m ih =>
    intro k x4 s h0 h1 hm hk hs
    obtain ⟨k, rfl⟩ : ∃ j, k = j + 1 := ⟨k - 1, by omega⟩
    have hm2 := tm x4
    have hd2 := td x4
    have hn := nD_le (u := x4.natAbs) (by omega)
    have hl : (decDigits (x4.natAbs / 10)).length = nDigits (x4.natAbs / 10) := decDigits_length _
    -- the round, told by its digit
    have key : ∀ D : Int, D = ((x4.natAbs % 10 : Nat) : Int) → ∀ X : ByteArray, X = Utf8.encode (wrap32 (wrap64 (48 + D))) →
        (if X.size + (⟨s.toArray⟩ : ByteArray).size ≤ 9223372036854775807 then (if (wrap64 (Int.tdiv x4 10)) = 0 then (if x0 < 0 then (if 1 + (X ++ ⟨s.toArray⟩).size ≤ 9223372036854775807 then (some ((⟨#[45]⟩ : ByteArray) ++ (X ++ ⟨s.toArray⟩))) else (none)) else (some (X ++ ⟨s.toArray⟩))) else (spec_Decimal.l0 k x0 (X ++ ⟨s.toArray⟩) (wrap64 (Int.tdiv x4 10)))) else (none))
          = some ⟨(if x0 < 0 then 45 :: (decDigits x4.natAbs ++ s) else decDigits x4.natAbs ++ s).toArray⟩ := by
      intro D hD X hX
      have hX2 : X = ⟨[UInt8.ofNat (48 + x4.natAbs % 10)].toArray⟩ := by
        rw [hX, wr _ (by omega) (by omega), wr32 _ (by omega) (by omega), enc_ascii _ (by omega) (by omega), hD]
        rw [show ((48 : Int) + ((x4.natAbs % 10 : Nat) : Int)).toNat = 48 + x4.natAbs % 10 by omega]
      subst hX2
      clear hX
      rw [mk_app, mk_size, mk_size, mk_size, if_pos (by simp; omega), wr _ (by omega) (by omega)]
      by_cases hz : Int.tdiv x4 10 = 0
      · rw [if_pos hz]
        have h10 : x4.natAbs < 10 := by rw [hz] at hd2; simp at hd2; omega
        rw [decDigits_one h10, show x4.natAbs % 10 = x4.natAbs by omega]
        by_cases hx : x0 < 0
        · rw [if_pos hx, if_pos hx, if_pos (by simp; omega)]
          rw [show (⟨#[45]⟩ : ByteArray) = ⟨[(45 : UInt8)].toArray⟩ from rfl, mk_app]
          rfl
        · rw [if_neg hx, if_neg hx]
      · rw [if_neg hz]
        have h10 : ¬ x4.natAbs < 10 := by
          intro h
          apply hz
          have : (Int.tdiv x4 10).natAbs = 0 := by omega
          omega
        have hmm : nDigits (x4.natAbs / 10) = m := by
          have := nDigits_big h10
          omega
        rw [ih k (Int.tdiv x4 10) _ (by omega) (by omega) (by rw [hd2]; exact hmm) (by omega) (by simp; omega), hd2, dec_big h10]
        simp
    rw [spec_Decimal.l0]
    by_cases hneg : Int.tmod x4 10 < 0
    · rw [if_pos hneg]
      exact key (wrap64 (-(Int.tmod x4 10))) (by rw [wr _ (by omega) (by omega)]; omega) _ rfl
    · rw [if_neg hneg]
      exact key (Int.tmod x4 10) (by omega) _ rfl

theorem decimal_ok (n : Int) (h0 : -9223372036854775808 ≤ n) (h1 : n ≤ 9223372036854775807) (k : Nat) (hk : 20 ≤ k) : spec_Decimal.f k n = some (decB n) := by
  have hn := nD_le (u := n.natAbs) (by omega)
  unfold spec_Decimal.f
  rw [show (⟨#[]⟩ : ByteArray) = ⟨([] : List UInt8).toArray⟩ from rfl, dec_l0 n _ k n [] h0 h1 rfl (by omega) (by simp; omega)]
  unfold decB
  rw [itoa_eq]
  simp

end Go.Proofs.YtmdgbbiipjmenaaDoor.PureDecC
