/- Which row of RelTime's table a length meets; what its text is filled to. Printed by wip/genrel2.py. -/
import Derived.Test.YtmdgbbiipjmenaaDoorLong
namespace Go.Proofs.YtmdgbbiipjmenaaDoor.RelRow
open Go.RowKit Go.Lib Go.Proofs.YtmdgbbiipjmenaaDoor.PAll Go.Proofs.YtmdgbbiipjmenaaDoorW.PrintWords Go.Proofs.YtmdgbbiipjmenaaDoor.PlainDec Go.Proofs.YtmdgbbiipjmenaaDoor.Rel Go.Proofs.YtmdgbbiipjmenaaDoor.RelPlain Go.Proofs.YtmdgbbiipjmenaaDoor.Long
theorem zs_ok (P : Int → Bool) (r : Int) : ∀ (d k : Nat) (i j : Int), i ≤ r → r ≤ j → j - i ≤ d → d < k → (∀ x, i ≤ x → x < r → P x = false) → (∀ x, r ≤ x → x < j → P x = true) → zs P k i j = some r := by
  intro d
  induction d with
  | zero =>
    intro k i j h1 h2 h3 h4 _ _
    obtain ⟨k, rfl⟩ : ∃ q, k = q + 1 := ⟨k - 1, by omega⟩
    rw [zs, if_neg (by omega)]
    congr 1
    omega
  | succ d ih =>
    intro k i j h1 h2 h3 h4 hf ht
    obtain ⟨k, rfl⟩ : ∃ q, k = q + 1 := ⟨k - 1, by omega⟩
    rw [zs]
    by_cases c : i < j
    · rw [if_pos c]
      by_cases g : (i + j) / 2 < r
      · rw [hf _ (by omega) g, if_neg (by simp)]
        exact ih k _ _ (by omega) (by omega) (by omega) (by omega) (fun x a b => hf x (by omega) b) (fun x a b => ht x a b)
      · rw [ht _ (by omega) (by omega), if_pos rfl]
        exact ih k _ _ (by omega) (by omega) (by omega) (by omega) (fun x a b => hf x a b) (fun x a b => ht x a (by omega))
    · rw [if_neg c]
      congr 1
      omega
def mags : List S47 := [⟨1000000000, ⟨#[110, 111, 119]⟩, 1000000000⟩, ⟨2000000000, ⟨#[49, 32, 115, 101, 99, 111, 110, 100, 32, 37, 115]⟩, 1⟩, ⟨60000000000, ⟨#[37, 100, 32, 115, 101, 99, 111, 110, 100, 115, 32, 37, 115]⟩, 1000000000⟩, ⟨120000000000, ⟨#[49, 32, 109, 105, 110, 117, 116, 101, 32, 37, 115]⟩, 1⟩, ⟨3600000000000, ⟨#[37, 100, 32, 109, 105, 110, 117, 116, 101, 115, 32, 37, 115]⟩, 60000000000⟩, ⟨7200000000000, ⟨#[49, 32, 104, 111, 117, 114, 32, 37, 115]⟩, 1⟩, ⟨86400000000000, ⟨#[37, 100, 32, 104, 111, 117, 114, 115, 32, 37, 115]⟩, 3600000000000⟩, ⟨172800000000000, ⟨#[49, 32, 100, 97, 121, 32, 37, 115]⟩, 1⟩, ⟨604800000000000, ⟨#[37, 100, 32, 100, 97, 121, 115, 32, 37, 115]⟩, 86400000000000⟩, ⟨1209600000000000, ⟨#[49, 32, 119, 101, 101, 107, 32, 37, 115]⟩, 1⟩, ⟨2592000000000000, ⟨#[37, 100, 32, 119, 101, 101, 107, 115, 32, 37, 115]⟩, 604800000000000⟩, ⟨5184000000000000, ⟨#[49, 32, 109, 111, 110, 116, 104, 32, 37, 115]⟩, 1⟩, ⟨31104000000000000, ⟨#[37, 100, 32, 109, 111, 110, 116, 104, 115, 32, 37, 115]⟩, 2592000000000000⟩, ⟨46656000000000000, ⟨#[49, 32, 121, 101, 97, 114, 32, 37, 115]⟩, 1⟩, ⟨62208000000000000, ⟨#[50, 32, 121, 101, 97, 114, 115, 32, 37, 115]⟩, 1⟩, ⟨1150848000000000000, ⟨#[37, 100, 32, 121, 101, 97, 114, 115, 32, 37, 115]⟩, 31104000000000000⟩, ⟨9223372036854775807, ⟨#[97, 32, 108, 111, 110, 103, 32, 119, 104, 105, 108, 101, 32, 37, 115]⟩, 1⟩]
theorem mags_f : humanize_defaultMagnitudes.f = some mags := rfl
def Dl : List Int := [1000000000, 2000000000, 60000000000, 120000000000, 3600000000000, 7200000000000, 86400000000000, 172800000000000, 604800000000000, 1209600000000000, 2592000000000000, 5184000000000000, 31104000000000000, 46656000000000000, 62208000000000000, 1150848000000000000, 9223372036854775807]
theorem mags_D : ∀ x : Nat, x < 17 → (rd_T47 mags (x : Int)).f0 = Dl.getD x 0 := by decide
theorem Dl_mono : ∀ b : Nat, b < 17 → ∀ a : Nat, a ≤ b → Dl.getD a 0 ≤ Dl.getD b 0 := by decide
theorem pick (df : Int) (r : Nat) (hr : r ≤ 17) (h1 : r = 0 ∨ Dl.getD (r - 1) 0 ≤ df) (h2 : r = 17 ∨ df < Dl.getD r 0) : zs (fun i => decide ((rd_T47 mags i).f0 > df)) 2000 0 17 = some (r : Int) := by
  refine zs_ok _ _ 17 2000 0 17 (by omega) (by omega) (by omega) (by omega) ?_ ?_
  · intro x a b
    obtain ⟨y, rfl⟩ : ∃ y : Nat, x = y := ⟨x.toNat, by omega⟩
    rw [mags_D y (by omega)]
    have := Dl_mono (r - 1) (by omega) y (by omega)
    exact decide_eq_false (by omega)
  · intro x a b
    obtain ⟨y, rfl⟩ : ∃ y : Nat, x = y := ⟨x.toNat, by omega⟩
    rw [mags_D y (by omega)]
    have := Dl_mono y (by omega) r (by omega)
    exact decide_eq_true (by omega)
/-- What the loop fills, trailing blanks and all. -/
theorem row_of (df : Int) (h0 : 0 ≤ df) (h1 : df ≤ 9223372036854775807) (lb : List UInt8) :
    ∃ (r q dv : Int) (l : List UInt8), zs (fun i => decide ((rd_T47 mags i).f0 > df)) 2000 0 17 = some r ∧ q = (if (17 : Int) ≤ r then 17 - 1 else r) ∧ 0 ≤ q ∧ q < 17 ∧ (rd_T47 mags q).f1 = ⟨l.toArray⟩ ∧ (∀ b ∈ l, b.toNat < 128) ∧ (rd_T47 mags q).f2 = dv ∧ 0 < dv ∧
      fillL lb (itoa (df.tdiv dv)) false l = longL df lb ∧ l.length ≤ 20 := by
  unfold longL
  by_cases g0 : df < 1000000000
  · rw [if_pos g0]
    refine ⟨0, 0, 1000000000, [110, 111, 119], pick df 0 (by omega) (.inl rfl) (.inr (by show df < (1000000000 : Int); omega)), by decide, by decide, by decide, rfl, by decide, rfl, by decide, ?_, by decide⟩
    simp [fillL]
  rw [if_neg g0]
  by_cases g1 : df < 2000000000
  · rw [if_pos g1]
    refine ⟨1, 1, 1, [49, 32, 115, 101, 99, 111, 110, 100, 32, 37, 115], pick df 1 (by omega) (.inr (by show (1000000000 : Int) ≤ df; omega)) (.inr (by show df < (2000000000 : Int); omega)), by decide, by decide, by decide, rfl, by decide, rfl, by decide, ?_, by decide⟩
    simp [fillL]
  rw [if_neg g1]
  by_cases g2 : df < 60000000000
  · rw [if_pos g2]
    refine ⟨2, 2, 1000000000, [37, 100, 32, 115, 101, 99, 111, 110, 100, 115, 32, 37, 115], pick df 2 (by omega) (.inr (by show (2000000000 : Int) ≤ df; omega)) (.inr (by show df < (60000000000 : Int); omega)), by decide, by decide, by decide, rfl, by decide, rfl, by decide, ?_, by decide⟩
    simp [fillL]
  rw [if_neg g2]
  by_cases g3 : df < 120000000000
  · rw [if_pos g3]
    refine ⟨3, 3, 1, [49, 32, 109, 105, 110, 117, 116, 101, 32, 37, 115], pick df 3 (by omega) (.inr (by show (60000000000 : Int) ≤ df; omega)) (.inr (by show df < (120000000000 : Int); omega)), by decide, by decide, by decide, rfl, by decide, rfl, by decide, ?_, by decide⟩
    simp [fillL]
  rw [if_neg g3]
  by_cases g4 : df < 3600000000000
  · rw [if_pos g4]
    refine ⟨4, 4, 60000000000, [37, 100, 32, 109, 105, 110, 117, 116, 101, 115, 32, 37, 115], pick df 4 (by omega) (.inr (by show (120000000000 : Int) ≤ df; omega)) (.inr (by show df < (3600000000000 : Int); omega)), by decide, by decide, by decide, rfl, by decide, rfl, by decide, ?_, by decide⟩
    simp [fillL]
  rw [if_neg g4]
  by_cases g5 : df < 7200000000000
  · rw [if_pos g5]
    refine ⟨5, 5, 1, [49, 32, 104, 111, 117, 114, 32, 37, 115], pick df 5 (by omega) (.inr (by show (3600000000000 : Int) ≤ df; omega)) (.inr (by show df < (7200000000000 : Int); omega)), by decide, by decide, by decide, rfl, by decide, rfl, by decide, ?_, by decide⟩
    simp [fillL]
  rw [if_neg g5]
  by_cases g6 : df < 86400000000000
  · rw [if_pos g6]
    refine ⟨6, 6, 3600000000000, [37, 100, 32, 104, 111, 117, 114, 115, 32, 37, 115], pick df 6 (by omega) (.inr (by show (7200000000000 : Int) ≤ df; omega)) (.inr (by show df < (86400000000000 : Int); omega)), by decide, by decide, by decide, rfl, by decide, rfl, by decide, ?_, by decide⟩
    simp [fillL]
  rw [if_neg g6]
  by_cases g7 : df < 172800000000000
  · rw [if_pos g7]
    refine ⟨7, 7, 1, [49, 32, 100, 97, 121, 32, 37, 115], pick df 7 (by omega) (.inr (by show (86400000000000 : Int) ≤ df; omega)) (.inr (by show df < (172800000000000 : Int); omega)), by decide, by decide, by decide, rfl, by decide, rfl, by decide, ?_, by decide⟩
    simp [fillL]
  rw [if_neg g7]
  by_cases g8 : df < 604800000000000
  · rw [if_pos g8]
    refine ⟨8, 8, 86400000000000, [37, 100, 32, 100, 97, 121, 115, 32, 37, 115], pick df 8 (by omega) (.inr (by show (172800000000000 : Int) ≤ df; omega)) (.inr (by show df < (604800000000000 : Int); omega)), by decide, by decide, by decide, rfl, by decide, rfl, by decide, ?_, by decide⟩
    simp [fillL]
  rw [if_neg g8]
  by_cases g9 : df < 1209600000000000
  · rw [if_pos g9]
    refine ⟨9, 9, 1, [49, 32, 119, 101, 101, 107, 32, 37, 115], pick df 9 (by omega) (.inr (by show (604800000000000 : Int) ≤ df; omega)) (.inr (by show df < (1209600000000000 : Int); omega)), by decide, by decide, by decide, rfl, by decide, rfl, by decide, ?_, by decide⟩
    simp [fillL]
  rw [if_neg g9]
  by_cases g10 : df < 2592000000000000
  · rw [if_pos g10]
    refine ⟨10, 10, 604800000000000, [37, 100, 32, 119, 101, 101, 107, 115, 32, 37, 115], pick df 10 (by omega) (.inr (by show (1209600000000000 : Int) ≤ df; omega)) (.inr (by show df < (2592000000000000 : Int); omega)), by decide, by decide, by decide, rfl, by decide, rfl, by decide, ?_, by decide⟩
    simp [fillL]
  rw [if_neg g10]
  by_cases g11 : df < 5184000000000000
  · rw [if_pos g11]
    refine ⟨11, 11, 1, [49, 32, 109, 111, 110, 116, 104, 32, 37, 115], pick df 11 (by omega) (.inr (by show (2592000000000000 : Int) ≤ df; omega)) (.inr (by show df < (5184000000000000 : Int); omega)), by decide, by decide, by decide, rfl, by decide, rfl, by decide, ?_, by decide⟩
    simp [fillL]
  rw [if_neg g11]
  by_cases g12 : df < 31104000000000000
  · rw [if_pos g12]
    refine ⟨12, 12, 2592000000000000, [37, 100, 32, 109, 111, 110, 116, 104, 115, 32, 37, 115], pick df 12 (by omega) (.inr (by show (5184000000000000 : Int) ≤ df; omega)) (.inr (by show df < (31104000000000000 : Int); omega)), by decide, by decide, by decide, rfl, by decide, rfl, by decide, ?_, by decide⟩
    simp [fillL]
  rw [if_neg g12]
  by_cases g13 : df < 46656000000000000
  · rw [if_pos g13]
    refine ⟨13, 13, 1, [49, 32, 121, 101, 97, 114, 32, 37, 115], pick df 13 (by omega) (.inr (by show (31104000000000000 : Int) ≤ df; omega)) (.inr (by show df < (46656000000000000 : Int); omega)), by decide, by decide, by decide, rfl, by decide, rfl, by decide, ?_, by decide⟩
    simp [fillL]
  rw [if_neg g13]
  by_cases g14 : df < 62208000000000000
  · rw [if_pos g14]
    refine ⟨14, 14, 1, [50, 32, 121, 101, 97, 114, 115, 32, 37, 115], pick df 14 (by omega) (.inr (by show (46656000000000000 : Int) ≤ df; omega)) (.inr (by show df < (62208000000000000 : Int); omega)), by decide, by decide, by decide, rfl, by decide, rfl, by decide, ?_, by decide⟩
    simp [fillL]
  rw [if_neg g14]
  by_cases g15 : df < 1150848000000000000
  · rw [if_pos g15]
    refine ⟨15, 15, 31104000000000000, [37, 100, 32, 121, 101, 97, 114, 115, 32, 37, 115], pick df 15 (by omega) (.inr (by show (62208000000000000 : Int) ≤ df; omega)) (.inr (by show df < (1150848000000000000 : Int); omega)), by decide, by decide, by decide, rfl, by decide, rfl, by decide, ?_, by decide⟩
    simp [fillL]
  rw [if_neg g15]
  by_cases g16 : df < 9223372036854775807
  · refine ⟨16, 16, 1, [97, 32, 108, 111, 110, 103, 32, 119, 104, 105, 108, 101, 32, 37, 115], pick df 16 (by omega) (.inr (by show (1150848000000000000 : Int) ≤ df; omega)) (.inr (by show df < (9223372036854775807 : Int); omega)), by decide, by decide, by decide, rfl, by decide, rfl, by decide, ?_, by decide⟩
    simp [fillL]
  · refine ⟨17, 16, 1, [97, 32, 108, 111, 110, 103, 32, 119, 104, 105, 108, 101, 32, 37, 115], pick df 17 (by omega) (.inr (by show (9223372036854775807 : Int) ≤ df; omega)) (.inl rfl), by decide, by decide, by decide, rfl, by decide, rfl, by decide, ?_, by decide⟩
    simp [fillL]
end Go.Proofs.YtmdgbbiipjmenaaDoor.RelRow
