/- Plain facts on decimal digits and on commas behind every three of them, for every natural number; no program. -/
import Derived.Lib.ItoaLen
import Derived.RowKit
import Derived.Laws.BytesArg
namespace Go.Proofs.YtmdgbbiipjmenaaDoor.PlainDec
open Go.RowKit Go.Lib

theorem wr (i : Int) (h0 : -9223372036854775808 ≤ i) (h1 : i ≤ 9223372036854775807) : wrap64 i = i := by unfold wrap64; omega
theorem wr32 (i : Int) (h0 : -2147483648 ≤ i) (h1 : i ≤ 2147483647) : wrap32 i = i := by unfold wrap32; omega
theorem enc_ascii (r : Int) (h0 : 0 ≤ r) (h1 : r < 128) : Utf8.encode r = ⟨#[UInt8.ofNat r.toNat]⟩ := by
  have hv : Utf8.valid r = true := by unfold Utf8.valid; simp; omega
  unfold Utf8.encode
  simp only [hv, if_true]
  rw [if_pos (by omega)]
theorem nD_le {u : Nat} (h : u ≤ 9223372036854775808) : nDigits u ≤ 20 := nDigits_le20 u (by omega)
theorem dec_big {u : Nat} (h : ¬ u < 10) : decDigits u = decDigits (u / 10) ++ [UInt8.ofNat (48 + u % 10)] := by rw [decDigits, dif_neg h]
theorem dec_ne (u : Nat) : decDigits u ≠ [] := by
  intro h
  have := decDigits_length u
  rw [h] at this
  have := nDigits_pos u
  simp at *
  omega

/-- A comma ahead of each digit that has, with r more behind the list, a multiple of three up to the end. -/
def gt : List UInt8 → Nat → List UInt8
  | [], _ => []
  | c :: t, r => if (t.length + 1 + r) % 3 = 0 then 44 :: c :: gt t r else c :: gt t r
/-- The same, none ahead of the first digit. -/
def grp : List UInt8 → Nat → List UInt8
  | [], _ => []
  | c :: t, r => c :: gt t r
theorem gt_snoc : ∀ (l : List UInt8) (d : UInt8) (r : Nat), gt (l ++ [d]) r = gt l (r + 1) ++ gt [d] r
  | [], d, r => rfl
  | c :: t, d, r => by
    have ih := gt_snoc t d r
    show gt (c :: (t ++ [d])) r = gt (c :: t) (r + 1) ++ gt [d] r
    rw [gt, gt, ih]
    have e : (t ++ [d]).length + 1 + r = t.length + 1 + (r + 1) := by simp; omega
    rw [e]
    split <;> rfl
theorem grp_snoc (l : List UInt8) (h : l ≠ []) (d : UInt8) (r : Nat) : grp (l ++ [d]) r = grp l (r + 1) ++ gt [d] r := by
  cases l with
  | nil => exact absurd rfl h
  | cons c t =>
    show c :: gt (t ++ [d]) r = c :: gt t (r + 1) ++ gt [d] r
    rw [gt_snoc]
    rfl
theorem gt_len : ∀ (l : List UInt8) (r : Nat), (gt l r).length + r / 3 = l.length + (l.length + r) / 3
  | [], r => by simp [gt]
  | c :: t, r => by
    have ih := gt_len t r
    rw [gt]
    split <;> simp only [List.length_cons] <;> omega
theorem grp_len (l : List UInt8) (h : l ≠ []) : (grp l 0).length = l.length + (l.length - 1) / 3 := by
  cases l with
  | nil => exact absurd rfl h
  | cons c t =>
    have := gt_len t 0
    simp only [grp, List.length_cons]
    simp at this
    simp
    omega
theorem grp_step {v : Nat} (h : ¬ v < 10) (r : Nat) : grp (decDigits v) r = grp (decDigits (v / 10)) (r + 1) ++ gt [UInt8.ofNat (48 + v % 10)] r := by
  rw [dec_big h, grp_snoc _ (dec_ne _)]
theorem grp_one {v : Nat} (h : v < 10) (r : Nat) : grp (decDigits v) r = [UInt8.ofNat (48 + v)] := by
  rw [decDigits, dif_pos h]; rfl
/-- A whole number's text with commas. -/
def commaL (n : Int) : List UInt8 := if n < 0 then 45 :: grp (decDigits n.natAbs) 0 else grp (decDigits n.natAbs) 0
def comma (n : Int) : ByteArray := ⟨(commaL n).toArray⟩
def decB (n : Int) : ByteArray := ⟨(itoa n).toArray⟩
theorem itoa_eq (n : Int) : itoa n = if n < 0 then 45 :: decDigits n.natAbs else decDigits n.natAbs := by
  unfold itoa
  split
  · rfl
  · rw [show n.toNat = n.natAbs by omega]
theorem mk_app (a b : List UInt8) : (⟨a.toArray⟩ : ByteArray) ++ ⟨b.toArray⟩ = ⟨(a ++ b).toArray⟩ := by
  apply ByteArray.ext; simp
theorem mk_size (a : List UInt8) : (⟨a.toArray⟩ : ByteArray).size = a.length := by
  show a.toArray.size = _; simp
theorem commaL_len (n : Int) (h0 : -9223372036854775808 ≤ n) (h1 : n ≤ 9223372036854775807) : (commaL n).length ≤ 30 := by
  have h2 := nD_le (u := n.natAbs) (by omega)
  have h3 := grp_len (decDigits n.natAbs) (dec_ne _)
  rw [decDigits_length] at h3
  unfold commaL
  split
  · simp only [List.length_cons]; omega
  · omega
theorem itoa_len (n : Int) (h0 : -9223372036854775808 ≤ n) (h1 : n ≤ 9223372036854775807) : (itoa n).length ≤ 21 := itoa_length_le n h0 h1
/-- The numbers of a text's bytes. -/
def nm (l : List UInt8) : List Int := l.map fun b => (b.toNat : Int)
theorem str_nm (l : List UInt8) : strOfNums (nm l) = ⟨l.toArray⟩ := by
  unfold strOfNums nm
  congr 1
  rw [List.map_map]
  congr 1
  apply List.map_id''
  intro b
  simp
theorem dig_nat (d : Nat) (h : d < 10) : (UInt8.ofNat (48 + d)).toNat = 48 + d := by
  simp [UInt8.toNat_ofNat]
  omega
end Go.Proofs.YtmdgbbiipjmenaaDoor.PlainDec
