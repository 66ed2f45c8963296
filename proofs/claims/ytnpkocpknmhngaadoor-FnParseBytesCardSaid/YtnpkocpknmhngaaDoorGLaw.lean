/- Plain facts on decimal digits and on commas behind every three of them, for every natural number; no program. The plain part: what the law's texts are, and what the printed functions tell of them. impl.ParseBytes at the law's text. laws.FnParseBytes: true, whatever the input. -/
import Derived.Lib.ItoaLen
import Derived.RowKit
import Derived.Laws.BytesArg
import Derived.Test.YtnpkocpknmhngaaDoorGBytes
import Derived.Lib.ParseIntB
namespace Go.Proofs.YtnpkocpknmhngaaDoor.PlainDec
open Go.RowKit Go.Lib

theorem wr (i : Int) (h0 : -9223372036854775808 ≤ i) (h1 : i ≤ 9223372036854775807) : wrap64 i = i := by unfold wrap64; omega
theorem wr32 (i : Int) (h0 : -2147483648 ≤ i) (h1 : i ≤ 2147483647) : wrap32 i = i := by unfold wrap32; omega
theorem enc_ascii (r : Int) (h0 : 0 ≤ r) (h1 : r < 128) : Utf8.encode r = ⟨#[UInt8.ofNat r.toNat]⟩ := by
  have hv : Utf8.valid r = true := by unfold Utf8.valid; simp; omega
  unfold Utf8.encode
  simp only [hv, if_true]
  rw [if_pos (by omega)]
theorem nD_le {u : Nat} (h : u ≤ 9223372036854775808) : nDigits u ≤ 20 := nDigits_le20 u (by omega)
theorem dec_big {u : Nat} (h : ¬ u < 10) : decDigits u = decDigits (u / 10) ++ [UInt8.ofNat (48 + u % 10)] := by rw [decDigits, dif_neg h]
theorem dec_ne (u : Nat) : decDigits u ≠ [] := by
  intro h
  have := decDigits_length u
  rw [h] at this
  have := nDigits_pos u
  simp at *
  omega

/-- A comma ahead of each digit that has, with r more behind the list, a multiple of three up to the end. -/
def gt : List UInt8 → Nat → List UInt8
  | [], _ => []
  | c :: t, r => if (t.length + 1 + r) % 3 = 0 then 44 :: c :: gt t r else c :: gt t r
/-- The same, none ahead of the first digit. -/
def grp : List UInt8 → Nat → List UInt8
  | [], _ => []
  | c :: t, r => c :: gt t r
theorem gt_snoc : ∀ (l : List UInt8) (d : UInt8) (r : Nat), gt (l ++ [d]) r = gt l (r + 1) ++ gt [d] r
  | [], d, r => rfl
  | c :: t, d, r => by
    have ih := gt_snoc t d r
    show gt (c :: (t ++ [d])) r = gt (c :: t) (r + 1) ++ gt [d] r
    rw [gt, gt, ih]
    have e : (t ++ [d]).length + 1 + r = t.length + 1 + (r + 1) := by simp; omega
    rw [e]
    split <;> rfl
theorem grp_snoc (l : List UInt8) (h : l ≠ []) (d : UInt8) (r : Nat) : grp (l ++ [d]) r = grp l (r + 1) ++ gt [d] r := by
  cases l with
  | nil => exact absurd rfl h
  | cons c t =>
    show c :: gt (t ++ [d]) r = c :: gt t (r + 1) ++ gt [d] r
    rw [gt_snoc]
    rfl
theorem gt_len : ∀ (l : List UInt8) (r : Nat), (gt l r).length + r / 3 = l.length + (l.length + r) / 3
  | [], r => by simp [gt]
  | c :: t, r => by
    have ih := gt_len t r
    rw [gt]
    split <;> simp only [List.length_cons] <;> omega
theorem grp_len (l : List UInt8) (h : l ≠ []) : (grp l 0).length = l.length + (l.length - 1) / 3 := by
  cases l with
  | nil => exact absurd rfl h
  | cons c t =>
    have := gt_len t 0
    simp only [grp, List.length_cons]
    simp at this
    simp
    omega
theorem grp_step {v : Nat} (h : ¬ v < 10) (r : Nat) : grp (decDigits v) r = grp (decDigits (v / 10)) (r + 1) ++ gt [UInt8.ofNat (48 + v % 10)] r := by
  rw [dec_big h, grp_snoc _ (dec_ne _)]
theorem grp_one {v : Nat} (h : v < 10) (r : Nat) : grp (decDigits v) r = [UInt8.ofNat (48 + v)] := by
  rw [decDigits, dif_pos h]; rfl
/-- A whole number's text with commas. -/
def commaL (n : Int) : List UInt8 := if n < 0 then 45 :: grp (decDigits n.natAbs) 0 else grp (decDigits n.natAbs) 0
def comma (n : Int) : ByteArray := ⟨(commaL n).toArray⟩
def decB (n : Int) : ByteArray := ⟨(itoa n).toArray⟩
theorem itoa_eq (n : Int) : itoa n = if n < 0 then 45 :: decDigits n.natAbs else decDigits n.natAbs := by
  unfold itoa
  split
  · rfl
  · rw [show n.toNat = n.natAbs by omega]
theorem mk_app (a b : List UInt8) : (⟨a.toArray⟩ : ByteArray) ++ ⟨b.toArray⟩ = ⟨(a ++ b).toArray⟩ := by
  apply ByteArray.ext; simp
theorem mk_size (a : List UInt8) : (⟨a.toArray⟩ : ByteArray).size = a.length := by
  show a.toArray.size = _; simp
theorem commaL_len (n : Int) (h0 : -9223372036854775808 ≤ n) (h1 : n ≤ 9223372036854775807) : (commaL n).length ≤ 30 := by
  have h2 := nD_le (u := n.natAbs) (by omega)
  have h3 := grp_len (decDigits n.natAbs) (dec_ne _)
  rw [decDigits_length] at h3
  unfold commaL
  split
  · simp only [List.length_cons]; omega
  · omega
theorem itoa_len (n : Int) (h0 : -9223372036854775808 ≤ n) (h1 : n ≤ 9223372036854775807) : (itoa n).length ≤ 21 := itoa_length_le n h0 h1
/-- The numbers of a text's bytes. -/
def nm (l : List UInt8) : List Int := l.map fun b => (b.toNat : Int)
theorem str_nm (l : List UInt8) : strOfNums (nm l) = ⟨l.toArray⟩ := by
  unfold strOfNums nm
  congr 1
  rw [List.map_map]
  congr 1
  apply List.map_id''
  intro b
  simp
theorem dig_nat (d : Nat) (h : d < 10) : (UInt8.ofNat (48 + d)).toNat = 48 + d := by
  simp [UInt8.toNat_ofNat]
  omega
end Go.Proofs.YtnpkocpknmhngaaDoor.PlainDec
namespace Go.Proofs.YtnpkocpknmhngaaDoor.Plain
open Go.RowKit Go.Lib Go.Proofs.YtnpkocpknmhngaaDoor.PPb Go.Proofs.YtnpkocpknmhngaaDoorW.PrintWords Go.Proofs.YtnpkocpknmhngaaDoorW.PrintLast Go.Proofs.YtnpkocpknmhngaaDoor.PlainDec
open Go.Proofs.YtnpkocpknmhngaaDoor.Pf (lowU lowB tmOf tmFrom letterAt)
theorem nm_len' (l : List UInt8) : (nm l).length = l.length := by simp [nm]
theorem bt_mk (l : List UInt8) (i : Int) (h : i.toNat < l.length) : bt ⟨l.toArray⟩ i = (l[i.toNat].toNat : Int) := by
  unfold bt
  rw [dif_pos (by rw [mk_size]; exact h)]
  rfl
theorem nm_snoc (l : List UInt8) (a : UInt8) : nm l ++ [(a.toNat : Int)] = nm (l ++ [a]) := by simp [nm]
theorem zz_l0 (l : List UInt8) (hl : l.length ≤ 100000) : ∀ (d k : Nat) (i : Int) (out : List UInt8), 0 ≤ i → (l.length : Int) - i = d → d + 1 ≤ k → (out.length : Int) ≤ i →
    humanize_zzWithout.l0 k ⟨l.toArray⟩ 44 (nm out) i = some ⟨(out ++ (l.drop i.toNat).filter (· != 44)).toArray⟩ := by
  intro d
  induction d with
  | zero =>
    intro k i out h0 hd hk ho
    obtain ⟨k, rfl⟩ : ∃ j, k = j + 1 := ⟨k - 1, by omega⟩
    rw [humanize_zzWithout.l0, mk_size, if_neg (by omega), List.drop_of_length_le (by omega), str_nm]
    simp
  | succ d ih =>
    intro k i out h0 hd hk ho
    obtain ⟨k, rfl⟩ : ∃ j, k = j + 1 := ⟨k - 1, by omega⟩
    have hi : i.toNat < l.length := by omega
    have hw : wrap64 (i + 1) = i + 1 := wr _ (by omega) (by omega)
    have hdr := List.drop_eq_getElem_cons hi
    have en : i.toNat + 1 = (i + 1).toNat := by omega
    rw [humanize_zzWithout.l0, mk_size, if_pos (by omega), if_pos h0, hw, bt_mk l i hi, hdr]
    by_cases h44 : l[i.toNat] = 44
    · rw [h44, if_pos (by rfl), ih k (i + 1) out (by omega) (by omega) (by omega) (by omega), ← en]
      simp
    · have h44' : ¬ ((l[i.toNat].toNat : Int) = 44) := fun h => h44 (UInt8.toNat_inj.mp (by simpa using Int.ofNat_inj.mp h))
      have hlen : (nm out).length = out.length := nm_len' out
      rw [if_neg h44', if_pos (by omega), nm_snoc, ih k (i + 1) _ (by omega) (by omega) (by omega) (by simp; omega), ← en, List.filter_cons_of_pos (by simpa using h44)]
      simp
theorem zz_ok (l : List UInt8) (hl : l.length ≤ 100000) (k : Nat) (hk : l.length + 1 ≤ k) : humanize_zzWithout.f k ⟨l.toArray⟩ 44 = some ⟨(l.filter (· != 44)).toArray⟩ := by
  unfold humanize_zzWithout.f
  have := zz_l0 l hl l.length k 0 [] (by omega) (by omega) hk (by simp)
  simpa [nm] using this

theorem dec_mem (v : Nat) : ∀ b ∈ decDigits v, 48 ≤ b.toNat ∧ b.toNat ≤ 57 := by
  induction v using Nat.strongRecOn with
  | ind v ih =>
    intro b hb
    by_cases h : v < 10
    · rw [decDigits, dif_pos h] at hb
      simp only [List.mem_cons, List.not_mem_nil, or_false] at hb
      rw [hb, dig_nat v h]
      omega
    · rw [dec_big h] at hb
      rcases List.mem_append.mp hb with hb | hb
      · exact ih (v / 10) (by omega) b hb
      · simp only [List.mem_cons, List.not_mem_nil, or_false] at hb
        rw [hb, dig_nat _ (by omega)]
        omega
theorem dec_no44 (v : Nat) : (44 : UInt8) ∉ decDigits v := fun h => by
  have := dec_mem v _ h
  simp at this
theorem pu_snoc (M : Nat) (c : UInt8) (hc : 48 ≤ c.toNat ∧ c.toNat ≤ 57) : ∀ (l : List UInt8) (acc u : Nat), parseUintM M acc l = .ok u → ¬ 1844674407370955162 ≤ u → ¬ M < u * 10 + (c.toNat - 48) →
    parseUintM M acc (l ++ [c]) = .ok (u * 10 + (c.toNat - 48))
  | [], acc, u, h, h1, h2 => by
    simp only [parseUintM, NumEnd.ok.injEq] at h
    subst h
    simp only [List.nil_append, parseUintM]
    rw [if_pos hc, if_neg h1, if_neg h2]
  | a :: l, acc, u, h, h1, h2 => by
    rw [parseUintM] at h
    rw [List.cons_append, parseUintM]
    split at h
    · rename_i ha
      rw [if_pos ha]
      split at h
      · cases h
      · rename_i hb
        rw [if_neg hb]
        split at h
        · cases h
        · rename_i hd
          rw [if_neg hd]
          exact pu_snoc M c hc l _ u h h1 h2
    · cases h
theorem pu_dec (v : Nat) : v ≤ 18446744073709551615 → parseUintM 18446744073709551615 0 (decDigits v) = .ok v := by
  induction v using Nat.strongRecOn with
  | ind v ih =>
    intro hv
    by_cases h : v < 10
    · rw [decDigits, dif_pos h]
      have e := dig_nat v h
      simp only [parseUintM]
      rw [if_pos (by omega), if_neg (by omega), if_neg (by omega), e]
      congr 1
      omega
    · rw [dec_big h]
      have e := dig_nat (v % 10) (by omega)
      rw [pu_snoc _ _ (by omega) _ _ _ (ih (v / 10) (by omega) (by omega)) (by omega) (by omega), e]
      congr 1
      omega
theorem pub_dec (v : Nat) (hv : v ≤ 18446744073709551615) : parseUintB 64 (decDigits v) = .ok v := by
  unfold parseUintB
  rw [if_neg (dec_ne v)]
  exact pu_dec v hv

/-! the law's text: digits with commas or none -/
def cm (c : Bool) (l : List UInt8) : Nat → List UInt8
  | 0 => []
  | k + 1 => cm c l k ++ (if c = true ∧ 0 < k ∧ (l.length - k) % 3 = 0 then [44] else []) ++ [l.getD k 0]
theorem cm_len (c : Bool) (l : List UInt8) : ∀ k, (cm c l k).length ≤ 2 * k
  | 0 => Nat.le_refl _
  | k + 1 => by
    have := cm_len c l k
    rw [cm]
    split <;> simp only [List.length_append, List.length_cons, List.length_nil] <;> omega
theorem cm_pos (c : Bool) (l : List UInt8) (k : Nat) : k ≤ (cm c l k).length := by
  induction k with
  | zero => simp
  | succ k ih => rw [cm]; split <;> simp only [List.length_append, List.length_cons, List.length_nil] <;> omega
theorem cm_filter (c : Bool) (l : List UInt8) (h : (44 : UInt8) ∉ l) : ∀ k, k ≤ l.length → (cm c l k).filter (· != 44) = l.take k
  | 0, _ => by simp [cm]
  | k + 1, hk => by
    have hx : l.getD k 0 = l[k] := by simp [List.getD, List.getElem?_eq_getElem (show k < l.length by omega)]
    have hn : l[k] ≠ 44 := fun e => h (e ▸ List.getElem_mem _)
    rw [cm, hx, List.filter_append, List.filter_append, cm_filter c l h k (by omega), List.take_add_one, List.getElem?_eq_getElem (by omega)]
    split <;> simp [hn]
theorem cm_mem (c : Bool) (l : List UInt8) : ∀ k, k ≤ l.length → ∀ x ∈ cm c l k, x = 44 ∨ x ∈ l
  | 0, _, x, hx => by simp [cm] at hx
  | k + 1, hk, x, hx => by
    have hg : l.getD k 0 = l[k] := by simp [List.getD, List.getElem?_eq_getElem (show k < l.length by omega)]
    rw [cm, hg] at hx
    rcases List.mem_append.mp hx with hx | hx
    · rcases List.mem_append.mp hx with hx | hx
      · exact cm_mem c l k (by omega) x hx
      · split at hx
        · exact .inl (by simpa using hx)
        · simp at hx
    · have : x = l[k] := by simpa using hx
      exact .inr (this ▸ List.getElem_mem _)
theorem dec_head (u : Nat) : ∀ (h : 0 < (decDigits u).length), 10 ≤ u → (decDigits u)[0].toNat ≠ 48 := by
  induction u using Nat.strongRecOn with
  | ind u ih =>
    intro h h10
    have e := dec_big (u := u) (by omega)
    have hl : 0 < (decDigits (u / 10)).length := by rw [decDigits_length]; exact nDigits_pos _
    have e2 : (decDigits u)[0] = (decDigits (u / 10))[0] := by simp only [e]; exact List.getElem_append_left hl
    rw [e2]
    by_cases h1 : u / 10 < 10
    · have e3 : decDigits (u / 10) = [UInt8.ofNat (48 + u / 10)] := decDigits_one h1
      simp only [e3, List.getElem_cons_zero]
      rw [dig_nat _ h1]
      omega
    · exact ih (u / 10) (by omega) hl (by omega)
theorem dec_zero (u : Nat) (h : 0 < (decDigits u).length) (h48 : (decDigits u)[0].toNat = 48) : (decDigits u).length = 1 := by
  by_cases h1 : u < 10
  · rw [decDigits_one h1]; rfl
  · exact absurd h48 (dec_head u h (by omega))
/-! blanks and white space -/
theorem sp_letter (c : Int) (h : 65 ≤ c) : humanize_zzSpace.f c = some false := by
  unfold humanize_zzSpace.f
  rw [if_neg (by omega), if_pos (by omega), decide_eq_false (by omega)]
theorem trim_l1 (v : List UInt8) (hl : v.length ≤ 1000) (hv : ∀ x ∈ v, 65 ≤ x.toNat) (k : Nat) : humanize_zzTrimmed.l1 (k + 1) ⟨v.toArray⟩ = some ⟨v.toArray⟩ := by
  rw [humanize_zzTrimmed.l1, mk_size]
  by_cases h : v.length = 0
  · rw [if_neg (by omega)]
  · have e : wrap64 ((v.length : Int) - 1) = (v.length : Int) - 1 := wr _ (by omega) (by omega)
    have hi : ((v.length : Int) - 1).toNat < v.length := by omega
    have := hv _ (List.getElem_mem hi)
    rw [if_pos (by omega), e, if_pos (by omega), if_pos (by omega), bt_mk v _ hi, sp_letter _ (by omega)]
    rfl
theorem trim_l0 (v : List UInt8) (hl : v.length ≤ 1000) (hv : ∀ x ∈ v, 65 ≤ x.toNat) : ∀ (q k : Nat), humanize_zzTrimmed.l0 (k + q + 3) ⟨(List.replicate q 32 ++ v).toArray⟩ = some ⟨v.toArray⟩
  | 0, k => by
    rw [List.replicate_zero, List.nil_append, show k + 0 + 3 = (k + 1 + 1) + 1 by omega, humanize_zzTrimmed.l0, mk_size]
    by_cases h : v.length = 0
    · rw [if_neg (by omega), humanize_zzTrimmed.j1]
      exact trim_l1 v hl hv k
    · have := hv _ (List.getElem_mem (show (0 : Int).toNat < v.length by show 0 < _; omega))
      rw [if_pos (by omega), if_pos (by omega), bt_mk v 0 (by show 0 < _; omega), sp_letter _ (by omega)]
      rw [Option.bind_some, if_neg (by decide), humanize_zzTrimmed.j1]
      exact trim_l1 v hl hv k
  | q + 1, k => by
    rw [show k + (q + 1) + 3 = (k + q + 3) + 1 by omega, humanize_zzTrimmed.l0, mk_size]
    have hlen : (List.replicate (q + 1) (32 : UInt8) ++ v).length = q + 1 + v.length := by simp
    have h0 : (0 : Int).toNat < (List.replicate (q + 1) (32 : UInt8) ++ v).length := by rw [hlen]; show 0 < _; omega
    have hb : bt ⟨(List.replicate (q + 1) (32 : UInt8) ++ v).toArray⟩ 0 = 32 := by
      rw [bt_mk _ 0 h0]
      simp [List.replicate_succ]
    have hs : humanize_zzSpace.f 32 = some true := by unfold humanize_zzSpace.f; rw [if_pos rfl]
    have he : (⟨(List.replicate (q + 1) (32 : UInt8) ++ v).toArray⟩ : ByteArray).extract 1 (List.replicate (q + 1) (32 : UInt8) ++ v).length = ⟨(List.replicate q 32 ++ v).toArray⟩ := by
      apply ByteArray.ext
      simp only [ByteArray.data_extract, List.extract_toArray, List.replicate_succ, List.cons_append, List.extract_eq_take_drop, List.drop_succ_cons, List.drop_zero, List.length_cons]
      rw [List.take_of_length_le (by omega)]
    rw [if_pos (by omega), if_pos (by omega), hb, hs, Option.bind_some, if_pos rfl, if_pos (by omega), he]
    exact trim_l0 v hl hv q k
theorem trim_ok (v : List UInt8) (hl : v.length ≤ 1000) (hv : ∀ x ∈ v, 65 ≤ x.toNat) (q k : Nat) (hk : q + 3 ≤ k) : humanize_zzTrimmed.f k ⟨(List.replicate q 32 ++ v).toArray⟩ = some ⟨v.toArray⟩ := by
  obtain ⟨j, rfl⟩ : ∃ j, k = j + q + 3 := ⟨k - (q + 3), by omega⟩
  exact trim_l0 v hl hv q j
/-! no point among digits -/
theorem idx_l0 (l : List UInt8) (hl : l.length ≤ 1000) (hn : ∀ x ∈ l, x.toNat ≠ 46) : ∀ (d k : Nat) (i : Int), 0 ≤ i → (l.length : Int) - i = d → d + 1 ≤ k → humanize_zzIndex.l0 k ⟨l.toArray⟩ 46 i = some (-1) := by
  intro d
  induction d with
  | zero =>
    intro k i h0 hd hk
    obtain ⟨k, rfl⟩ : ∃ j, k = j + 1 := ⟨k - 1, by omega⟩
    rw [humanize_zzIndex.l0, mk_size, if_neg (by omega)]
  | succ d ih =>
    intro k i h0 hd hk
    obtain ⟨k, rfl⟩ : ∃ j, k = j + 1 := ⟨k - 1, by omega⟩
    have hi : i.toNat < l.length := by omega
    have := hn _ (List.getElem_mem hi)
    rw [humanize_zzIndex.l0, mk_size, if_pos (by omega), if_pos h0, bt_mk l i hi, if_neg (by omega), wr (i + 1) (by omega) (by omega)]
    exact ih k (i + 1) (by omega) (by omega) (by omega)
theorem idx_ok (l : List UInt8) (hl : l.length ≤ 1000) (hn : ∀ x ∈ l, x.toNat ≠ 46) (k : Nat) (hk : l.length + 1 ≤ k) : humanize_zzIndex.f k ⟨l.toArray⟩ 46 = some (-1) :=
  idx_l0 l hl hn l.length k 0 (by omega) (by omega) hk
/-! a size's name in any letters -/
theorem enc_one (c : UInt8) (r : Int) (h : r = c.toNat) (hc : c.toNat < 128) : Utf8.encode r = ⟨[c].toArray⟩ := by
  subst h
  rw [enc_ascii _ (by omega) (by omega)]
  simp
theorem low_up (c : UInt8) (h : 97 ≤ c.toNat ∧ c.toNat ≤ 122) : (c - 32).toNat = c.toNat - 32 := by
  rw [UInt8.toNat_sub]
  show (2 ^ 8 - 32 + c.toNat) % 2 ^ 8 = c.toNat - 32
  omega
theorem name_l0 (x1 : Int) (l : List UInt8) (hl : l.length ≤ 10) (ha : ∀ x ∈ l, 97 ≤ x.toNat ∧ x.toNat ≤ 122) : ∀ (d k : Nat) (i : Int) (out : List UInt8), 0 ≤ i → (l.length : Int) - i = d → d + 1 ≤ k → (out.length : Int) = i →
    ∃ v : List UInt8, laws_nameOf.l0 k x1 ⟨l.toArray⟩ ⟨out.toArray⟩ (l.length : Int) i = some (⟨(out ++ v).toArray⟩, ⟨l.toArray⟩) ∧ v.length = d ∧ v.map lowU = l.drop i.toNat ∧ ∀ x ∈ v, 65 ≤ x.toNat ∧ x.toNat ≤ 122 := by
  intro d
  induction d with
  | zero =>
    intro k i out h0 hd hk ho
    obtain ⟨k, rfl⟩ : ∃ j, k = j + 1 := ⟨k - 1, by omega⟩
    refine ⟨[], ?_, rfl, ?_, by simp⟩
    · rw [laws_nameOf.l0, if_neg (by omega), List.append_nil]
    · rw [List.drop_of_length_le (by omega)]; rfl
  | succ d ih =>
    intro k i out h0 hd hk ho
    obtain ⟨k, rfl⟩ : ∃ j, k = j + 1 := ⟨k - 1, by omega⟩
    have hi : i.toNat < l.length := by omega
    have hx := ha _ (List.getElem_mem hi)
    have hdr := List.drop_eq_getElem_cons hi
    have en : i.toNat + 1 = (i + 1).toNat := by omega
    rw [laws_nameOf.l0, mk_size, if_pos (by omega), if_pos h0, if_pos (by omega), bt_mk l i hi, wr (i + 1) (by omega) (by omega)]
    by_cases hb : Go.bits .and .u8 (shr .u8 x1 i) 1 = 1
    · have hu := low_up _ hx
      have ee : Utf8.encode (((l[i.toNat].toNat : Int) - 32) % 256) = ⟨[l[i.toNat] - 32].toArray⟩ := enc_one _ _ (by rw [hu]; omega) (by omega)
      rw [if_pos hb, ee, mk_size, mk_size, if_pos (by simp; omega), mk_app]
      obtain ⟨v, h1, h2, h3, h4⟩ := ih k (i + 1) (out ++ [l[i.toNat] - 32]) (by omega) (by omega) (by omega) (by simp; omega)
      refine ⟨(l[i.toNat] - 32) :: v, by rw [h1]; simp, by simp [h2], ?_, ?_⟩
      · rw [List.map_cons, h3, hdr, ← en]
        congr 1
        apply UInt8.toNat_inj.mp
        unfold lowU
        rw [if_pos (by omega), UInt8.toNat_add, hu]
        show (_ - 32 + 32) % 256 = _
        omega
      · intro x hxm
        rcases List.mem_cons.mp hxm with rfl | hxm
        · omega
        · exact h4 x hxm
    · have ee : Utf8.encode (wrap32 (l[i.toNat].toNat : Int)) = ⟨[l[i.toNat]].toArray⟩ := by
        rw [wr32 _ (by omega) (by omega)]
        exact enc_one _ _ rfl (by omega)
      rw [if_neg hb, ee, mk_size, mk_size, if_pos (by simp; omega), mk_app]
      obtain ⟨v, h1, h2, h3, h4⟩ := ih k (i + 1) (out ++ [l[i.toNat]]) (by omega) (by omega) (by omega) (by simp; omega)
      refine ⟨l[i.toNat] :: v, by rw [h1]; simp, by simp [h2], ?_, ?_⟩
      · rw [List.map_cons, h3, hdr, ← en]
        congr 1
        unfold lowU
        rw [if_neg (by omega)]
      · intro x hxm
        rcases List.mem_cons.mp hxm with rfl | hxm
        · omega
        · exact h4 x hxm
def names : List (List UInt8) := [[], [98], [107, 98], [109, 98], [103, 98], [116, 98], [112, 98], [101, 98], [107, 105, 98], [109, 105, 98], [103, 105, 98], [116, 105, 98], [112, 105, 98], [101, 105, 98], [107], [109], [103], [116], [112], [101], [107, 105], [109, 105], [103, 105], [116, 105], [112, 105], [101, 105], [113], [98, 98], [107, 98, 105]]
theorem names_small : names.all (fun l => decide (l.length ≤ 3) && l.all fun x => decide (97 ≤ x.toNat ∧ x.toNat ≤ 122)) = true := by kernel_rfl
theorem name_ok (a0 a1 : Int) (h0 : 0 ≤ a0 ∧ a0 ≤ 255) : ∃ (low v : List UInt8) (k : Nat), low ∈ names ∧ laws_nameOf.f k a0 a1 = some (⟨v.toArray⟩, ⟨low.toArray⟩) ∧ v.map lowU = low ∧ (∀ x ∈ v, 65 ≤ x.toNat ∧ x.toNat ≤ 122) ∧ v.length ≤ 3 := by
  have hw : wrap64 a0 = a0 := wr _ (by omega) (by omega)
  have ht : Int.tmod a0 ((29 : Nat) : Int) = a0 % 29 := Int.tmod_eq_emod_of_nonneg h0.1
  have hi : (a0 % 29).toNat < names.length := by show _ < 29; omega
  have hmem := List.getElem_mem hi
  obtain ⟨low, hlow⟩ : ∃ low, names[(a0 % 29).toNat] = low := ⟨_, rfl⟩
  rw [hlow] at hmem
  have hs := List.all_eq_true.mp names_small low hmem
  rw [Bool.and_eq_true] at hs
  have hl : low.length ≤ 3 := of_decide_eq_true hs.1
  have ha : ∀ x ∈ low, 97 ≤ x.toNat ∧ x.toNat ≤ 122 := fun x hx => of_decide_eq_true (List.all_eq_true.mp hs.2 x hx)
  obtain ⟨v, h1, h2, h3, h4⟩ := name_l0 a1 low (by omega) ha low.length (low.length + 1) 0 [] (by omega) (by omega) (by omega) rfl
  refine ⟨low, v, low.length + 1, hmem, ?_, by simpa using h3, h4, by omega⟩
  have hL : ([(⟨#[]⟩ : ByteArray), (⟨#[98]⟩ : ByteArray), (⟨#[107, 98]⟩ : ByteArray), (⟨#[109, 98]⟩ : ByteArray), (⟨#[103, 98]⟩ : ByteArray), (⟨#[116, 98]⟩ : ByteArray), (⟨#[112, 98]⟩ : ByteArray), (⟨#[101, 98]⟩ : ByteArray), (⟨#[107, 105, 98]⟩ : ByteArray), (⟨#[109, 105, 98]⟩ : ByteArray), (⟨#[103, 105, 98]⟩ : ByteArray), (⟨#[116, 105, 98]⟩ : ByteArray), (⟨#[112, 105, 98]⟩ : ByteArray), (⟨#[101, 105, 98]⟩ : ByteArray), (⟨#[107]⟩ : ByteArray), (⟨#[109]⟩ : ByteArray), (⟨#[103]⟩ : ByteArray), (⟨#[116]⟩ : ByteArray), (⟨#[112]⟩ : ByteArray), (⟨#[101]⟩ : ByteArray), (⟨#[107, 105]⟩ : ByteArray), (⟨#[109, 105]⟩ : ByteArray), (⟨#[103, 105]⟩ : ByteArray), (⟨#[116, 105]⟩ : ByteArray), (⟨#[112, 105]⟩ : ByteArray), (⟨#[101, 105]⟩ : ByteArray), (⟨#[113]⟩ : ByteArray), (⟨#[98, 98]⟩ : ByteArray), (⟨#[107, 98, 105]⟩ : ByteArray)] : List ByteArray) = names.map (fun l => (⟨l.toArray⟩ : ByteArray)) := rfl
  unfold laws_nameOf.f
  rw [hL, Option.bind_some]
  have hlen : (names.map (fun l => (⟨l.toArray⟩ : ByteArray))).length = 29 := rfl
  have hrd : rdOf ByteArray.empty (names.map (fun l => (⟨l.toArray⟩ : ByteArray))) (a0 % 29) = ⟨low.toArray⟩ := by
    unfold rdOf
    simp only [List.getD, List.getElem?_map, List.getElem?_eq_getElem hi, hlow]
    rfl
  rw [hlen, hw]
  rw [if_neg (by decide)]
  rw [ht, if_pos (by omega), if_pos (by omega), hrd, mk_size]
  simpa using h1
theorem table_ok : names.all (fun l => match humanize_bytesSizeTable.f ⟨l.toArray⟩ with
    | some (m, ok) => decide (0 ≤ m ∧ m < 18446744073709551616 ∧ tmOf l = (if ok = true then m else 0) ∧ (ok = true → 1 ≤ m))
    | none => false) = true := by kernel_rfl
theorem table_at (l : List UInt8) (h : l ∈ names) : ∃ (m : Nat) (ok : Bool), humanize_bytesSizeTable.f ⟨l.toArray⟩ = some ((m : Int), ok) ∧ m < 18446744073709551616 ∧ tmOf l = (if ok = true then (m : Int) else 0) ∧ (ok = true → 1 ≤ m) := by
  have hs := List.all_eq_true.mp table_ok l h
  cases he : humanize_bytesSizeTable.f ⟨l.toArray⟩ with
  | none => simp only [he] at hs; cases hs
  | some r =>
    obtain ⟨m, ok⟩ := r
    simp only [he] at hs
    obtain ⟨h1, h2, h3, h4⟩ := of_decide_eq_true hs
    exact ⟨m.toNat, ok, by rw [Int.toNat_of_nonneg h1], by omega, by rw [Int.toNat_of_nonneg h1]; exact h3, fun h => by have := h4 h; omega⟩
end Go.Proofs.YtnpkocpknmhngaaDoor.Plain
namespace Go.Proofs.YtnpkocpknmhngaaDoor.Plain
open Go.RowKit Go.Lib Go.Proofs.YtnpkocpknmhngaaDoor.PPb Go.Proofs.YtnpkocpknmhngaaDoorW.PrintWords Go.Proofs.YtnpkocpknmhngaaDoorW.PrintLast Go.Proofs.YtnpkocpknmhngaaDoor.PlainDec
open Go.Proofs.YtnpkocpknmhngaaDoor.Pf (lowU lowB tmOf Tabs TenAt ImplOut bytes_any impl_any)
/-- What ParseBytes tells of n of size m. -/
def outOf (n m : Nat) (ok : Bool) : Option Int := if ok = true then (if n * m < 18446744073709551616 then some ((n * m : Nat) : Int) else none) else none
theorem dec20 (n : Nat) (hn : n < 18446744073709551616) : (decDigits n).length ≤ 20 := by
  rw [decDigits_length]
  exact nDigits_le20 n (by omega)
theorem bt_le (l : List UInt8) (h : ∀ x ∈ l, x.toNat ≤ 127) (i : Int) : bt ⟨l.toArray⟩ i ≤ 127 := by
  by_cases hi : i.toNat < l.length
  · rw [bt_mk l i hi]
    have := h _ (List.getElem_mem hi)
    omega
  · unfold bt
    rw [dif_neg (by rw [mk_size]; exact hi)]
    omega
theorem text_any (n m q : Nat) (c ok : Bool) (low v : List UInt8) (hn : n < 18446744073709551616) (hq : q ≤ 3) (hv : v.map lowU = low) (hv2 : ∀ x ∈ v, 65 ≤ x.toNat ∧ x.toNat ≤ 122) (hv3 : v.length ≤ 3)
    (hM : humanize_bytesSizeTable.f ⟨low.toArray⟩ = some ((m : Int), ok)) (hm : m < 18446744073709551616) (bp op bb o : Nat) (w : World)
    (hO : w.cell? ⟨6, 0, none⟩ = some (.bool true)) (hT : Tabs w w.heap.size bp op bb o) (hP : TenAt w) :
    Calls Tryd.prog 6 #[.string ⟨(cm c (decDigits n) (decDigits n).length ++ (List.replicate q 32 ++ v)).toArray⟩] w fun r w' => ImplOut (outOf n m ok) r ∧ Below w.heap.size w w' := by
  have h20 := dec20 n hn
  have hne : 0 < (decDigits n).length := by rw [decDigits_length]; exact nDigits_pos _
  have hcl := cm_len c (decDigits n) (decDigits n).length
  have hdm := dec_mem n
  have h44 := dec_no44 n
  have hmem := cm_mem c (decDigits n) (decDigits n).length (Nat.le_refl _)
  have hfil := cm_filter c (decDigits n) h44 (decDigits n).length (Nat.le_refl _)
  rw [List.take_length] at hfil
  have hD : ∀ (i : Nat) (h : i < (⟨(decDigits n).toArray⟩ : ByteArray).size), 48 ≤ ((⟨(decDigits n).toArray⟩ : ByteArray)[i]'h).toNat ∧ ((⟨(decDigits n).toArray⟩ : ByteArray)[i]'h).toNat ≤ 57 := by
    intro i h
    have h2 : i < (decDigits n).length := by rw [mk_size] at h; exact h
    exact hdm _ (List.getElem_mem h2)
  have hz0 : 0 < (⟨(decDigits n).toArray⟩ : ByteArray).size := by rw [mk_size]; exact hne
  have hz : ((⟨(decDigits n).toArray⟩ : ByteArray)[0]'hz0).toNat = 48 → (⟨(decDigits n).toArray⟩ : ByteArray).size = 1 := by
    intro h
    rw [mk_size]
    exact dec_zero n hne h
  have hU : parseUintB 64 (⟨(decDigits n).toArray⟩ : ByteArray).data.toList = .ok n := by
    simpa using pub_dec n (by omega)
  have hE : humanize_zzTrimmed.f 100 ⟨(List.replicate q 32 ++ v).toArray⟩ = some ⟨v.toArray⟩ := trim_ok v (by omega) (fun x hx => (hv2 x hx).1) q 100 (by omega)
  have hlow : lowB ⟨v.toArray⟩ = ⟨low.toArray⟩ := by
    apply ByteArray.ext
    show v.toArray.map lowU = low.toArray
    rw [← hv]
    simp
  have hI : humanize_zzIndex.f 100 ⟨(decDigits n).toArray⟩ 46 = some (-1) := idx_ok _ (by omega) (fun x hx => by have := hdm x hx; omega) 100 (by omega)
  have hW : ((cm c (decDigits n) (decDigits n).length).contains 44 = true → humanize_zzWithout.f 100 ⟨(cm c (decDigits n) (decDigits n).length).toArray⟩ 44 = some ⟨(decDigits n).toArray⟩) ∧ ((cm c (decDigits n) (decDigits n).length).contains 44 = false → (⟨(decDigits n).toArray⟩ : ByteArray) = ⟨(cm c (decDigits n) (decDigits n).length).toArray⟩) := by
    refine ⟨fun _ => ?_, fun h => ?_⟩
    · rw [zz_ok _ (by omega) 100 (by omega), hfil]
    · have h2 : (44 : UInt8) ∉ cm c (decDigits n) (decDigits n).length := by simpa using h
      have e : (cm c (decDigits n) (decDigits n).length).filter (· != 44) = cm c (decDigits n) (decDigits n).length := List.filter_eq_self.mpr (fun x hx => by simpa using fun e : x = 44 => h2 (e ▸ hx))
      exact congrArg (fun l : List UInt8 => (⟨l.toArray⟩ : ByteArray)) (hfil.symm.trans e)
  have hbh : ∀ x, (List.replicate q (32 : UInt8) ++ v).head? = some x → (x.toNat < 48 ∨ 57 < x.toNat) ∧ x.toNat ≠ 46 ∧ x.toNat ≠ 44 := by
    intro x hx
    have hxm : x ∈ List.replicate q (32 : UInt8) ++ v := List.mem_of_head? hx
    rcases List.mem_append.mp hxm with h | h
    · rw [List.eq_of_mem_replicate h]; decide
    · have := hv2 x h; omega
  have hba : ∀ x ∈ List.replicate q (32 : UInt8) ++ v, x.toNat < 128 := by
    intro x hxm
    rcases List.mem_append.mp hxm with h | h
    · rw [List.eq_of_mem_replicate h]; decide
    · have := hv2 x h; omega
  have haa : ∀ x ∈ cm c (decDigits n) (decDigits n).length, x = 44 ∨ 48 ≤ x.toNat ∧ x.toNat ≤ 57 := fun x hx => by
    rcases hmem x hx with h | h
    · exact .inl h
    · exact .inr (hdm x h)
  have hlen : (List.replicate q (32 : UInt8) ++ v).length ≤ 6 := by simp; omega
  refine impl_any _ (by rw [mk_size, List.length_append]; omega) (bt_le _ (fun x hx => ?_)) (outOf n m ok) w (fun W hB => ?_)
  · rcases List.mem_append.mp hx with h | h
    · rcases haa x h with h | h
      · rw [h]; decide
      · omega
    · have := hba x h; omega
  · have hg := hT.hg
    exact bytes_any _ _ haa hba hbh (by omega) ⟨(decDigits n).toArray⟩ ⟨v.toArray⟩ n m 100 ok bp op bb o W hW hz0 (by rw [mk_size]; exact h20) hD hz hU hn hm hE (by rw [mk_size]; omega) (by rw [hlow]; exact hM) hI
      ((hB.cell (by show 6 < w.heap.size; omega)).trans hO) ((hT.below hB).mono hB.size) (hP.below (by omega) hB)
end Go.Proofs.YtnpkocpknmhngaaDoor.Plain
namespace Go.Proofs.YtnpkocpknmhngaaDoor.Plain
open Go.RowKit Go.Lib Go.Proofs.YtnpkocpknmhngaaDoor.PPb Go.Proofs.YtnpkocpknmhngaaDoorW.PrintWords Go.Proofs.YtnpkocpknmhngaaDoorW.PrintLast Go.Proofs.YtnpkocpknmhngaaDoor.PlainDec
open Go.Proofs.YtnpkocpknmhngaaDoor.Pf (lowU lowB tmOf Tabs TenAt ImplOut natural_any times_any Below.drewN')
theorem below_tab {w w' : World} (h : Below w.heap.size w w') (ht : Lib.TabIs Tryd.prog w "internal/strconv.uint64pow10" .u64 Lib.pow10Tab) : Lib.TabIs Tryd.prog w' "internal/strconv.uint64pow10" .u64 Lib.pow10Tab := by
  unfold Lib.TabIs World.var? at *
  cases hg : Tryd.prog.globalNamed "internal/strconv.uint64pow10" with
  | none => rw [hg] at ht; cases ht
  | some g =>
    rw [hg] at ht
    simp only [Option.bind_some] at ht ⊢
    have hlt : g < w.heap.size := by
      rcases Nat.lt_or_ge g w.heap.size with h | h
      · exact h
      · rw [Array.getElem?_eq_none h] at ht; cases ht
    rw [h.block g hlt]
    exact ht
theorem one_ext (l : List UInt8) (p : Nat) (hp : p < l.length) : (⟨l.toArray⟩ : ByteArray).extract p (p + 1) = ⟨[l.getD p 0].toArray⟩ := by
  have hg : l.getD p 0 = l[p] := by simp [List.getD, List.getElem?_eq_getElem hp]
  apply ByteArray.ext
  rw [hg, ByteArray.data_extract]
  show l.toArray.extract p (p + 1) = _
  rw [List.extract_toArray, List.extract_eq_take_drop, List.drop_eq_getElem_cons hp, show p + 1 - p = 1 by omega]
  rfl
theorem size_le {a b : ByteArray} (h : a.size + b.size ≤ 9223372036854775807) : (a.size + b.size ≤ 9223372036854775807) = True ∧ decide (a.size + b.size ≤ 9223372036854775807) = true ∧ (9223372036854775807 < a.size + b.size) = False :=
  ⟨eq_true h, decide_eq_true h, eq_false (Nat.not_lt.2 h)⟩
/-- Whether a comma stands ahead of the digit p. -/
def comAt (c : Bool) (n p : Nat) : Bool := c && (decide (0 < p) && decide ((n - p) % 3 = 0))
theorem cm_succ (c : Bool) (l : List UInt8) (p : Nat) : cm c l (p + 1) = cm c l p ++ (if comAt c l.length p = true then [44] else []) ++ [l.getD p 0] := by
  rw [cm]
  congr 2
  unfold comAt
  simp only [Bool.and_eq_true, decide_eq_true_eq]
set_option maxRecDepth 100000 in
set_option maxHeartbeats 4000000 in
theorem law_any (n : Nat) (a1 a2 a4 : Int) (c : Bool) (hn : n < 18446744073709551616) (h1 : 0 ≤ a1 ∧ a1 ≤ 255) (h4 : 0 ≤ a4 ∧ a4 ≤ 255) (bp op bb o : Nat) (w : World)
    (htab : Lib.TabIs Tryd.prog w "internal/strconv.uint64pow10" .u64 Lib.pow10Tab) (hO : w.cell? ⟨6, 0, none⟩ = some (.bool true)) (hT : Tabs w w.heap.size bp op bb o) (hP : TenAt w) :
    Calls Tryd.prog 3 #[.int .u64 n, .int .u8 a1, .int .u8 a2, .bool c, .int .u8 a4] w fun e w' => e = .returned (.bool true) ∧ Below w.heap.size w w' := by
  obtain ⟨low, v, k, hmem, hname, hv, hv2, hv3⟩ := name_ok a1 a2 h1
  have HN := Aside0.mk hn
  have HT := Aside0.mk (And.intro hO (And.intro hT hP))
  have HTAB := Aside0.mk htab
  have HNM := Aside0.mk hname
  have HMEM := Aside0.mk hmem
  have HV := Aside0.mk (And.intro hv (And.intro hv2 hv3))
  have H4 := Aside0.mk h4
  obtain ⟨l, hl⟩ : ∃ l, decDigits n = l := ⟨_, rfl⟩
  have HL := Aside0.mk hl
  have H20 : Aside0 (l.length ≤ 20) := ⟨by rw [← hl]; exact dec20 n hn⟩
  clear hn hO hT hP htab hname hmem hv hv2 hv3 h1 h4 hl
  go_enter Tryd.func3, Tryd.ntmps3
  go_upto_block 0 with (first | (go_at_call 4; refine (laws_nameOf.calls k _ _ _ _ _ HNM.out).mono ?_; rintro e w1 ⟨rfl, hB⟩; have HB1 := Aside0.mk hB; clear hB) | (go_at_call 5; go_loud (refine (natural_any n HN.out _ (below_tab HB1.out HTAB.out)).mono ?_; rintro e w2 ⟨rfl, hB⟩; rw [HL.out]; have HB2 := Aside0.mk (HB1.out.trans (hB.mono HB1.out.size)); clear hB)))
  go_cut [13, 15] (fun v13 _ w' => v13 = .string ⟨(cm c l l.length).toArray⟩ ∧ Aside0 (Below w.heap.size w w'))
  case first =>
    go_wp2
    go_loopg [13, 29] l.length (fun kq v13 v29 w' => ∃ p : Nat, v13 = .string ⟨(cm c l p).toArray⟩ ∧ v29 = .int .i64 p ∧ Aside0 (p + kq = l.length) ∧ Aside0 (Below w.heap.size w w'))
    case atStart => exact ⟨0, rfl, rfl, ⟨by omega⟩, HB2⟩
    case round =>
      clear HB1 HB2
      obtain ⟨p, rfl, rfl, HK, HB⟩ := hrel
      by_cases hp : p < l.length
      · have z1 : decide ((p : Int) < (l.length : Int)) = true := decide_eq_true (by omega)
        have e1 : wrap64 ((p : Int) + 1) = ((p + 1 : Nat) : Int) := by unfold wrap64; have := H20.out; omega
        have e2 : wrap64 ((l.length : Int) - p) = ((l.length - p : Nat) : Int) := by unfold wrap64; have := H20.out; omega
        have zp := eq_true hp
        have zp2 : decide (p < l.length) = true := decide_eq_true hp
        have q1 := eq_true (show (0 : Int) ≤ (p : Int) + 1 by omega)
        have q3 := eq_true (show (p : Int) + 1 ≤ (l.length : Int) by omega)
        have q4 := eq_true (show p ≤ p + 1 by omega)
        have q5 := eq_true (show p + 1 ≤ l.length by omega)
        have x1 := one_ext l p hp
        have hsz := cm_len c l p
        have hcs := cm_succ c l p
        obtain ⟨A, hA⟩ : ∃ A, (⟨(cm c l p).toArray⟩ : ByteArray) = A := ⟨_, rfl⟩
        obtain ⟨D, hD⟩ : ∃ D, (⟨[l.getD p 0].toArray⟩ : ByteArray) = D := ⟨_, rfl⟩
        have hAs : A.size ≤ 40 := by rw [← hA, mk_size]; have := H20.out; omega
        have hDs : D.size = 1 := by rw [← hD, mk_size]; rfl
        rw [hA]
        rw [hD] at x1
        obtain ⟨s1, s2, s3⟩ := size_le (a := A) (b := D) (by omega)
        obtain ⟨r1, r2, r3⟩ := size_le (a := A) (b := ⟨#[44]⟩) (by show A.size + 1 ≤ _; omega)
        obtain ⟨t1, t2, t3⟩ := size_le (a := A ++ ⟨#[44]⟩) (b := D) (by rw [ByteArray.size_append]; show A.size + 1 + _ ≤ _; omega)
        have hr0 : A.size + (⟨#[44]⟩ : ByteArray).size ≤ 9223372036854775807 := by show A.size + 1 ≤ _; omega
        have hr1 := eq_true (show A.size + 1 ≤ 9223372036854775807 by omega)
        have hr2 := eq_true (show A.size ≤ 9223372036854775806 by omega)
        have ht1 := eq_true (show A.size + 1 + D.size ≤ 9223372036854775807 by omega)
        have ht2 := eq_false (show ¬ 9223372036854775807 < A.size + 1 + D.size by omega)
        have hn1 : Aside0 (comAt c l.length p = true → (⟨(cm c l (p + 1)).toArray⟩ : ByteArray) = A ++ ⟨#[44]⟩ ++ D) := ⟨fun h => by rw [hcs, if_pos h, ← mk_app, ← mk_app, hA, hD]⟩
        have hn2 : Aside0 (comAt c l.length p = false → (⟨(cm c l (p + 1)).toArray⟩ : ByteArray) = A ++ D) := ⟨fun h => by rw [hcs, if_neg (by rw [h]; decide), List.append_nil, ← mk_app, hA, hD]⟩
        obtain ⟨g1, rfl⟩ : ∃ g1, gk = g1 + 1 := ⟨gk - 1, by have := HK.out; omega⟩
        have HP := Aside0.mk hp
        clear hp hsz hcs hA hD hAs hDs
        cases c
        · go_wp2
          repeat (go_quiet (fail); go_wp2)
          go_roundg g1
          case measure => omega
          case rel => exact ⟨p + 1, by rw [hn2.out rfl], by first | rfl | rw [e1], ⟨by have := HK.out; omega⟩, ⟨by first | exact HB.out | exact Below.drewN' HB.out _⟩⟩
        · by_cases hp0 : p = 0
          · have y1 : decide (0 < p) = false := decide_eq_false (by omega)
            have y3 : decide ((0 : Int) < (p : Int)) = false := decide_eq_false (by omega)
            have hca : Aside0 (comAt true l.length p = false) := ⟨by unfold comAt; rw [y1]; rfl⟩
            clear hp0
            go_wp2
            repeat (go_quiet (fail); go_wp2)
            go_roundg g1
            case measure => omega
            case rel => exact ⟨p + 1, by rw [hn2.out hca.out], by first | rfl | rw [e1], ⟨by have := HK.out; omega⟩, ⟨by first | exact HB.out | exact Below.drewN' HB.out _⟩⟩
          · have y1 : decide (0 < p) = true := decide_eq_true (by omega)
            have y3 : decide ((0 : Int) < (p : Int)) = true := decide_eq_true (by omega)
            by_cases h3 : (l.length - p) % 3 = 0
            · have ym : (((l.length - p : Nat) : Int) % 3 == 0) = true := beq_iff_eq.mpr (by omega)
              have hca : Aside0 (comAt true l.length p = true) := ⟨by unfold comAt; rw [y1, decide_eq_true h3]; rfl⟩
              clear hp0 h3
              go_wp2
              repeat (go_quiet (fail); go_wp2)
              go_roundg g1
              case measure => omega
              case rel => exact ⟨p + 1, by rw [hn1.out hca.out], by first | rfl | rw [e1], ⟨by have := HK.out; omega⟩, ⟨by first | exact HB.out | exact Below.drewN' HB.out _⟩⟩
            · have ym : (((l.length - p : Nat) : Int) % 3 == 0) = false := beq_eq_false_iff_ne.mpr (by omega)
              have hca : Aside0 (comAt true l.length p = false) := ⟨by unfold comAt; rw [y1, decide_eq_false h3]; rfl⟩
              clear hp0 h3
              go_wp2
              repeat (go_quiet (fail); go_wp2)
              go_roundg g1
              case measure => omega
              case rel => exact ⟨p + 1, by rw [hn2.out hca.out], by first | rfl | rw [e1], ⟨by have := HK.out; omega⟩, ⟨by first | exact HB.out | exact Below.drewN' HB.out _⟩⟩
      · have z1 : decide ((p : Int) < (l.length : Int)) = false := decide_eq_false (by omega)
        have zp2 : decide (p < l.length) = false := decide_eq_false hp
        have zp := eq_false hp
        have HP : Aside0 (p = l.length) := ⟨by have := HK.out; omega⟩
        clear hp
        go_wp2
        go_meet
        case rel => exact ⟨by rw [HP.out], HB⟩
  case rest =>
    clear HB1 HB2
    obtain ⟨rfl, HB⟩ := hcut
    obtain ⟨q, hq, hq3⟩ : ∃ q : Nat, Int.tmod a4 4 = (q : Int) ∧ q ≤ 3 := ⟨(a4 % 4).toNat, by rw [Int.tmod_eq_emod_of_nonneg H4.out.1]; omega, by omega⟩
    have HQ3 := Aside0.mk hq3
    obtain ⟨A, hA⟩ : ∃ A, cm c l l.length = A := ⟨_, rfl⟩
    have HA := Aside0.mk hA
    have HAL : Aside0 (A.length ≤ 40) := ⟨by rw [← hA]; have := cm_len c l l.length; have := H20.out; omega⟩
    rw [hA]
    clear hA hq3
    go_wp2
    go_loopg [13, 57] q (fun kq v13 v57 w' => ∃ p : Nat, v13 = .string ⟨(A ++ List.replicate p 32).toArray⟩ ∧ v57 = .int .u8 p ∧ Aside0 (p + kq = q) ∧ Aside0 (Below w.heap.size w w'))
    case atStart => exact ⟨0, by simp, rfl, ⟨by omega⟩, HB⟩
    case round =>
      clear HB
      obtain ⟨p, rfl, rfl, HK, HB⟩ := hrel
      by_cases hp : p < q
      · have zp := eq_true hp
        have zp2 : decide (p < q) = true := decide_eq_true hp
        have z1 : decide ((p : Int) < (q : Int)) = true := decide_eq_true (by omega)
        have e1 : ((p : Int) + 1) % 256 = ((p + 1 : Nat) : Int) := by have := HQ3.out; omega
        obtain ⟨B, hB⟩ : ∃ B, (⟨(A ++ List.replicate p 32).toArray⟩ : ByteArray) = B := ⟨_, rfl⟩
        have hBs : B.size ≤ 50 := by rw [← hB, mk_size, List.length_append, List.length_replicate]; have := HAL.out; have := HQ3.out; omega
        have hn : Aside0 ((⟨(A ++ List.replicate (p + 1) 32).toArray⟩ : ByteArray) = B ++ ⟨#[32]⟩) := ⟨by rw [List.replicate_succ', ← List.append_assoc, ← mk_app, hB]⟩
        rw [hB]
        have hr0 : B.size + (⟨#[32]⟩ : ByteArray).size ≤ 9223372036854775807 := by show B.size + 1 ≤ _; omega
        have hr1 := eq_true (show B.size + 1 ≤ 9223372036854775807 by omega)
        have hr2 := eq_true (show B.size ≤ 9223372036854775806 by omega)
        have hr3 := eq_false (show ¬ 9223372036854775807 < B.size + 1 by omega)
        obtain ⟨g1, rfl⟩ : ∃ g1, gk = g1 + 1 := ⟨gk - 1, by have := HK.out; omega⟩
        clear hp hB hBs
        go_wp2
        go_roundg g1
        case measure => omega
        case rel => exact ⟨p + 1, by rw [hn.out], by first | rfl | rw [e1], ⟨by have := HK.out; omega⟩, HB⟩
      · have zp := eq_false hp
        have zp2 : decide (p < q) = false := decide_eq_false hp
        have hpq : p = q := by have := HK.out; omega
        subst hpq
        have x2 : (⟨(A ++ List.replicate p 32).toArray⟩ : ByteArray) ++ ⟨v.toArray⟩ = ⟨(A ++ (List.replicate p 32 ++ v)).toArray⟩ := by rw [mk_app, List.append_assoc]
        have hs0 : (⟨(A ++ List.replicate p 32).toArray⟩ : ByteArray).size + (⟨v.toArray⟩ : ByteArray).size ≤ 9223372036854775807 := by
          rw [mk_size, mk_size, List.length_append, List.length_replicate]; have := HAL.out; have := HQ3.out; have := HV.out.2.2; omega
        obtain ⟨s1, s2, s3⟩ := size_le hs0
        obtain ⟨m, ok, ht1, ht2, ht3, ht4⟩ := table_at low HMEM.out
        have HTM := Aside0.mk ht3
        have HM1 := Aside0.mk ht4
        have HM2 := Aside0.mk ht2
        have HBT := HB.out
        have HIM := fun W (hW : Below w.heap.size w W) => Aside0.mk (text_any n m p c ok low v HN.out HQ3.out HV.out.1 HV.out.2.1 HV.out.2.2 ht1 ht2 bp op bb o W ((hW.cell (by have := HT.out.2.1.hg; show 6 < w.heap.size; omega)).trans HT.out.1) ((HT.out.2.1.below hW).mono hW.size) (HT.out.2.2.below (by have := HT.out.2.1.hg; omega) hW))
        rw [HL.out, HA.out] at HIM
        have HIX := Aside0.mk HIM
        clear hp ht1 ht2 ht3 ht4 HIM HBT
        obtain ⟨G, hG⟩ : ∃ G, (outOf n m ok).getD 0 = G := ⟨_, rfl⟩
        obtain ⟨S, hS⟩ : ∃ S, (outOf n m ok).isSome = S := ⟨_, rfl⟩
        have HG := Aside0.mk hG
        have HS := Aside0.mk hS
        clear hG hS
        obtain ⟨T, hT9⟩ : ∃ T, tmOf (⟨low.toArray⟩ : ByteArray).toList = T := ⟨_, rfl⟩
        have HT9 := Aside0.mk hT9
        have HTC := Aside0.mk (fun W => (times_any ⟨low.toArray⟩ W))
        rw [hT9] at HTC
        clear hT9
        have hlowT : tmOf low = T := by rw [← HT9.out, Lib.toList_data]
        cases ok
        · have hT0 : T = 0 := by rw [← hlowT, HTM.out]; rfl
          have hS0 : S = false := by rw [← HS.out]; rfl
          subst hT0
          subst hS0
          clear hlowT
          go_wp2_with (first
            | (go_at_call 6; go_loud (refine (HIX.out _ (by first | exact HB.out | exact Below.drewN' HB.out _)).out.mono ?_; rintro e w3 ⟨hr, hB⟩; unfold ImplOut at hr; rw [HG.out, HS.out] at hr; subst hr; have HB3 : Aside0 (Below w.heap.size w w3) := ⟨HB.out.trans (hB.mono HB.out.size)⟩; clear hB))
            | (go_at_call 7; go_loud (refine (HTC.out _).mono ?_; rintro e w4 ⟨rfl, hB⟩; have HB4 := Aside0.mk (HB3.out.trans (hB.mono HB3.out.size)); clear hB)))
          go_ret
          exact ⟨by first | rfl | simp, by first | exact HB4.out | exact Below.drewN' HB4.out _⟩
        · have hTm : T = (m : Int) := by rw [← hlowT, HTM.out]; rfl
          have hm1 := HM1.out rfl
          have zT : (T == 0) = false := beq_eq_false_iff_ne.mpr (by omega)
          have zT0 := eq_false (show ¬ T = 0 by omega)
          have hdv : IntKind.u64.wrap (Int.tdiv 18446744073709551615 T) = ((18446744073709551615 / m : Nat) : Int) := by
            have hle : 18446744073709551615 / m ≤ 18446744073709551615 := Nat.div_le_self _ _
            rw [hTm, Int.tdiv_eq_ediv_of_nonneg (by decide)]
            have e : (18446744073709551615 : Int) / (m : Int) = ((18446744073709551615 / m : Nat) : Int) := rfl
            rw [e]
            generalize 18446744073709551615 / m = x at hle ⊢
            exact Go.Proofs.YtnpkocpknmhngaaDoor.Pf.u64_in (by omega) (by omega)
          have hlt : 18446744073709551615 / m < n ↔ 18446744073709551615 < n * m := Nat.div_lt_iff_lt_mul hm1
          obtain ⟨x, hx⟩ : ∃ x : Nat, 18446744073709551615 / m = x := ⟨_, rfl⟩
          obtain ⟨P, hPm⟩ : ∃ P : Nat, n * m = P := ⟨_, rfl⟩
          rw [hx] at hdv hlt
          rw [hPm] at hlt
          obtain ⟨Dv, hDv⟩ : ∃ Dv : Int, (x : Int) = Dv := ⟨_, rfl⟩
          rw [hDv] at hdv
          by_cases hnm : P < 18446744073709551616
          · have hnm2 : n * m < 18446744073709551616 := by rw [hPm]; exact hnm
            have k2 : decide (Dv < (n : Int)) = false := decide_eq_false (by omega)
            have k3 := eq_false (show ¬ Dv < (n : Int) by omega)
            have hGe : G = ((n * m : Nat) : Int) := by rw [← HG.out]; unfold outOf; rw [if_pos rfl, if_pos hnm2]; rfl
            have hS1 : S = true := by rw [← HS.out]; unfold outOf; rw [if_pos rfl, if_pos hnm2]; rfl
            have k4 : IntKind.u64.wrap ((n : Int) * T) = G := by
              rw [hTm, hGe, ← Int.natCast_mul]
              exact Go.Proofs.YtnpkocpknmhngaaDoor.Pf.u64_in (by omega) (by omega)
            subst hS1
            clear hlowT hTm hm1 hlt hDv hnm hnm2 hGe hx hPm
            go_wp2_with (first
              | (go_at_call 6; go_loud (refine (HIX.out _ (by first | exact HB.out | exact Below.drewN' HB.out _)).out.mono ?_; rintro e w3 ⟨hr, hB⟩; unfold ImplOut at hr; rw [HG.out, HS.out] at hr; subst hr; have HB3 : Aside0 (Below w.heap.size w w3) := ⟨HB.out.trans (hB.mono HB.out.size)⟩; clear hB))
              | (go_at_call 7; go_loud (refine (HTC.out _).mono ?_; rintro e w4 ⟨rfl, hB⟩; have HB4 := Aside0.mk (HB3.out.trans (hB.mono HB3.out.size)); clear hB)))
            go_ret
            exact ⟨by first | rfl | simp, by first | exact HB4.out | exact Below.drewN' HB4.out _⟩
          · have hnm2 : ¬ n * m < 18446744073709551616 := by rw [hPm]; exact hnm
            have k2 : decide (Dv < (n : Int)) = true := decide_eq_true (by omega)
            have k3 := eq_true (show Dv < (n : Int) by omega)
            have hS1 : S = false := by rw [← HS.out]; unfold outOf; rw [if_pos rfl, if_neg hnm2]; rfl
            subst hS1
            clear hlowT hTm hm1 hlt hDv hnm hnm2 hx hPm
            go_wp2_with (first
              | (go_at_call 6; go_loud (refine (HIX.out _ (by first | exact HB.out | exact Below.drewN' HB.out _)).out.mono ?_; rintro e w3 ⟨hr, hB⟩; unfold ImplOut at hr; rw [HG.out, HS.out] at hr; subst hr; have HB3 : Aside0 (Below w.heap.size w w3) := ⟨HB.out.trans (hB.mono HB.out.size)⟩; clear hB))
              | (go_at_call 7; go_loud (refine (HTC.out _).mono ?_; rintro e w4 ⟨rfl, hB⟩; have HB4 := Aside0.mk (HB3.out.trans (hB.mono HB3.out.size)); clear hB)))
            go_ret
            exact ⟨by first | rfl | simp, by first | exact HB4.out | exact Below.drewN' HB4.out _⟩
end Go.Proofs.YtnpkocpknmhngaaDoor.Plain
