/- What humanize.zzWithout and impl.isText answer, in plain Lean; commas taken out of a number's text. -/
import Derived.Test.YtmdgbbiipjmenaaDoorPureDec
import Derived.Lib.ItoaNum
import Derived.Lib.ParseIntB
namespace Go.Proofs.YtmdgbbiipjmenaaDoor.PureComma
open Go.RowKit Go.Lib Go.Proofs.YtmdgbbiipjmenaaDoor.PAll Go.Proofs.YtmdgbbiipjmenaaDoorW.PrintWords Go.Proofs.YtmdgbbiipjmenaaDoorW.PrintLast Go.Proofs.YtmdgbbiipjmenaaDoor.PlainDec Go.Proofs.YtmdgbbiipjmenaaDoor.PureDec

theorem bt_mk (l : List UInt8) (i : Int) (h : i.toNat < l.length) : bt ⟨l.toArray⟩ i = (l[i.toNat].toNat : Int) := by
  unfold bt
  rw [dif_pos (by rw [mk_size]; exact h)]
  rfl
theorem nm_snoc (l : List UInt8) (a : UInt8) : nm l ++ [(a.toNat : Int)] = nm (l ++ [a]) := by simp [nm]
theorem zz_l0 (l : List UInt8) (hl : l.length ≤ 100000) : ∀ (d k : Nat) (i : Int) (out : List UInt8), 0 ≤ i → (l.length : Int) - i = d → d + 1 ≤ k → (out.length : Int) ≤ i →
    humanize_zzWithout.l0 k ⟨l.toArray⟩ 44 (nm out) i = some ⟨(out ++ (l.drop i.toNat).filter (· != 44)).toArray⟩ := by
  intro d
  induction d with
  | zero =>
    intro k i out h0 hd hk ho
    obtain ⟨k, rfl⟩ : ∃ j, k = j + 1 := ⟨k - 1, by omega⟩
    rw [humanize_zzWithout.l0, mk_size, if_neg (by omega), List.drop_of_length_le (by omega), str_nm]
    simp
  | succ d ih =>
    intro k i out h0 hd hk ho
    obtain ⟨k, rfl⟩ : ∃ j, k = j + 1 := ⟨k - 1, by omega⟩
    have hi : i.toNat < l.length := by omega
    have hw : wrap64 (i + 1) = i + 1 := wr _ (by omega) (by omega)
    have hdr := List.drop_eq_getElem_cons hi
    have en : i.toNat + 1 = (i + 1).toNat := by omega
    rw [humanize_zzWithout.l0, mk_size, if_pos (by omega), if_pos h0, hw, bt_mk l i hi, hdr]
    by_cases h44 : l[i.toNat] = 44
    · rw [h44, if_pos (by rfl), ih k (i + 1) out (by omega) (by omega) (by omega) (by omega), ← en]
      simp
    · have h44' : ¬ ((l[i.toNat].toNat : Int) = 44) := fun h => h44 (UInt8.toNat_inj.mp (by simpa using Int.ofNat_inj.mp h))
      have hlen : (nm out).length = out.length := nm_len out
      rw [if_neg h44', if_pos (by omega), nm_snoc, ih k (i + 1) _ (by omega) (by omega) (by omega) (by simp; omega), ← en, List.filter_cons_of_pos (by simpa using h44)]
      simp
theorem zz_ok (l : List UInt8) (hl : l.length ≤ 100000) (k : Nat) (hk : l.length + 1 ≤ k) : humanize_zzWithout.f k ⟨l.toArray⟩ 44 = some ⟨(l.filter (· != 44)).toArray⟩ := by
  unfold humanize_zzWithout.f
  have := zz_l0 l hl l.length k 0 [] (by omega) (by omega) hk (by simp)
  simpa [nm] using this

theorem gt_filter : ∀ (l : List UInt8) (r : Nat), 44 ∉ l → (gt l r).filter (· != 44) = l
  | [], r, _ => rfl
  | c :: t, r, h => by
    have hc : (c != 44) = true := by simp only [List.mem_cons, not_or] at h; simpa using fun e => h.1 e.symm
    have ih := gt_filter t r (fun m => h (List.mem_cons_of_mem _ m))
    rw [gt]
    split
    · rw [List.filter_cons_of_neg (by simp), List.filter_cons_of_pos (p := fun x => x != 44) hc, ih]
    · rw [List.filter_cons_of_pos (p := fun x => x != 44) hc, ih]
theorem grp_filter (l : List UInt8) (r : Nat) (h : 44 ∉ l) : (grp l r).filter (· != 44) = l := by
  cases l with
  | nil => rfl
  | cons c t =>
    have hc : (c != 44) = true := by simp only [List.mem_cons, not_or] at h; simpa using fun e => h.1 e.symm
    rw [grp, List.filter_cons_of_pos (p := fun x => x != 44) hc, gt_filter t r (fun m => h (List.mem_cons_of_mem _ m))]
theorem dec_mem (v : Nat) : ∀ b ∈ decDigits v, 48 ≤ b.toNat ∧ b.toNat ≤ 57 := by
  induction v using Nat.strongRecOn with
  | ind v ih =>
    intro b hb
    by_cases h : v < 10
    · rw [decDigits, dif_pos h] at hb
      simp only [List.mem_cons, List.not_mem_nil, or_false] at hb
      rw [hb, dig_nat v h]
      omega
    · rw [dec_big h] at hb
      rcases List.mem_append.mp hb with hb | hb
      · exact ih (v / 10) (by omega) b hb
      · simp only [List.mem_cons, List.not_mem_nil, or_false] at hb
        rw [hb, dig_nat _ (by omega)]
        omega
theorem dec_no44 (v : Nat) : (44 : UInt8) ∉ decDigits v := fun h => by
  have := dec_mem v _ h
  simp at this
theorem comma_filter (n : Int) : (commaL n).filter (· != 44) = itoa n := by
  rw [itoa_eq]
  unfold commaL
  split
  · rw [List.filter_cons_of_pos (by decide), grp_filter _ _ (dec_no44 _)]
  · rw [grp_filter _ _ (dec_no44 _)]
theorem gt_mem : ∀ (l : List UInt8) (r : Nat), ∀ b ∈ gt l r, b = 44 ∨ b ∈ l
  | [], r, b, h => by simp [gt] at h
  | c :: t, r, b, h => by
    rw [gt] at h
    have ih := gt_mem t r b
    split at h
    · simp only [List.mem_cons] at h ⊢
      rcases h with h | h | h
      · exact .inl h
      · exact .inr (.inl h)
      · rcases ih h with h | h
        · exact .inl h
        · exact .inr (.inr h)
    · simp only [List.mem_cons] at h ⊢
      rcases h with h | h
      · exact .inr (.inl h)
      · rcases ih h with h | h
        · exact .inl h
        · exact .inr (.inr h)
theorem grp_mem (l : List UInt8) (r : Nat) : ∀ b ∈ grp l r, b = 44 ∨ b ∈ l := by
  cases l with
  | nil => intro b h; simp [grp] at h
  | cons c t =>
    intro b h
    rw [grp] at h
    simp only [List.mem_cons] at h ⊢
    rcases h with h | h
    · exact .inr (.inl h)
    · rcases gt_mem t r b h with h | h
      · exact .inl h
      · exact .inr (.inr h)
theorem comma_ascii (n : Int) : ∀ b ∈ commaL n, b.toNat ≤ 127 := by
  have key : ∀ b ∈ grp (decDigits n.natAbs) 0, b.toNat ≤ 127 := fun b h => by
    rcases grp_mem _ _ b h with h | h
    · rw [h]; decide
    · have := dec_mem _ _ h; omega
  unfold commaL
  split
  · intro b h
    simp only [List.mem_cons] at h
    rcases h with h | h
    · rw [h]; decide
    · exact key b h
  · exact key

/-! impl.isText, for one text -/
theorem text_l1 (x0 : Bool) (l : List UInt8) (hl : l.length ≤ 200) (hx : x0 = true → ∀ b ∈ l, b.toNat ≤ 127) : ∀ (d k : Nat) (i : Int), 0 ≤ i → (l.length : Int) - i = d → d + 2 ≤ k →
    impl_isText.l1 k x0 [⟨l.toArray⟩] ⟨l.toArray⟩ i [⟨l.toArray⟩] 1 0 = some true := by
  intro d
  induction d with
  | zero =>
    intro k i h0 hd hk
    obtain ⟨k, rfl⟩ : ∃ j, k = j + 2 := ⟨k - 2, by omega⟩
    rw [impl_isText.l1, mk_size, if_neg (by omega), if_neg (by omega), impl_isText.l0, wr _ (by omega) (by omega), if_neg (by omega)]
    rfl
  | succ d ih =>
    intro k i h0 hd hk
    obtain ⟨k, rfl⟩ : ∃ j, k = j + 1 := ⟨k - 1, by omega⟩
    have hi : i.toNat < l.length := by omega
    rw [impl_isText.l1, mk_size, if_pos (by omega), bt_mk l i hi, wr (i + 1) (by omega) (by omega), ih k (i + 1) (by omega) (by omega) (by omega)]
    by_cases c : x0 = true
    · have := hx c _ (List.getElem_mem hi)
      rw [if_pos c, if_pos h0, if_neg (by omega)]
    · rw [if_neg c]
theorem text_ok (x0 : Bool) (l : List UInt8) (hl : l.length ≤ 200) (hx : x0 = true → ∀ b ∈ l, b.toNat ≤ 127) (k : Nat) (hk : 203 ≤ k) : impl_isText.f k x0 [⟨l.toArray⟩] = some true := by
  obtain ⟨k, rfl⟩ : ∃ j, k = j + 1 := ⟨k - 1, by omega⟩
  unfold impl_isText.f
  show impl_isText.l0 (k + 1) x0 [⟨l.toArray⟩] [⟨l.toArray⟩] 1 0 = some true
  rw [impl_isText.l0, if_pos (by omega), if_pos (by omega), if_pos (by simp)]
  show impl_isText.l1 k x0 [⟨l.toArray⟩] ⟨l.toArray⟩ 0 [⟨l.toArray⟩] 1 0 = some true
  exact text_l1 x0 l hl hx l.length k 0 (by omega) (by omega) (by omega)

/-! strconv.ParseInt of a number's own text -/
theorem pu_snoc (M : Nat) (c : UInt8) (hc : 48 ≤ c.toNat ∧ c.toNat ≤ 57) : ∀ (l : List UInt8) (acc u : Nat), parseUintM M acc l = .ok u → ¬ 1844674407370955162 ≤ u → ¬ M < u * 10 + (c.toNat - 48) →
    parseUintM M acc (l ++ [c]) = .ok (u * 10 + (c.toNat - 48))
  | [], acc, u, h, h1, h2 => by
    simp only [parseUintM, NumEnd.ok.injEq] at h
    subst h
    simp only [List.nil_append, parseUintM]
    rw [if_pos hc, if_neg h1, if_neg h2]
  | a :: l, acc, u, h, h1, h2 => by
    rw [parseUintM] at h
    rw [List.cons_append, parseUintM]
    split at h
    · rename_i ha
      rw [if_pos ha]
      split at h
      · cases h
      · rename_i hb
        rw [if_neg hb]
        split at h
        · cases h
        · rename_i hd
          rw [if_neg hd]
          exact pu_snoc M c hc l _ u h h1 h2
    · cases h
theorem pu_dec (v : Nat) : v ≤ 18446744073709551615 → parseUintM 18446744073709551615 0 (decDigits v) = .ok v := by
  induction v using Nat.strongRecOn with
  | ind v ih =>
    intro hv
    by_cases h : v < 10
    · rw [decDigits, dif_pos h]
      have e := dig_nat v h
      simp only [parseUintM]
      rw [if_pos (by omega), if_neg (by omega), if_neg (by omega), e]
      congr 1
      omega
    · rw [dec_big h]
      have e := dig_nat (v % 10) (by omega)
      rw [pu_snoc _ _ (by omega) _ _ _ (ih (v / 10) (by omega) (by omega)) (by omega) (by omega), e]
      congr 1
      omega
theorem pub_dec (v : Nat) (hv : v ≤ 18446744073709551615) : parseUintB 64 (decDigits v) = .ok v := by
  unfold parseUintB
  rw [if_neg (dec_ne v)]
  exact pu_dec v hv
theorem parse_itoa (n : Int) (h0 : -9223372036854775808 ≤ n) (h1 : n ≤ 9223372036854775807) : parseIntB 64 (itoa n) = .ok n := by
  rw [itoa_eq]
  split
  · have e := pub_dec n.natAbs (by omega)
    unfold parseIntB
    simp only
    rw [if_pos (by decide), e]
    simp only
    rw [if_neg (by simp), if_neg (by simp; omega), if_pos (by decide)]
    congr 1
    omega
  · have e := pub_dec n.natAbs (by omega)
    have hm := dec_mem n.natAbs
    cases hd : decDigits n.natAbs with
    | nil => exact absurd hd (dec_ne _)
    | cons c r =>
      have hc := hm c (by rw [hd]; exact List.mem_cons_self)
      rw [hd] at e
      unfold parseIntB
      simp only
      rw [if_neg (by omega), e]
      simp only
      rw [if_neg (by simp; omega), if_neg (by omega), if_neg (by omega)]
      congr 1
      omega
end Go.Proofs.YtmdgbbiipjmenaaDoor.PureComma
