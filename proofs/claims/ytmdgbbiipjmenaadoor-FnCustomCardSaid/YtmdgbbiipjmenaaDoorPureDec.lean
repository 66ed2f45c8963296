/- The plain part of whole numbers' texts: the printed functions spec.Decimal, spec.grouped, spec.Comma and humanize.Comma come to the digits with commas behind every three (condition: the number lies in 64 bits). -/
import Derived.Test.YtmdgbbiipjmenaaDoorPAllx3
import Derived.Test.YtmdgbbiipjmenaaDoorPlainDec
namespace Go.Proofs.YtmdgbbiipjmenaaDoor.PureDec
open Go.RowKit Go.Lib Go.Proofs.YtmdgbbiipjmenaaDoor.PAll Go.Proofs.YtmdgbbiipjmenaaDoorW.PrintWords Go.Proofs.YtmdgbbiipjmenaaDoorW.PrintLast Go.Proofs.YtmdgbbiipjmenaaDoor.PlainDec

/-! spec.Decimal -/
theorem tm (x : Int) : (Int.tmod x 10).natAbs = x.natAbs % 10 := by rw [Int.natAbs_tmod]; rfl
theorem td (x : Int) : (Int.tdiv x 10).natAbs = x.natAbs / 10 := by rw [Int.natAbs_tdiv]; rfl
theorem dec_l0 (x0 : Int) : ∀ (m k : Nat) (x4 : Int) (s : List UInt8), -9223372036854775808 ≤ x4 → x4 ≤ 9223372036854775807 → nDigits x4.natAbs = m → m ≤ k → s.length + m ≤ 100 →
    spec_Decimal.l0 k x0 ⟨s.toArray⟩ x4 = some ⟨(if x0 < 0 then 45 :: (decDigits x4.natAbs ++ s) else decDigits x4.natAbs ++ s).toArray⟩ := by
  intro m
  induction m with
  | zero => intro k x4 s _ _ h; have := nDigits_pos x4.natAbs; omega
  | succ m ih =>
    intro k x4 s h0 h1 hm hk hs
    obtain ⟨k, rfl⟩ : ∃ j, k = j + 1 := ⟨k - 1, by omega⟩
    have hm2 := tm x4
    have hd2 := td x4
    have hn := nD_le (u := x4.natAbs) (by omega)
    have hl : (decDigits (x4.natAbs / 10)).length = nDigits (x4.natAbs / 10) := decDigits_length _
    -- the round, told by its digit
    have key : ∀ D : Int, D = ((x4.natAbs % 10 : Nat) : Int) → ∀ X : ByteArray, X = Utf8.encode (wrap32 (wrap64 (48 + D))) →
        (if X.size + (⟨s.toArray⟩ : ByteArray).size ≤ 9223372036854775807 then (if (wrap64 (Int.tdiv x4 10)) = 0 then (if x0 < 0 then (if 1 + (X ++ ⟨s.toArray⟩).size ≤ 9223372036854775807 then (some ((⟨#[45]⟩ : ByteArray) ++ (X ++ ⟨s.toArray⟩))) else (none)) else (some (X ++ ⟨s.toArray⟩))) else (spec_Decimal.l0 k x0 (X ++ ⟨s.toArray⟩) (wrap64 (Int.tdiv x4 10)))) else (none))
          = some ⟨(if x0 < 0 then 45 :: (decDigits x4.natAbs ++ s) else decDigits x4.natAbs ++ s).toArray⟩ := by
      intro D hD X hX
      have hX2 : X = ⟨[UInt8.ofNat (48 + x4.natAbs % 10)].toArray⟩ := by
        rw [hX, wr _ (by omega) (by omega), wr32 _ (by omega) (by omega), enc_ascii _ (by omega) (by omega), hD]
        rw [show ((48 : Int) + ((x4.natAbs % 10 : Nat) : Int)).toNat = 48 + x4.natAbs % 10 by omega]
      subst hX2
      clear hX
      rw [mk_app, mk_size, mk_size, mk_size, if_pos (by simp; omega), wr _ (by omega) (by omega)]
      by_cases hz : Int.tdiv x4 10 = 0
      · rw [if_pos hz]
        have h10 : x4.natAbs < 10 := by rw [hz] at hd2; simp at hd2; omega
        rw [decDigits_one h10, show x4.natAbs % 10 = x4.natAbs by omega]
        by_cases hx : x0 < 0
        · rw [if_pos hx, if_pos hx, if_pos (by simp; omega)]
          rw [show (⟨#[45]⟩ : ByteArray) = ⟨[(45 : UInt8)].toArray⟩ from rfl, mk_app]
          rfl
        · rw [if_neg hx, if_neg hx]
      · rw [if_neg hz]
        have h10 : ¬ x4.natAbs < 10 := by
          intro h
          apply hz
          have : (Int.tdiv x4 10).natAbs = 0 := by omega
          omega
        have hmm : nDigits (x4.natAbs / 10) = m := by
          have := nDigits_big h10
          omega
        rw [ih k (Int.tdiv x4 10) _ (by omega) (by omega) (by rw [hd2]; exact hmm) (by omega) (by simp; omega), hd2, dec_big h10]
        simp
    rw [spec_Decimal.l0]
    by_cases hneg : Int.tmod x4 10 < 0
    · rw [if_pos hneg]
      exact key (wrap64 (-(Int.tmod x4 10))) (by rw [wr _ (by omega) (by omega)]; omega) _ rfl
    · rw [if_neg hneg]
      exact key (Int.tmod x4 10) (by omega) _ rfl

theorem decimal_ok (n : Int) (h0 : -9223372036854775808 ≤ n) (h1 : n ≤ 9223372036854775807) (k : Nat) (hk : 20 ≤ k) : spec_Decimal.f k n = some (decB n) := by
  have hn := nD_le (u := n.natAbs) (by omega)
  unfold spec_Decimal.f
  rw [show (⟨#[]⟩ : ByteArray) = ⟨([] : List UInt8).toArray⟩ from rfl, dec_l0 n _ k n [] h0 h1 rfl (by omega) (by simp; omega)]
  unfold decB
  rw [itoa_eq]
  simp

/-! spec.grouped -/
theorem one_at (l : List UInt8) (i : Int) (h0 : 0 ≤ i) (h : i.toNat < l.length) : (⟨l.toArray⟩ : ByteArray).extract i.toNat (i + 1).toNat = ⟨[l[i.toNat]].toArray⟩ := by
  rw [ByteArray.extract_mk, show (i + 1).toNat - i.toNat = 1 by omega, List.drop_eq_getElem_cons h]
  rfl
theorem grouped_l0 (l : List UInt8) (hl : l.length ≤ 100) : ∀ (d k : Nat) (i : Int) (out : List UInt8), 0 ≤ i → (l.length : Int) - i = d → d + 1 ≤ k → (out.length : Int) ≤ 2 * i →
    spec_grouped.l0 k ⟨l.toArray⟩ ⟨#[44]⟩ ⟨out.toArray⟩ (l.length : Int) i = some ⟨(out ++ (if i = 0 then grp l 0 else gt (l.drop i.toNat) 0)).toArray⟩ := by
  intro d
  induction d with
  | zero =>
    intro k i out h0 hd hk ho
    obtain ⟨k, rfl⟩ : ∃ j, k = j + 1 := ⟨k - 1, by omega⟩
    rw [spec_grouped.l0, if_neg (by omega), List.drop_of_length_le (by omega)]
    by_cases hi : i = 0
    · rw [if_pos hi]
      have : l = [] := List.eq_nil_of_length_eq_zero (by omega)
      subst this
      simp [grp]
    · rw [if_neg hi]
      simp [gt]
  | succ d ih =>
    intro k i out h0 hd hk ho
    obtain ⟨k, rfl⟩ : ∃ j, k = j + 1 := ⟨k - 1, by omega⟩
    have hi : i.toNat < l.length := by omega
    have he := one_at l i h0 hi
    have hw : wrap64 (i + 1) = i + 1 := wr _ (by omega) (by omega)
    have hw2 : wrap64 ((l.length : Int) - i) = (l.length : Int) - i := wr _ (by omega) (by omega)
    have hdr := List.drop_eq_getElem_cons hi
    have en : i.toNat + 1 = (i + 1).toNat := by omega
    have e1 : (⟨#[44]⟩ : ByteArray) = ⟨[(44 : UInt8)].toArray⟩ := rfl
    rw [spec_grouped.l0]
    rw [mk_size, hw, hw2, he, if_pos (by omega)]
    by_cases hp : i > 0
    · rw [if_pos hp]
      by_cases h3 : Int.tmod ((l.length : Int) - i) 3 = 0
      · have h3' : ((l.drop (i.toNat + 1)).length + 1 + 0) % 3 = 0 := by
          rw [Int.tmod_eq_emod_of_nonneg (by omega)] at h3
          rw [List.length_drop]
          omega
        rw [if_pos h3, e1, mk_app, mk_app, mk_size, mk_size, mk_size, mk_size]
        rw [if_pos (by simp; omega), if_pos h0, if_pos (by omega), if_pos (by omega), if_pos (by simp; omega)]
        rw [← e1, ih k (i + 1) _ (by omega) (by omega) (by omega) (by simp; omega), if_neg (by omega), if_neg (by omega), hdr, gt, if_pos h3', ← en]
        simp
      · have h3' : ¬ ((l.drop (i.toNat + 1)).length + 1 + 0) % 3 = 0 := by
          rw [Int.tmod_eq_emod_of_nonneg (by omega)] at h3
          rw [List.length_drop]
          omega
        rw [if_neg h3, mk_app, mk_size, mk_size]
        rw [if_pos h0, if_pos (by omega), if_pos (by omega), if_pos (by simp; omega)]
        rw [ih k (i + 1) _ (by omega) (by omega) (by omega) (by simp; omega), if_neg (by omega), if_neg (by omega), hdr, gt, if_neg h3', ← en]
        simp
    · have hi0 : i = 0 := by omega
      subst hi0
      rw [if_neg hp, mk_app, mk_size, mk_size]
      rw [if_pos h0, if_pos (by omega), if_pos (by omega), if_pos (by simp; omega)]
      rw [ih k (0 + 1) _ (by omega) (by omega) (by omega) (by simp; omega), if_neg (by omega), if_pos rfl]
      have hg : grp l 0 = l[(0 : Int).toNat] :: gt (l.drop ((0 : Int).toNat + 1)) 0 := by
        cases l with
        | nil => simp at hi
        | cons c t => rfl
      rw [hg, ← en]
      simp
theorem grouped_ok (l : List UInt8) (hl : l.length ≤ 100) (k : Nat) (hk : 101 ≤ k) : spec_grouped.f k ⟨l.toArray⟩ ⟨#[44]⟩ = some ⟨(grp l 0).toArray⟩ := by
  unfold spec_grouped.f
  rw [mk_size, show (⟨#[]⟩ : ByteArray) = ⟨([] : List UInt8).toArray⟩ from rfl, grouped_l0 l hl l.length k 0 [] (by omega) (by omega) (by omega) (by simp)]
  simp
theorem specComma_ok (n : Int) (h0 : -9223372036854775808 ≤ n) (h1 : n ≤ 9223372036854775807) (k : Nat) (hk : 101 ≤ k) : spec_Comma.f k n = some (comma n) := by
  have hi := itoa_len n h0 h1
  have hc := commaL_len n h0 h1
  unfold spec_Comma.f
  rw [decimal_ok n h0 h1 k (by omega), Option.bind_some]
  unfold decB comma commaL
  rw [itoa_eq] at hi ⊢
  unfold commaL at hc
  by_cases hn : n < 0
  · rw [if_pos hn] at hi hc
    simp only [List.length_cons] at hi hc
    rw [if_pos hn, if_pos hn, if_pos hn, mk_size, if_pos (by simp only [List.length_cons]; omega), ByteArray.extract_mk]
    rw [show ((45 :: decDigits n.natAbs).drop 1).take ((45 :: decDigits n.natAbs).length - 1) = decDigits n.natAbs by simp]
    rw [grouped_ok _ (by omega) k (by omega), Option.bind_some, mk_size, if_pos (by omega), show (⟨#[45]⟩ : ByteArray) = ⟨[(45 : UInt8)].toArray⟩ from rfl, mk_app]
    rfl
  · rw [if_neg hn] at hi
    rw [if_neg hn, if_neg hn, if_neg hn, grouped_ok _ (by omega) k (by omega), Option.bind_some]

/-! humanize.Comma -/
theorem set_last (n : Nat) (x : Int) (s : List Int) : (List.replicate (n + 1) 0 ++ s).set n x = List.replicate n 0 ++ x :: s := by
  rw [List.replicate_succ', List.append_assoc, List.set_append_right _ _ (by simp)]
  simp
theorem nm_cons (a : UInt8) (l : List UInt8) : nm (a :: l) = (a.toNat : Int) :: nm l := rfl
theorem nm44 (l : List UInt8) : nm (44 :: l) = 44 :: nm l := rfl
theorem nm45 (l : List UInt8) : nm (45 :: l) = 45 :: nm l := rfl
theorem cm_last (k v neg : Nat) (s : List Int) (hneg : neg ≤ 1) (h10 : v < 10) (c : Int) (hs : s.length ≤ 100) :
    humanize_Comma.l1 (k + 1) (v : Int) (List.replicate (neg + 1) 0 ++ s) (neg : Int) c = some (strOfNums (if neg = 1 then 45 :: ((48 + v : Nat) : Int) :: s else ((48 + v : Nat) : Int) :: s)) := by
  have hx : ((((v : Int)) % 256) + 48) % 256 = ((48 + v : Nat) : Int) := by omega
  rw [humanize_Comma.l1, if_neg (by omega), if_pos (by omega), if_pos (by simp; omega), Option.bind_some, hx, show (neg : Int).toNat = neg by omega, set_last]
  have : neg = 0 ∨ neg = 1 := by omega
  rcases this with h | h
  · subst h
    rw [if_neg (by decide), if_neg (by decide)]
    rfl
  · subst h
    rw [if_pos (show ((1 : Nat) : Int) = 1 from rfl), if_pos (by simp; omega), if_pos rfl]
    rfl
theorem cm_x (v : Nat) : (((Int.tmod (v : Int) 10) % 256) + 48) % 256 = ((48 + v % 10 : Nat) : Int) := by
  rw [Int.tmod_eq_emod_of_nonneg (by omega)]; omega
theorem cm_q (v : Nat) (hv : v ≤ 9223372036854775807) : wrap64 (Int.tdiv (v : Int) 10) = ((v / 10 : Nat) : Int) := by
  rw [Int.tdiv_eq_ediv_of_nonneg (by omega), wr _ (by omega) (by omega)]; omega
theorem cm_step1 (k v q : Nat) (s : List Int) (hv : v ≤ 9223372036854775807) (h10 : ¬ v < 10) (c : Int) (h0 : 0 ≤ c) (h1 : c ≤ 1) (hs : s.length ≤ 100) (hq : q ≤ 100) :
    humanize_Comma.l1 (k + 1) (v : Int) (List.replicate (q + 1) 0 ++ s) (q : Int) c = humanize_Comma.l1 k ((v / 10 : Nat) : Int) (List.replicate q 0 ++ ((48 + v % 10 : Nat) : Int) :: s) ((q : Int) - 1) (c + 1) := by
  rw [humanize_Comma.l1, if_pos (by omega), if_pos (by omega), if_pos (by simp; omega), Option.bind_some, cm_x, cm_q v hv, show (q : Int).toNat = q by omega, set_last, if_neg (by omega), wr ((q : Int) - 1) (by omega) (by omega)]
  rw [show (c + 1) % 256 = c + 1 by omega]
theorem cm_step2 (k v q : Nat) (s : List Int) (hv : v ≤ 9223372036854775807) (h10 : ¬ v < 10) (hs : s.length ≤ 100) (hq : q ≤ 100) :
    humanize_Comma.l1 (k + 1) (v : Int) (List.replicate (q + 2) 0 ++ s) ((q : Int) + 1) 2 = humanize_Comma.l1 k ((v / 10 : Nat) : Int) (List.replicate q 0 ++ 44 :: ((48 + v % 10 : Nat) : Int) :: s) ((q : Int) - 1) 0 := by
  rw [humanize_Comma.l1, if_pos (by omega), if_pos (by omega), if_pos (by simp; omega), Option.bind_some, cm_x, cm_q v hv, show ((q : Int) + 1).toNat = q + 1 by omega, set_last, if_pos rfl]
  rw [wr ((q : Int) + 1 - 1) (by omega) (by omega), show (q : Int) + 1 - 1 = (q : Int) by omega, wr ((q : Int) - 1) (by omega) (by omega), if_pos (by omega), if_pos (by simp; omega), show (q : Int).toNat = q by omega, set_last]
theorem grp_ne (v r : Nat) : 1 ≤ (grp (decDigits v) r).length := by
  have := dec_ne v
  cases hL : decDigits v with
  | nil => exact absurd hL this
  | cons a t => simp [grp]
theorem grp_le (v r : Nat) (hv : v ≤ 9223372036854775807) : (grp (decDigits v) r).length ≤ 40 := by
  have hn20 := nD_le (u := v) (by omega)
  have hdl := decDigits_length v
  cases hL : decDigits v with
  | nil => simp [grp]
  | cons a t =>
    have h5 := gt_len t r
    have h6 : t.length + 1 ≤ 20 := by rw [hL] at hdl; simp at hdl; omega
    simp only [grp, List.length_cons]
    omega
theorem nm_dig (d : Nat) (h : d < 10) (l : List UInt8) : nm (UInt8.ofNat (48 + d) :: l) = ((48 + d : Nat) : Int) :: nm l := by
  rw [nm_cons, dig_nat d h]
theorem nm_len (l : List UInt8) : (nm l).length = l.length := by simp [nm]
theorem comma_l1 (neg : Nat) (hneg : neg ≤ 1) : ∀ (m k : Nat) (v : Nat) (r : Nat) (suf : List UInt8) (c : Int) (n : Nat),
    v ≤ 9223372036854775807 → nDigits v = m → m ≤ k → c = ((r % 3 : Nat) : Int) → n = (grp (decDigits v) r).length + neg → suf.length + 2 * m ≤ 100 →
      humanize_Comma.l1 k (v : Int) (List.replicate n 0 ++ nm suf) ((n : Int) - 1) c = some ⟨(if neg = 1 then 45 :: (grp (decDigits v) r ++ suf) else grp (decDigits v) r ++ suf).toArray⟩ := by
  intro m
  induction m with
  | zero => intro k v r suf c n _ h; have := nDigits_pos v; omega
  | succ m ih =>
    intro k v r suf c n hv hm hk hc hn hs
    obtain ⟨k, rfl⟩ : ∃ j, k = j + 1 := ⟨k - 1, by omega⟩
    by_cases h10 : v < 10
    · rw [grp_one h10 r] at hn ⊢
      have hn' : n = neg + 1 := by rw [hn, List.length_singleton]; omega
      subst hn'
      rw [show ((neg + 1 : Nat) : Int) - 1 = (neg : Int) by omega, cm_last k v neg (nm suf) hneg h10 c (by rw [nm_len]; omega)]
      rw [← str_nm]
      by_cases h1 : neg = 1
      · rw [if_pos h1, if_pos h1, nm45, List.singleton_append, nm_dig v h10]
      · rw [if_neg h1, if_neg h1, List.singleton_append, nm_dig v h10]
    · have hd : v % 10 < 10 := Nat.mod_lt _ (by decide)
      have hmm : nDigits (v / 10) = m := by
        have := nDigits_big h10
        omega
      have hne := grp_ne (v / 10) (r + 1)
      have hle := grp_le (v / 10) (r + 1) (by omega)
      rw [grp_step h10 r] at hn ⊢
      rw [List.length_append] at hn
      by_cases h2 : c = 2
      · have h3 : (0 + 1 + r) % 3 = 0 := by omega
        have hgt : gt [UInt8.ofNat (48 + v % 10)] r = [44, UInt8.ofNat (48 + v % 10)] := by
          rw [gt, List.length_nil, if_pos h3]; rfl
        rw [hgt] at hn ⊢
        obtain ⟨q, rfl⟩ : ∃ q : Nat, n = q + 2 := ⟨n - 2, by rw [hn]; simp; omega⟩
        have hq : q = (grp (decDigits (v / 10)) (r + 1)).length + neg := by simp at hn; omega
        rw [h2, show ((q + 2 : Nat) : Int) - 1 = (q : Int) + 1 by omega, cm_step2 k v q (nm suf) hv h10 (by rw [nm_len]; omega) (by omega)]
        have key := ih k (v / 10) (r + 1) (44 :: UInt8.ofNat (48 + v % 10) :: suf) 0 q (by omega) hmm (by omega) (by omega) hq (by simp; omega)
        rw [nm44, nm_dig _ hd] at key
        rw [key]
        simp
      · have h3 : ¬ (0 + 1 + r) % 3 = 0 := by omega
        have hgt : gt [UInt8.ofNat (48 + v % 10)] r = [UInt8.ofNat (48 + v % 10)] := by
          rw [gt, List.length_nil, if_neg h3]; rfl
        rw [hgt] at hn ⊢
        obtain ⟨q, rfl⟩ : ∃ q : Nat, n = q + 1 := ⟨n - 1, by rw [hn]; simp; omega⟩
        have hq : q = (grp (decDigits (v / 10)) (r + 1)).length + neg := by simp at hn; omega
        rw [show ((q + 1 : Nat) : Int) - 1 = (q : Int) by omega, cm_step1 k v q (nm suf) hv h10 c (by omega) (by omega) (by rw [nm_len]; omega) (by omega)]
        have key := ih k (v / 10) (r + 1) (UInt8.ofNat (48 + v % 10) :: suf) (c + 1) q (by omega) hmm (by omega) (by omega) hq (by simp; omega)
        rw [nm_dig _ hd] at key
        rw [key]
        simp
theorem comma_j1 (n : Int) (h0 : -9223372036854775808 < n) (h1 : n ≤ 9223372036854775807) (k : Nat) (hk : 30 ≤ k) (x3 : Int)
    (hx3 : x3 = ((grp (decDigits n.natAbs) 0).length : Int) + (if n < 0 then 1 else 0)) : humanize_Comma.j1 k (n.natAbs : Int) x3 = some (comma n) := by
  obtain ⟨k, rfl⟩ : ∃ j, k = j + 1 := ⟨k - 1, by omega⟩
  have hl := grp_len (decDigits n.natAbs) (dec_ne _)
  have hd := decDigits_length n.natAbs
  have h20 := nD_le (u := n.natAbs) (by omega)
  have hpos := nDigits_pos n.natAbs
  rw [humanize_Comma.j1]
  have hb : 0 ≤ x3 ∧ x3 ≤ 100 := by rw [hx3]; split <;> omega
  rw [if_pos hb.1, if_pos (by omega), Option.bind_some]
  obtain ⟨n3, rfl⟩ : ∃ n3 : Nat, x3 = (n3 : Int) := ⟨x3.toNat, by omega⟩
  rw [show (n3 : Int).toNat = n3 by omega, List.length_replicate, wr _ (by omega) (by omega)]
  by_cases hneg : n < 0
  · rw [if_pos hneg] at hx3
    have key := comma_l1 1 (by omega) (nDigits n.natAbs) k n.natAbs 0 [] 0 n3 (by omega) rfl (by omega) (by simp) (by omega) (by simp; omega)
    rw [show nm [] = [] from rfl, List.append_nil] at key
    rw [key]
    unfold comma commaL
    rw [if_pos rfl, if_pos hneg]
    simp
  · rw [if_neg hneg] at hx3
    have key := comma_l1 0 (by omega) (nDigits n.natAbs) k n.natAbs 0 [] 0 n3 (by omega) rfl (by omega) (by simp) (by omega) (by simp; omega)
    rw [show nm [] = [] from rfl, List.append_nil] at key
    rw [key]
    unfold comma commaL
    rw [if_neg (by decide), if_neg hneg]
    simp
theorem comma_l0 (n : Int) (h0 : -9223372036854775808 < n) (h1 : n ≤ 9223372036854775807) : ∀ (m k : Nat) (x4 : Int) (c : Nat), -9223372036854775808 < x4 → x4 ≤ 9223372036854775807 →
    (if x4 = 0 then 0 else nDigits x4.natAbs) = m → c + m = nDigits n.natAbs → m + 40 ≤ k → humanize_Comma.l0 k n (c : Int) x4 = some (comma n) := by
  have hl := grp_len (decDigits n.natAbs) (dec_ne _)
  have hd := decDigits_length n.natAbs
  have h20 := nD_le (u := n.natAbs) (by omega)
  have hpos := nDigits_pos n.natAbs
  intro m
  induction m with
  | zero =>
    intro k x4 c hx0 hx1 hm hc hk
    obtain ⟨k, rfl⟩ : ∃ j, k = j + 1 := ⟨k - 1, by omega⟩
    have hz : x4 = 0 := by
      by_cases h : x4 = 0
      · exact h
      · rw [if_neg h] at hm
        have := nDigits_pos x4.natAbs
        omega
    rw [humanize_Comma.l0, if_pos hz]
    have e1 : ((c : Int) + (((c : Int) - 1) % 256) / 3) % 256 = ((grp (decDigits n.natAbs) 0).length : Int) := by omega
    by_cases hneg : n < 0
    · rw [if_pos hneg, e1, wr _ (by omega) (by omega), show (-n) = (n.natAbs : Int) by omega]
      exact comma_j1 n h0 h1 k (by omega) _ (by rw [if_pos hneg]; omega)
    · rw [if_neg hneg, e1]
      have := comma_j1 n h0 h1 k (by omega) ((grp (decDigits n.natAbs) 0).length : Int) (by rw [if_neg hneg]; omega)
      rw [show (n.natAbs : Int) = n by omega] at this
      exact this
  | succ m ih =>
    intro k x4 c hx0 hx1 hm hc hk
    obtain ⟨k, rfl⟩ : ∃ j, k = j + 1 := ⟨k - 1, by omega⟩
    have hz : x4 ≠ 0 := by
      intro h
      rw [if_pos h] at hm
      omega
    rw [if_neg hz] at hm
    have hd2 := td x4
    rw [humanize_Comma.l0, if_neg hz, wr _ (by omega) (by omega), show ((c : Int) + 1) % 256 = ((c + 1 : Nat) : Int) by omega]
    refine ih k (Int.tdiv x4 10) (c + 1) (by omega) (by omega) ?_ (by omega) (by omega)
    by_cases h10 : x4.natAbs < 10
    · rw [if_pos (by omega)]
      rw [nDigits_small h10] at hm
      omega
    · rw [if_neg (by omega), hd2]
      have := nDigits_big h10
      omega
theorem andNot7 (n : Int) (h0 : -9223372036854775808 ≤ n) (h1 : n ≤ 9223372036854775807) (h : Go.bits .andNot .i64 n 7 = 0) : 0 ≤ n ∧ n ≤ 7 := by
  unfold Go.bits at h
  simp only [IntKind.bits] at h
  generalize hb : BitVec.ofInt 64 n = b at h
  have hz : (b &&& ~~~(BitVec.ofInt 64 7)) = 0#64 := by
    have hlt := (b &&& ~~~(BitVec.ofInt 64 7)).isLt
    have : IntKind.i64.wrap (((b &&& ~~~(BitVec.ofInt 64 7)).toNat : Nat) : Int) = 0 := h
    rw [IntKind.wrap_i64] at this
    have h3 : (b &&& ~~~(BitVec.ofInt 64 7)).toNat = 0 := by omega
    exact BitVec.eq_of_toNat_eq (by rw [h3]; rfl)
  have hle : b ≤ 7#64 := by
    have hor : (7#64 ||| ~~~(7#64)) = BitVec.allOnes 64 := by decide
    have h8 : (b &&& 7#64) ||| (b &&& ~~~(7#64)) = b := by rw [← BitVec.and_or_distrib_left, hor, BitVec.and_allOnes]
    have this : b = b &&& 7#64 := by
      have hz' : b &&& ~~~(7#64) = 0#64 := hz
      rw [hz', BitVec.or_zero] at h8
      exact h8.symm
    rw [this]
    exact BitVec.le_def.2 (by rw [BitVec.toNat_and]; exact Nat.and_le_right)
  have hbn : b.toNat ≤ 7 := by
    have := BitVec.le_def.1 hle
    simpa using this
  have hof : (b.toNat : Int) = n % 18446744073709551616 := by
    rw [← hb, BitVec.toNat_ofInt]
    omega
  omega
theorem humComma_ok (n : Int) (h0 : -9223372036854775808 ≤ n) (h1 : n ≤ 9223372036854775807) (k : Nat) (hk : 100 ≤ k) : humanize_Comma.f k n = some (comma n) := by
  unfold humanize_Comma.f
  by_cases hb : Go.bits .andNot .i64 n 7 = 0
  · rw [if_pos hb]
    have h7 := andNot7 n h0 h1 hb
    have hx : ((((n) % 256) + 48) % 256) = ((48 + n.natAbs : Nat) : Int) := by omega
    rw [hx]
    unfold comma commaL
    rw [if_neg (by omega), decDigits_one (by omega), show grp [UInt8.ofNat (48 + n.natAbs)] 0 = [UInt8.ofNat (48 + n.natAbs)] from rfl, ← str_nm, nm_dig _ (by omega)]
    rfl
  · rw [if_neg hb]
    by_cases hm : n = -9223372036854775808
    · rw [if_pos hm]
      subst hm
      decide +kernel
    · rw [if_neg hm]
      have hn0 : n ≠ 0 := by
        intro h
        subst h
        exact hb (by decide)
      have hp := nDigits_pos n.natAbs
      have h20 := nD_le (u := n.natAbs) (by omega)
      exact comma_l0 n (by omega) h1 (nDigits n.natAbs) k n 0 (by omega) h1 (by rw [if_neg hn0]) (by omega) (by omega)
#print axioms humComma_ok
#print axioms specComma_ok
end Go.Proofs.YtmdgbbiipjmenaaDoor.PureDec
