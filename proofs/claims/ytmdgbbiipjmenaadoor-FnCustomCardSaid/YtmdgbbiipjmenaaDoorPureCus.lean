/- The law FnCustom, in plain Lean. -/
import Derived.Test.YtmdgbbiipjmenaaDoorPCusx4
import Derived.Test.YtmdgbbiipjmenaaDoorCusPure
import Derived.Test.YtmdgbbiipjmenaaDoorCusPlain
import Derived.Test.YtmdgbbiipjmenaaDoorPureComma
import Derived.Test.YtmdgbbiipjmenaaDoorPureDecC
namespace Go.Proofs.YtmdgbbiipjmenaaDoor.PureCus
open Go.RowKit Go.Lib Go.Proofs.YtmdgbbiipjmenaaDoor.PCus Go.Proofs.YtmdgbbiipjmenaaDoorW.PrintWords Go.Proofs.YtmdgbbiipjmenaaDoorW.PrintLast Go.Proofs.YtmdgbbiipjmenaaDoorW.PrintMore Go.Proofs.YtmdgbbiipjmenaaDoor.PlainDec Go.Proofs.YtmdgbbiipjmenaaDoor.CusPlain Go.Proofs.YtmdgbbiipjmenaaDoor.CustomPure Go.Proofs.YtmdgbbiipjmenaaDoor.RelPlain Go.Proofs.YtmdgbbiipjmenaaDoor.Rel Go.Proofs.YtmdgbbiipjmenaaDoor.RelRow
open Go.Proofs.YtmdgbbiipjmenaaDoor.PureComma (bt_mk)
open Go.Proofs.YtmdgbbiipjmenaaDoor.PureDec (one_at)
set_option linter.unusedVariables false
open Go.Proofs.YtmdgbbiipjmenaaDoor.PureDecC (decimal_ok)
theorem bt_pre (pre : List UInt8) (c : UInt8) (t : List UInt8) : bt ⟨(pre ++ c :: t).toArray⟩ (pre.length : Int) = (c.toNat : Int) := by
  rw [bt_mk _ _ (by simp)]
  simp
theorem bt_pre1 (pre : List UInt8) (c d : UInt8) (t : List UInt8) : bt ⟨(pre ++ c :: d :: t).toArray⟩ ((pre.length : Int) + 1) = (d.toNat : Int) := by
  have := bt_pre (pre ++ [c]) d t
  simpa using this
theorem nat_ne {c d : UInt8} (h : c ≠ d) : ¬ ((c.toNat : Int) = (d.toNat : Int)) := fun e => h (UInt8.toNat_inj.mp (Int.ofNat_inj.mp e))
/-! impl.isText -/
theorem text_l1g (x0 : Bool) (xs ys : List ByteArray) (l : List UInt8) (hl : l.length ≤ 200) (hx : x0 = true → ∀ b ∈ l, b.toNat ≤ 127) (m j : Int) : ∀ (d k : Nat) (i : Int), 0 ≤ i → (l.length : Int) - i = d →
    impl_isText.l1 (k + d + 1) x0 xs ⟨l.toArray⟩ i ys m j = impl_isText.l0 k x0 xs ys m (wrap64 (j + 1)) := by
  intro d
  induction d with
  | zero =>
    intro k i h0 hd
    rw [impl_isText.l1, mk_size, if_neg (by omega), if_neg (by omega)]
  | succ d ih =>
    intro k i h0 hd
    have hi : i.toNat < l.length := by omega
    rw [impl_isText.l1, mk_size, if_pos (by omega), wr (i + 1) (by omega) (by omega), bt_mk l i hi]
    by_cases c : x0 = true
    · have := hx c _ (List.getElem_mem hi)
      rw [if_pos c, if_pos h0, if_neg (by omega)]
      exact ih k (i + 1) (by omega) (by omega)
    · rw [if_neg c]
      exact ih k (i + 1) (by omega) (by omega)
theorem text1_ok (l : List UInt8) (hl : l.length ≤ 200) (hx : ∀ b ∈ l, b.toNat ≤ 127) (k : Nat) (hk : 203 ≤ k) : impl_isText.f k true [⟨l.toArray⟩] = some true := by
  obtain ⟨q, rfl⟩ : ∃ q, k = (q + 1) + l.length + 1 + 1 := ⟨k - l.length - 3, by omega⟩
  unfold impl_isText.f
  show impl_isText.l0 ((q + 1) + l.length + 1 + 1) true _ _ 1 0 = some true
  rw [impl_isText.l0, if_pos (by omega), if_pos (by omega), if_pos (by simp)]
  show impl_isText.l1 _ true _ ⟨l.toArray⟩ 0 _ 1 0 = _
  rw [text_l1g true _ _ l hl (fun _ => hx) 1 0 l.length (q + 1) 0 (by omega) (by omega), wr (0 + 1) (by omega) (by omega), impl_isText.l0, if_neg (by omega)]
  rfl
theorem text2_ok (a b : List UInt8) (ha : a.length ≤ 200) (hb : b.length ≤ 200) (k : Nat) (hk : 405 ≤ k) : impl_isText.f k false [⟨a.toArray⟩, ⟨b.toArray⟩] = some true := by
  obtain ⟨q, rfl⟩ : ∃ q, k = ((q + 1) + b.length + 1 + 1) + a.length + 1 + 1 := ⟨k - a.length - b.length - 5, by omega⟩
  unfold impl_isText.f
  show impl_isText.l0 (((q + 1) + b.length + 1 + 1) + a.length + 1 + 1) false _ _ 2 0 = some true
  rw [impl_isText.l0, if_pos (by omega), if_pos (by omega), if_pos (by simp)]
  show impl_isText.l1 _ false _ ⟨a.toArray⟩ 0 _ 2 0 = _
  rw [text_l1g false _ _ a ha (fun h => by cases h) 2 0 a.length ((q + 1) + b.length + 1 + 1) 0 (by omega) (by omega), wr (0 + 1) (by omega) (by omega)]
  rw [impl_isText.l0, if_pos (by omega), if_pos (by omega), if_pos (by simp)]
  show impl_isText.l1 _ false _ ⟨b.toArray⟩ 0 _ 2 (0 + 1) = _
  rw [text_l1g false _ _ b hb (fun h => by cases h) 2 (0 + 1) b.length (q + 1) 0 (by omega) (by omega), wr (0 + 1 + 1) (by omega) (by omega), impl_isText.l0, if_neg (by omega)]
  rfl
/-! impl.isFormat -/
theorem isF {t : List UInt8} (h : F t) : ∀ (pre : List UInt8) (k : Nat), pre.length + t.length ≤ 200 → (∀ b ∈ pre ++ t, b.toNat ≤ 127) → impl_isFormat.l0 (k + 204 + t.length) ⟨(pre ++ t).toArray⟩ (pre.length : Int) = some true := by
  induction h with
  | nil =>
    intro pre k hl ha
    simp only [List.append_nil, List.length_nil] at *
    rw [show k + 204 + 0 = (k + 203) + 1 by omega, impl_isFormat.l0, mk_size, if_neg (by omega), text1_ok pre (by omega) ha _ (by omega)]
    rfl
  | plain c t hc hc2 _ ih =>
    intro pre k hl ha
    have hs : ((pre ++ c :: t).length : Int) = pre.length + (t.length + 1) := by simp
    simp only [List.length_cons] at hl
    have e := ih (pre ++ [c]) k (by simp; omega) (by simpa using ha)
    have e2 : (pre ++ [c]) ++ t = pre ++ c :: t := by simp
    rw [e2] at e
    rw [show k + 204 + (c :: t).length = (k + 204 + t.length) + 1 by simp; omega, impl_isFormat.l0, mk_size, hs, if_pos (by omega), if_pos (by omega), bt_pre, if_neg (show ¬ ((c.toNat : Int) = 37) from nat_ne (d := 37) hc), wr _ (by omega) (by omega)]
    simpa using e
  | esc c t hc _ ih =>
    intro pre k hl ha
    have hs : ((pre ++ 37 :: c :: t).length : Int) = pre.length + (t.length + 2) := by simp; omega
    simp only [List.length_cons] at hl
    have e := ih (pre ++ [37, c]) (k + 1) (by simp; omega) (by simpa using ha)
    have e2 : (pre ++ [37, c]) ++ t = pre ++ 37 :: c :: t := by simp
    have e3 : (((pre ++ [37, c]).length : Nat) : Int) = pre.length + 1 + 1 := by simp; omega
    rw [e2, e3] at e
    rw [show k + 204 + (37 :: c :: t).length = (k + 1 + 204 + t.length) + 1 by simp; omega, impl_isFormat.l0, mk_size, hs, if_pos (by omega), if_pos (by omega), bt_pre, if_pos (by rfl), wr ((pre.length : Int) + 1) (by omega) (by omega), if_neg (by omega), if_pos (by omega), if_pos (by omega), bt_pre1,
      wr ((pre.length : Int) + 1 + 1) (by omega) (by omega)]
    rcases hc with rfl | rfl | rfl
    · rw [if_pos (by rfl)]; exact e
    · rw [if_neg (by decide), if_pos (by rfl)]; exact e
    · rw [if_neg (by decide), if_neg (by decide), if_pos (by rfl)]; exact e
theorem isFormat_ok {t : List UInt8} (h : F t) (hl : t.length ≤ 8) (k : Nat) (hk : 300 ≤ k) : impl_isFormat.f k ⟨t.toArray⟩ = some true := by
  unfold impl_isFormat.f
  obtain ⟨q, rfl⟩ : ∃ q, k = q + 204 + t.length := ⟨k - 204 - t.length, by omega⟩
  have := isF h [] q (by simp; omega) (fun b hb => by have := h.ascii b (by simpa using hb); omega)
  simpa using this
/-! spec.Filled -/
theorem fillS {t : List UInt8} (h : F t) (n : Int) (n0 : -9223372036854775808 ≤ n) (n1 : n ≤ 9223372036854775807) (lb : List UInt8) (hlb : lb.length ≤ 200) : ∀ (pre out : List UInt8) (k : Nat), pre.length + t.length ≤ 200 → out.length + 200 * t.length ≤ 100000 →
    spec_Filled.l0 (k + 50 + 2 * t.length) ⟨(pre ++ t).toArray⟩ n ⟨lb.toArray⟩ ⟨out.toArray⟩ (pre.length : Int) = some ⟨(out ++ fillL lb (itoa n) false t).toArray⟩ := by
  have hit := itoa_len n n0 n1
  induction h with
  | nil =>
    intro pre out k hl ho
    simp only [List.append_nil, List.length_nil] at *
    rw [show k + 50 + 2 * 0 = (k + 49) + 1 by omega, spec_Filled.l0, mk_size, if_neg (by omega)]
    simp [fillL]
  | plain c t hc hc2 _ ih =>
    intro pre out k hl ho
    have hs : ((pre ++ c :: t).length : Int) = pre.length + (t.length + 1) := by simp
    simp only [List.length_cons] at hl ho
    have e := ih (pre ++ [c]) (out ++ [c]) k (by simp; omega) (by simp; omega)
    have e2 : (pre ++ [c]) ++ t = pre ++ c :: t := by simp
    have e3 : (((pre ++ [c]).length : Nat) : Int) = pre.length + 1 := by simp
    rw [e2, e3] at e
    have ex : (⟨(pre ++ c :: t).toArray⟩ : ByteArray).extract ((pre.length : Int)).toNat ((pre.length : Int) + 1).toNat = ⟨[c].toArray⟩ := by
      rw [one_at _ _ (by omega) (by simp)]
      simp
    rw [show k + 50 + 2 * (c :: t).length = (k + 50 + 2 * t.length) + 1 + 1 by simp; omega, spec_Filled.l0, mk_size, hs, if_pos (by omega), if_pos (by omega), bt_pre, if_neg (show ¬ ((c.toNat : Int) = 37) from nat_ne (d := 37) hc), spec_Filled.j1, if_pos rfl, wr _ (by omega) (by omega), mk_size, hs, if_pos (by omega), if_pos (by omega), if_pos (by omega), ex, mk_app, mk_size, mk_size, if_pos (by simp; omega), e]
    rw [fillL, if_neg hc]
    simp
  | esc c t hc _ ih =>
    intro pre out k hl ho
    have hs : ((pre ++ 37 :: c :: t).length : Int) = pre.length + (t.length + 2) := by simp; omega
    simp only [List.length_cons] at hl ho
    have key : ∀ o : List UInt8, o.length ≤ 200 → spec_Filled.l0 (k + 50 + 2 * t.length + 2) ⟨(pre ++ 37 :: c :: t).toArray⟩ n ⟨lb.toArray⟩ ⟨(out ++ o).toArray⟩ ((pre.length : Int) + 1 + 1) = some ⟨(out ++ (o ++ fillL lb (itoa n) false t)).toArray⟩ := by
      intro o hoo
      have e := ih (pre ++ [37, c]) (out ++ o) (k + 2) (by simp; omega) (by simp; omega)
      have e2 : (pre ++ [37, c]) ++ t = pre ++ 37 :: c :: t := by simp
      have e3 : (((pre ++ [37, c]).length : Nat) : Int) = pre.length + 1 + 1 := by simp; omega
      rw [e2, e3, show k + 2 + 50 + 2 * t.length = k + 50 + 2 * t.length + 2 by omega] at e
      rw [e, List.append_assoc]
    have hb : ((pre.length : Int) + 1 == pre.length + (t.length + 2)) = false := beq_eq_false_iff_ne.mpr (by omega)
    rw [show k + 50 + 2 * (37 :: c :: t).length = (k + 50 + 2 * t.length + 2) + 1 + 1 by simp; omega, spec_Filled.l0, mk_size, hs, if_pos (by omega), if_pos (by omega), bt_pre, if_pos (by rfl), wr ((pre.length : Int) + 1) (by omega) (by omega), hb, spec_Filled.j1, if_neg (by simp), wr ((pre.length : Int) + 1) (by omega) (by omega), mk_size, hs, if_pos (by omega), if_pos (by omega), bt_pre1,
      wr ((pre.length : Int) + 1 + 1) (by omega) (by omega)]
    rw [fillL, if_pos rfl, fillL]
    rcases hc with rfl | rfl | rfl
    · rw [if_neg (by decide), if_pos (by rfl), mk_size, mk_size, mk_app, if_pos (by omega), if_pos rfl]
      exact key lb hlb
    · rw [if_pos (by rfl), decimal_ok n n0 n1 _ (by omega), if_neg (by decide), if_pos rfl]
      show (if (⟨out.toArray⟩ : ByteArray).size + (⟨(itoa n).toArray⟩ : ByteArray).size ≤ _ then spec_Filled.l0 _ _ _ _ ((⟨out.toArray⟩ : ByteArray) ++ ⟨(itoa n).toArray⟩) _ else none) = _
      rw [mk_size, mk_size, mk_app, if_pos (by omega)]
      exact key (itoa n) (by omega)
    · have ex : (⟨(pre ++ 37 :: 37 :: t).toArray⟩ : ByteArray).extract ((pre.length : Int) + 1).toNat ((pre.length : Int) + 1 + 1).toNat = ⟨[(37 : UInt8)].toArray⟩ := by
        rw [one_at _ _ (by omega) (by simp)]
        simp
      rw [if_neg (by decide), if_neg (by decide), if_pos (by omega), if_pos (by omega), ex, mk_app, mk_size, mk_size, if_pos (by simp; omega), if_neg (by decide), if_neg (by decide)]
      exact key [37] (by simp)
theorem filled_ok {t : List UInt8} (h : F t) (ht : t.length ≤ 8) (n : Int) (n0 : -9223372036854775808 ≤ n) (n1 : n ≤ 9223372036854775807) (lb : List UInt8) (hlb : lb.length ≤ 200) (k : Nat) (hk : 100 ≤ k) :
    spec_Filled.f k ⟨t.toArray⟩ n ⟨lb.toArray⟩ = some ⟨(fillL lb (itoa n) false t).toArray⟩ := by
  unfold spec_Filled.f
  obtain ⟨q, rfl⟩ : ∃ q, k = q + 50 + 2 * t.length := ⟨k - 50 - 2 * t.length, by omega⟩
  have := fillS h n n0 n1 lb hlb [] [] q (by simp; omega) (by simp; omega)
  simpa using this

/-! the table's row -/
abbrev A47 := Go.Proofs.YtmdgbbiipjmenaaDoor.PAll.S47
theorem custom_eval (L : List A47) (n : Int) (n0 : -9223372036854775808 < n) (n1 : n ≤ 9223372036854775807) (a b : ByteArray) (hl : L.length ≤ 8) (k0 : Nat) (hk : k0 < L.length)
    (hs : ∀ i j : Nat, i < j → j < L.length → (Go.Proofs.YtmdgbbiipjmenaaDoor.PAll.rd_T47 L i).f0 < (Go.Proofs.YtmdgbbiipjmenaaDoor.PAll.rd_T47 L j).f0)
    (h1 : ∀ j : Nat, j < k0 → (Go.Proofs.YtmdgbbiipjmenaaDoor.PAll.rd_T47 L j).f0 ≤ dfOf n) (h2 : k0 + 1 = L.length ∨ dfOf n < (Go.Proofs.YtmdgbbiipjmenaaDoor.PAll.rd_T47 L k0).f0)
    (t : List UInt8) (hf : (Go.Proofs.YtmdgbbiipjmenaaDoor.PAll.rd_T47 L k0).f1 = ⟨t.toArray⟩) (hF : F t) (ht : t.length ≤ 8) (dv : Int) (hd : (Go.Proofs.YtmdgbbiipjmenaaDoor.PAll.rd_T47 L k0).f2 = dv) (hd0 : 0 < dv)
    (lb : List UInt8) (hlb : lbOf n a b = lb) (hne : lb ≠ []) (hll : lb.length ≤ 200) :
    customF 0 n a b L = some ⟨(fillL lb (itoa ((dfOf n).tdiv dv)) false t).toArray⟩ := by
  have hdf : 0 ≤ dfOf n ∧ dfOf n ≤ 9223372036854775807 := by unfold dfOf; split <;> omega
  have hq0 := Int.tdiv_nonneg hdf.1 (show 0 ≤ dv by omega)
  have hq1 : (dfOf n).tdiv dv ≤ dfOf n := by
    rw [Int.tdiv_eq_ediv_of_nonneg hdf.1]
    exact Int.ediv_le_self _ hdf.1
  have hit := itoa_len ((dfOf n).tdiv dv) (by omega) (by omega)
  have hT := fill_len hF lb (itoa ((dfOf n).tdiv dv)) hll (by omega)
  obtain ⟨r, hr, hq⟩ : ∃ r : Int, zs (fun i => decide ((Go.Proofs.YtmdgbbiipjmenaaDoor.PAll.rd_T47 L i).f0 > dfOf n)) 2000 0 L.length = some r ∧ qOf L.length r = k0 := by
    by_cases g : dfOf n < (Go.Proofs.YtmdgbbiipjmenaaDoor.PAll.rd_T47 L k0).f0
    · refine ⟨k0, zs_ok _ _ L.length 2000 0 L.length (by omega) (by omega) (by omega) (by omega) ?_ ?_, ?_⟩
      · intro x x0 x1
        obtain ⟨y, rfl⟩ : ∃ y : Nat, x = y := ⟨x.toNat, by omega⟩
        have := h1 y (by omega)
        exact decide_eq_false (by omega)
      · intro x x0 x1
        obtain ⟨y, rfl⟩ : ∃ y : Nat, x = y := ⟨x.toNat, by omega⟩
        rcases Nat.lt_or_ge k0 y with h | h
        · have := hs k0 y h (by omega)
          exact decide_eq_true (by omega)
        · obtain rfl : y = k0 := by omega
          exact decide_eq_true (by omega)
      · unfold qOf
        rw [if_neg (by omega)]
    · have hk1 : k0 + 1 = L.length := h2.resolve_right g
      refine ⟨L.length, zs_ok _ _ L.length 2000 0 L.length (by omega) (by omega) (by omega) (by omega) ?_ ?_, ?_⟩
      · intro x x0 x1
        obtain ⟨y, rfl⟩ : ∃ y : Nat, x = y := ⟨x.toNat, by omega⟩
        rcases Nat.lt_or_ge y k0 with h | h
        · have := h1 y h
          exact decide_eq_false (by omega)
        · obtain rfl : y = k0 := by omega
          exact decide_eq_false (by omega)
      · intro x x0 x1
        omega
      · unfold qOf
        rw [if_pos (by omega)]
        omega
  have hx : txt n a b (Go.Proofs.YtmdgbbiipjmenaaDoor.PAll.rd_T47 L k0) = fillL lb (itoa ((dfOf n).tdiv dv)) false t := by
    unfold txt
    rw [hf, hd, hlb]
  unfold customF
  rw [if_pos ⟨rfl, n0, n1, by omega⟩, hr]
  simp only [Option.bind_some, hq]
  rw [hx, if_pos]
  refine ⟨by omega, by omega, ?_, by omega, by omega, by rw [hlb]; exact hne⟩
  rw [hf]
  exact hF.ascii
/-! impl.Custom -/
def c47 (x : S30) : S47 := ⟨x.f0, x.f1, x.f2⟩
def cA (x : S30) : A47 := humanize_CustomRelTime.conv (c47 x)
/-- The tables that the law lays: the rows' lengths ascend, up to at. -/
def Ok (L : List S30) (at_ : Int) : Prop :=
  (∀ j : Nat, j < L.length → (∃ t, (rd_T30 L j).f1 = ⟨t.toArray⟩ ∧ F t ∧ t.length ≤ 8) ∧ 0 < (rd_T30 L j).f2 ∧ (rd_T30 L j).f0 ≤ at_) ∧
  (∀ i j : Nat, i < j → j < L.length → (rd_T30 L i).f0 < (rd_T30 L j).f0)
theorem custom_l0 (L : List S30) (at_ : Int) (hL : Ok L at_) (hlen : L.length ≤ 8) (n : Int) (a b : ByteArray) (r : ByteArray) (hr : customF 0 n a b (L.map cA) = some r) : ∀ (d k : Nat) (i : Nat) (acc : List S47), acc = (L.take i).map c47 → i ≤ L.length → L.length - i = d →
    impl_Custom.l0 (k + 301 + d) n a b acc L (L.length : Int) (i : Int) = some r := by
  intro d
  induction d with
  | zero =>
    intro k i acc ha hi hd
    obtain rfl : i = L.length := by omega
    rw [show k + 301 + 0 = (k + 300) + 1 by omega, impl_Custom.l0, if_neg (by omega), ha, List.take_length]
    unfold humanize_CustomRelTime.f
    rw [List.map_map]
    show (customF 0 n a b (L.map cA)).bind _ = _
    rw [hr]
    rfl
  | succ d ih =>
    intro k i acc ha hi hd
    obtain ⟨⟨t, e1, e2, e3⟩, e4, e5⟩ := hL.1 i (by omega)
    have hla : acc.length ≤ 8 := by rw [ha]; simp; omega
    have hacc : acc ++ [(⟨(rd_T30 L i).f0, (rd_T30 L i).f1, (rd_T30 L i).f2⟩ : S47)] = (L.take (i + 1)).map c47 := by
      rw [ha, List.take_succ_eq_append_getElem (by omega), List.map_append]
      congr 1
      show [c47 (rd_T30 L i)] = [c47 L[i]]
      congr 2
      unfold rd_T30
      simp [List.getD_eq_getElem?_getD, List.getElem?_eq_getElem (show i < L.length by omega)]
    rw [show k + 301 + (d + 1) = (k + 301 + d) + 1 by omega, impl_Custom.l0, if_pos (by omega), if_pos (by omega), if_pos (by omega), e1, isFormat_ok e2 e3 _ (by omega)]
    simp only [Option.bind_some, if_true]
    rw [if_neg (by omega), if_pos (by omega), wr _ (by omega) (by omega), ← e1, hacc]
    exact ih k (i + 1) _ rfl (by omega) (by omega)
theorem implCustom_ok (L : List S30) (at_ : Int) (hL : Ok L at_) (hlen : L.length ≤ 8) (hl0 : 0 < L.length) (n : Int) (n0 : n ≠ -9223372036854775808) (a b : List UInt8) (ha : a.length ≤ 200) (hb : b.length ≤ 200) (r : ByteArray) (hr : customF 0 n ⟨a.toArray⟩ ⟨b.toArray⟩ (L.map cA) = some r) (k : Nat) (hk : 500 ≤ k) :
    impl_Custom.f k n ⟨a.toArray⟩ ⟨b.toArray⟩ L = some r := by
  unfold impl_Custom.f
  rw [text2_ok a b ha hb k (by omega)]
  simp only [Option.bind_some, if_true]
  rw [if_neg n0, if_neg (by omega), decide_eq_false (by omega)]
  obtain ⟨q, rfl⟩ : ∃ q, k = (q + 301 + L.length) + 1 := ⟨k - 302 - L.length, by omega⟩
  rw [impl_Custom.j0, if_neg (by simp)]
  exact custom_l0 L at_ hL hlen n _ _ r hr L.length q 0 [] (by simp) (by omega) (by omega)

theorem rd_map (L : List S30) (j : Nat) (h : j < L.length) : Go.Proofs.YtmdgbbiipjmenaaDoor.PAll.rd_T47 (L.map cA) (j : Int) = cA (rd_T30 L j) := by
  unfold rd_T30 Go.Proofs.YtmdgbbiipjmenaaDoor.PAll.rd_T47
  simp [List.getD_eq_getElem?_getD, List.getElem?_eq_getElem h]
/-! the law: its loops -/
theorem piece_ok (j : Int) (h0 : 0 ≤ j) (h1 : j < 6) : ∃ p, p ∈ P6 ∧ rdOf ByteArray.empty [(⟨#[37, 100]⟩ : ByteArray), (⟨#[37, 115]⟩ : ByteArray), (⟨#[37, 37]⟩ : ByteArray), (⟨#[32, 120]⟩ : ByteArray), (⟨#[121, 32]⟩ : ByteArray), (⟨#[122]⟩ : ByteArray)] j = ⟨p.toArray⟩ := by
  obtain ⟨y, rfl⟩ : ∃ y : Nat, j = y := ⟨j.toNat, by omega⟩
  match y, h1 with
  | 0, _ => exact ⟨[37, 100], by decide, rfl⟩
  | 1, _ => exact ⟨[37, 115], by decide, rfl⟩
  | 2, _ => exact ⟨[37, 37], by decide, rfl⟩
  | 3, _ => exact ⟨[32, 120], by decide, rfl⟩
  | 4, _ => exact ⟨[121, 32], by decide, rfl⟩
  | 5, _ => exact ⟨[122], by decide, rfl⟩
  | y + 6, h => omega
theorem label_ok (j : Int) (h0 : 0 ≤ j) (h1 : j < 3) : ∃ lb : List UInt8, lb ≠ [] ∧ lb.length ≤ 200 ∧ rdOf ByteArray.empty [(⟨#[97, 103, 111]⟩ : ByteArray), (⟨#[102, 114, 111, 109, 32, 110, 111, 119]⟩ : ByteArray), (⟨#[108, 97, 116, 101, 114]⟩ : ByteArray)] j = ⟨lb.toArray⟩ := by
  obtain ⟨y, rfl⟩ : ∃ y : Nat, j = y := ⟨j.toNat, by omega⟩
  match y, h1 with
  | 0, _ => exact ⟨[97, 103, 111], by decide, by decide, rfl⟩
  | 1, _ => exact ⟨[102, 114, 111, 109, 32, 110, 111, 119], by decide, by decide, rfl⟩
  | 2, _ => exact ⟨[108, 97, 116, 101, 114], by decide, by decide, rfl⟩
  | y + 3, h => omega
theorem shl_b (r e : Int) (h0 : 0 ≤ r) (h1 : r ≤ 4294967295) (e0 : 0 ≤ e) (e1 : e < 24) : 0 ≤ shl .i64 r e ∧ shl .i64 r e ≤ 36028797018963968 := by
  unfold shl
  obtain ⟨rn, rfl⟩ : ∃ m : Nat, r = m := ⟨r.toNat, by omega⟩
  have hm : min e.toNat IntKind.i64.bits ≤ 23 := Nat.le_trans (Nat.min_le_left _ _) (by omega)
  generalize min e.toNat IntKind.i64.bits = m at *
  have h2 : 2 ^ m ≤ 2 ^ 23 := Nat.pow_le_pow_right (by decide) hm
  have h3 : rn * 2 ^ m ≤ 4294967295 * 2 ^ 23 := Nat.mul_le_mul (by omega) h2
  have e : ((rn : Int) * 2 ^ m) = ((rn * 2 ^ m : Nat) : Int) := by simp
  rw [e]
  generalize rn * 2 ^ m = v at *
  rw [i64_w, wr _ (by omega) (by omega)]
  omega
theorem shr_b (r e : Int) (h0 : 0 ≤ r) : 0 ≤ shr .u32 r e := by
  unfold shr
  exact Int.ediv_nonneg h0 (Int.le_of_lt (Int.pow_pos (by decide)))
theorem l1_step (k : Nat) (x0 x2 : Int) (x7 : List S30) (x8 x10 : Int) (out : List UInt8) (x36 : List Int) (x37 x38 c : Int) (c0 : 0 ≤ c) (c1 : c < 4) (h10 : 0 ≤ x10) (ho : out.length ≤ 100) :
    ∃ p, p ∈ P6 ∧ laws_FnCustom.l1 (k + 1) x0 x2 x7 x8 x10 ⟨out.toArray⟩ x36 x37 x38 c = laws_FnCustom.l1 k x0 x2 x7 x8 x10 ⟨(out ++ p).toArray⟩ x36 x37 x38 (c + 1) := by
  have w1 : wrap64 (3 * c) = 3 * c := wr _ (by omega) (by omega)
  have w2 : wrap64 (3 * c + 5) = 3 * c + 5 := wr _ (by omega) (by omega)
  have w3 : wrap64 (c + 1) = c + 1 := wr _ (by omega) (by omega)
  have hs := shr_b x10 (3 * c + 5) h10
  have j0 := Int.tmod_nonneg 6 hs
  have j1 := Int.tmod_lt_of_pos (shr .u32 x10 (3 * c + 5)) (show (0 : Int) < 6 by decide)
  obtain ⟨p, hp, e⟩ := piece_ok _ j0 j1
  have hl := P6_len hp
  refine ⟨p, hp, ?_⟩
  rw [laws_FnCustom.l1, if_pos c1]
  simp only [Option.bind_some, w1, w2, w3]
  rw [if_pos (by omega), if_pos j0, if_pos (by simp only [List.length_cons, List.length_nil]; exact j1), e, mk_app, mk_size, mk_size, if_pos (by omega)]
theorem row_ok (k : Nat) (x0 x2 : Int) (x7 : List S30) (x8 x10 : Int) (x36 : List Int) (x37 x38 : Int) (h10 : 0 ≤ x10) (h7 : x7.length ≤ 8) :
    ∃ t, F t ∧ t.length ≤ 8 ∧ laws_FnCustom.l1 (k + 5) x0 x2 x7 x8 x10 ⟨#[]⟩ x36 x37 x38 0 = laws_FnCustom.l0 k x0 x2 (x7 ++ [(⟨x8, ⟨t.toArray⟩, (1 + (x10 / 128)) % 4294967296⟩ : S30)]) x8 x36 x37 (wrap64 (x38 + 1)) := by
  obtain ⟨p1, h1, e1⟩ := l1_step (k + 4) x0 x2 x7 x8 x10 [] x36 x37 x38 0 (by omega) (by omega) h10 (by simp)
  have l1 := P6_len h1
  obtain ⟨p2, h2, e2⟩ := l1_step (k + 3) x0 x2 x7 x8 x10 ([] ++ p1) x36 x37 x38 (0 + 1) (by omega) (by omega) h10 (by simp; omega)
  have l2 := P6_len h2
  obtain ⟨p3, h3, e3⟩ := l1_step (k + 2) x0 x2 x7 x8 x10 ([] ++ p1 ++ p2) x36 x37 x38 (0 + 1 + 1) (by omega) (by omega) h10 (by simp; omega)
  have l3 := P6_len h3
  obtain ⟨p4, h4, e4⟩ := l1_step (k + 1) x0 x2 x7 x8 x10 ([] ++ p1 ++ p2 ++ p3) x36 x37 x38 (0 + 1 + 1 + 1) (by omega) (by omega) h10 (by simp; omega)
  obtain ⟨hF, hFl⟩ := F.four h1 h2 h3 h4
  refine ⟨p1 ++ p2 ++ p3 ++ p4, hF, hFl, ?_⟩
  show laws_FnCustom.l1 (k + 4 + 1) x0 x2 x7 x8 x10 ⟨([] : List UInt8).toArray⟩ x36 x37 x38 0 = _
  rw [e1]
  show laws_FnCustom.l1 (k + 3 + 1) _ _ _ _ _ _ _ _ _ _ = _
  rw [e2]
  show laws_FnCustom.l1 (k + 2 + 1) _ _ _ _ _ _ _ _ _ _ = _
  rw [e3]
  show laws_FnCustom.l1 (k + 1 + 1) _ _ _ _ _ _ _ _ _ _ = _
  rw [e4, laws_FnCustom.l1, if_neg (by omega), if_pos (by omega), List.nil_append]
theorem rd_snoc (L : List S30) (x : S30) (j : Nat) : rd_T30 (L ++ [x]) (j : Int) = if j < L.length then rd_T30 L j else if j = L.length then x else z30 := by
  unfold rd_T30
  simp only [Int.toNat_natCast, List.getD_eq_getElem?_getD]
  split
  · rename_i h
    rw [List.getElem?_append_left h]
  · rename_i h
    split
    · rename_i e
      subst e
      simp
    · rename_i e
      rw [List.getElem?_eq_none (by simp; omega)]
      rfl
theorem ok_snoc (L : List S30) (at_ v r : Int) (t : List UInt8) (hO : Ok L at_) (hv : 0 ≤ v) (hr : 0 ≤ r ∧ r ≤ 4294967295) (hF : F t) (ht : t.length ≤ 8) :
    Ok (L ++ [(⟨at_ + (v + 1), ⟨t.toArray⟩, (1 + (r / 128)) % 4294967296⟩ : S30)]) (at_ + (v + 1)) := by
  constructor
  · intro j hj
    rw [rd_snoc]
    simp only [List.length_append, List.length_cons, List.length_nil] at hj
    by_cases g : j < L.length
    · rw [if_pos g]
      obtain ⟨a, b, c⟩ := hO.1 j g
      exact ⟨a, b, by omega⟩
    · rw [if_neg g, if_pos (by omega)]
      have h3 : 0 < (1 + r / 128) % 4294967296 := by omega
      exact ⟨⟨t, rfl, hF, ht⟩, h3, Int.le_refl _⟩
  · intro a b hab hb2
    rw [rd_snoc, rd_snoc]
    simp only [List.length_append, List.length_cons, List.length_nil] at hb2
    rw [if_pos (by omega)]
    by_cases g : b < L.length
    · rw [if_pos g]
      exact hO.2 a b hab g
    · rw [if_neg g, if_pos (by omega)]
      have := (hO.1 a (by omega)).2.2
      show (rd_T30 L a).f0 < at_ + (v + 1)
      omega
theorem rows_l0 (x0 x2 : Int) (l1 : List Int) (hl1 : ∀ x ∈ l1, 0 ≤ x ∧ x ≤ 4294967295) (hlen : l1.length ≤ 8) : ∀ (d k i : Nat) (L : List S30) (at_ : Int), Ok L at_ → L.length = i → i ≤ l1.length → l1.length - i = d → 0 ≤ at_ → at_ ≤ 72057594037927936 * i →
    ∃ L' at', Ok L' at' ∧ L'.length = l1.length ∧ laws_FnCustom.l0 (k + 1 + 6 * d) x0 x2 L at_ l1 (l1.length : Int) (i : Int) = laws_FnCustom.l0 (k + 1) x0 x2 L' at' l1 (l1.length : Int) (l1.length : Int) := by
  intro d
  induction d with
  | zero =>
    intro k i L at_ hO hL hi hd h0 h1
    obtain rfl : i = l1.length := by omega
    exact ⟨L, at_, hO, hL, rfl⟩
  | succ d ih =>
    intro k i L at_ hO hL hi hd h0 h1
    have hr : 0 ≤ rd l1 i ∧ rd l1 i ≤ 4294967295 := by
      have : rd l1 i = l1[i]'(by omega) := by
        unfold rd
        simp [List.getD_eq_getElem?_getD, List.getElem?_eq_getElem (show i < l1.length by omega)]
      rw [this]
      exact hl1 _ (List.getElem_mem _)
    have h7 : L.length ≤ 8 := by rw [hL]; exact Nat.le_trans hi hlen
    have g1 : (i : Int) < l1.length := by omega
    have g0 : (0 : Int) ≤ i := by omega
    have gl : (L.length + 1 : Nat) = i + 1 := by omega
    have gi : i + 1 ≤ l1.length := by omega
    have gd : l1.length - (i + 1) = d := by omega
    have w4 : wrap64 ((i : Int) + 1) = (i : Int) + 1 := wr _ (by omega) (by omega)
    have hfu : k + 1 + 6 * (d + 1) = (k + 1 + 6 * d + 5) + 1 := by omega
    generalize hrr : rd l1 (i : Int) = r at *
    have t0 := Int.tmod_nonneg 24 hr.1
    have t1 := Int.tmod_lt_of_pos r (show (0 : Int) < 24 by decide)
    have hb := shl_b r (Int.tmod r 24) hr.1 hr.2 t0 t1
    have w1 : wrap64 r = r := wr _ (by omega) (by omega)
    obtain ⟨v, hv⟩ : ∃ v, shl .i64 r (Int.tmod r 24) = v := ⟨_, rfl⟩
    rw [hv] at hb
    have q : -9223372036854775808 ≤ v + 1 ∧ v + 1 ≤ 9223372036854775807 ∧ -9223372036854775808 ≤ at_ + (v + 1) ∧ at_ + (v + 1) ≤ 9223372036854775807 ∧ 0 ≤ at_ + (v + 1) ∧ at_ + (v + 1) ≤ 72057594037927936 * ((i + 1 : Nat) : Int) := by
      clear hv w1 w4 hrr t0 t1 hO ih hl1 hfu
      omega
    have w2 : wrap64 (v + 1) = v + 1 := wr _ q.1 q.2.1
    have w3 : wrap64 (at_ + (v + 1)) = at_ + (v + 1) := wr _ q.2.2.1 q.2.2.2.1
    have hrow := row_ok (k + 1 + 6 * d) x0 x2 L (at_ + (v + 1)) r l1 (l1.length : Int) (i : Int) hr.1 h7
    obtain ⟨t, hF, ht, e⟩ := hrow
    have hO' := ok_snoc L at_ v r t hO hb.1 hr hF ht
    obtain ⟨L', at', o1, o2, o3⟩ := ih k (i + 1) _ _ hO' (by rw [List.length_append]; exact gl) gi gd q.2.2.2.2.1 q.2.2.2.2.2
    refine ⟨L', at', o1, o2, ?_⟩
    rw [hfu, laws_FnCustom.l0, if_pos g1, if_pos g0, if_pos g1]
    simp only [hrr, w1]
    rw [if_pos t0, hv, w2, w3, e, w4]
    exact o3

/-! the law: what is compared -/
theorem l2_ok (L : List S30) (hlen : L.length ≤ 8) (x0 sz : Int) (x15 x16 : ByteArray) : ∀ (d k i : Nat), i + d + 1 = L.length → (∀ j : Nat, j < i → (rd_T30 L j).f0 ≤ sz) →
    ∃ k0 m : Nat, k0 < L.length ∧ (∀ j : Nat, j < k0 → (rd_T30 L j).f0 ≤ sz) ∧ (k0 + 1 = L.length ∨ sz < (rd_T30 L k0).f0) ∧ laws_FnCustom.l2 (k + d + 1) x0 L sz x15 x16 (i : Int) = laws_FnCustom.j5 (k + m) x0 L sz x15 x16 (k0 : Int) := by
  intro d
  induction d with
  | zero =>
    intro k i hd hj
    have w1 : wrap64 ((L.length : Int) - 1) = L.length - 1 := wr _ (by omega) (by omega)
    refine ⟨i, 0, by omega, hj, .inl (by omega), ?_⟩
    rw [laws_FnCustom.l2, w1, if_neg (by omega)]
    rfl
  | succ d ih =>
    intro k i hd hj
    have w1 : wrap64 ((L.length : Int) - 1) = L.length - 1 := wr _ (by omega) (by omega)
    have w2 : wrap64 ((i : Int) + 1) = (i : Int) + 1 := wr _ (by omega) (by omega)
    by_cases g : (rd_T30 L i).f0 ≤ sz
    · obtain ⟨k0, m, a, b, c, e⟩ := ih k (i + 1) (by omega) (fun j hj2 => by
        rcases Nat.lt_or_ge j i with h | h
        · exact hj j h
        · obtain rfl : j = i := by omega
          exact g)
      refine ⟨k0, m, a, b, c, ?_⟩
      rw [show k + (d + 1) + 1 = (k + d + 1) + 1 by omega, laws_FnCustom.l2, w1, if_pos (by omega), if_pos (by omega), if_pos (by omega), if_pos g, w2]
      exact e
    · refine ⟨i, d + 1, by omega, hj, .inr (by omega), ?_⟩
      rw [laws_FnCustom.l2, w1, if_pos (by omega), if_pos (by omega), if_pos (by omega), if_neg g]
theorem j3_ok (L : List S30) (at_ : Int) (hL : Ok L at_) (hlen : L.length ≤ 8) (hl0 : 0 < L.length) (n : Int) (n0 : -9223372036854775808 < n) (n1 : n ≤ 9223372036854775807) (one two : List UInt8) (h1 : one ≠ []) (h2 : one.length ≤ 200) (h3 : two.length ≤ 200) (k : Nat) (hk : 600 ≤ k) :
    laws_FnCustom.j3 k n L (dfOf n) ⟨one.toArray⟩ ⟨two.toArray⟩ = some true := by
  have hdf : 0 ≤ dfOf n ∧ dfOf n ≤ 9223372036854775807 := by unfold dfOf; split <;> omega
  obtain ⟨q, rfl⟩ : ∃ q, k = (q + 1 + (L.length - 1) + 1) + 1 := ⟨k - L.length - 2, by omega⟩
  obtain ⟨k0, m, a, b, c, e⟩ := l2_ok L hlen n (dfOf n) ⟨one.toArray⟩ ⟨two.toArray⟩ (L.length - 1) (q + 1) 0 (by omega) (fun j h => by omega)
  rw [laws_FnCustom.j3]
  have e' : laws_FnCustom.l2 (q + 1 + (L.length - 1) + 1) n L (dfOf n) ⟨one.toArray⟩ ⟨two.toArray⟩ 0 = _ := e
  rw [e', show q + 1 + m = (q + m) + 1 by omega]
  obtain ⟨⟨t, t1, t2, t3⟩, f2, _⟩ := hL.1 k0 a
  generalize hdv : (rd_T30 L k0).f2 = dv at *
  have hq0 := Int.tdiv_nonneg hdf.1 (show 0 ≤ dv by omega)
  have hq1 : (dfOf n).tdiv dv ≤ dfOf n := by
    rw [Int.tdiv_eq_ediv_of_nonneg hdf.1]
    exact Int.ediv_le_self _ hdf.1
  have hqw : wrap64 ((dfOf n).tdiv dv) = (dfOf n).tdiv dv := wr _ (by omega) (by omega)
  have hfill := filled_ok t2 t3 ((dfOf n).tdiv dv) (by omega) (by omega) one h2 (q + m) (by omega)
  have hcus : ∀ x y : List UInt8, x.length ≤ 200 → y.length ≤ 200 → lbOf n ⟨x.toArray⟩ ⟨y.toArray⟩ = one → impl_Custom.f (q + m) n ⟨x.toArray⟩ ⟨y.toArray⟩ L = some ⟨(fillL one (itoa ((dfOf n).tdiv dv)) false t).toArray⟩ := by
    intro x y hx hy hxy
    refine implCustom_ok L at_ hL hlen hl0 n (by omega) x y hx hy _ ?_ (q + m) (by omega)
    refine custom_eval (L.map cA) n n0 n1 _ _ (by simpa using hlen) k0 (by simpa using a) ?_ ?_ ?_ t ?_ t2 t3 dv ?_ f2 one hxy h1 h2
    · intro i j hij hj
      have hj : j < L.length := by simpa using hj
      rw [rd_map L i (by omega), rd_map L j hj]
      exact hL.2 i j hij hj
    · intro j hj
      rw [rd_map L j (by omega)]
      exact b j hj
    · rw [rd_map L k0 a, List.length_map]
      exact c
    · rw [rd_map L k0 a]
      exact t1
    · rw [rd_map L k0 a]
      exact hdv
  rw [laws_FnCustom.j5]
  by_cases g : n < 0
  · rw [if_pos g, hcus two one h3 h2 (by unfold lbOf; rw [if_pos g])]
    simp only [Option.bind_some]
    rw [if_pos (by omega), if_pos (by omega), hdv, if_neg (by omega), hqw, t1, hfill]
    simp
  · rw [if_neg g, hcus one two h2 h3 (by unfold lbOf; rw [if_neg (by omega)])]
    simp only [Option.bind_some]
    rw [if_pos (by omega), if_pos (by omega), hdv, if_neg (by omega), hqw, t1, hfill]
    simp
theorem fin_ok (x0 x2 : Int) (n0 : -9223372036854775808 < x0) (n1 : x0 ≤ 9223372036854775807) (h2 : 0 ≤ x2 ∧ x2 ≤ 255) (L : List S30) (at_ : Int) (hL : Ok L at_) (hlen : L.length ≤ 8) (hl0 : 0 < L.length) (l1 : List Int) (k : Nat) (hk : 600 ≤ k) :
    laws_FnCustom.l0 (k + 1) x0 x2 L at_ l1 (l1.length : Int) (l1.length : Int) = some true := by
  have a0 := Int.tmod_nonneg 3 h2.1
  have a1 := Int.tmod_lt_of_pos x2 (show (0 : Int) < 3 by decide)
  have b0 : 0 ≤ ((x2 + 1) % 256) % 3 := by omega
  have b1 : ((x2 + 1) % 256) % 3 < 3 := by omega
  obtain ⟨p, p1, p2, p3⟩ := label_ok _ a0 a1
  obtain ⟨q, q1, q2, q3⟩ := label_ok _ b0 b1
  rw [laws_FnCustom.l0, if_neg (by omega)]
  simp only [Option.bind_some]
  rw [if_pos a0, if_pos (by simp only [List.length_cons, List.length_nil]; exact a1), if_pos b0, if_pos (by simp only [List.length_cons, List.length_nil]; exact b1), p3, q3]
  by_cases g : x0 < 0
  · have hw : wrap64 (-x0) = dfOf x0 := by
      unfold dfOf
      rw [if_pos g, wr _ (by omega) (by omega)]
    rw [if_pos g, hw]
    exact j3_ok L at_ hL hlen hl0 x0 n0 n1 q p q1 q2 p2 k hk
  · have hw : dfOf x0 = x0 := by
      unfold dfOf
      rw [if_neg (by omega)]
    rw [if_neg g]
    have := j3_ok L at_ hL hlen hl0 x0 n0 n1 p q p1 p2 q2 k hk
    rw [hw] at this
    exact this
theorem FnCustom : laws_FnCustom.Pure := by
  intro a0 l1 a2 w0 _ _ w1 w2
  have e1 : IntKind.i64.min = -9223372036854775808 := rfl
  have e2 : IntKind.i64.max = 9223372036854775807 := rfl
  have e3 : IntKind.u8.min = 0 := rfl
  have e4 : IntKind.u8.max = 255 := rfl
  have e5 : IntKind.u32.min = 0 := rfl
  have e6 : IntKind.u32.max = 4294967295 := rfl
  simp [Lit.wf, e1, e2] at w0
  simp [Lit.wf, e3, e4] at w2
  have hl1 : ∀ x ∈ l1, 0 ≤ x ∧ x ≤ 4294967295 := by
    intro x hx
    have := w1 x hx
    simpa [Lit.wf, e5, e6] using this
  refine ⟨1000, ?_⟩
  unfold laws_FnCustom.f
  by_cases c1 : (l1.length : Int) > 2147483647
  · rw [if_pos c1]
  · rw [if_neg c1]
    by_cases c2 : a0 = -9223372036854775808
    · rw [if_pos c2]
      rfl
    · rw [if_neg c2]
      by_cases c3 : (l1.length : Int) = 0
      · rw [if_pos c3]
        rfl
      · rw [if_neg c3]
        by_cases c4 : (l1.length : Int) > 8
        · rw [decide_eq_true c4]
          rfl
        · rw [decide_eq_false c4]
          show laws_FnCustom.j0 (999 + 1) a0 l1 a2 false = some true
          rw [laws_FnCustom.j0, if_neg (by simp)]
          obtain ⟨L', at', o1, o2, o3⟩ := rows_l0 a0 a2 l1 hl1 (by omega) l1.length (998 - 6 * l1.length) 0 [] 0 ⟨fun j h => by simp at h, fun i j _ h => by simp at h⟩ rfl (by omega) (by omega) (by omega) (by omega)
          have hk : 998 - 6 * l1.length + 1 + 6 * l1.length = 999 := by omega
          rw [hk] at o3
          have o3' : laws_FnCustom.l0 999 a0 a2 [] 0 l1 (l1.length : Int) 0 = _ := o3
          rw [o3']
          exact fin_ok a0 a2 (by omega) w0.2 w2 L' at' o1 (by omega) (by omega) l1 _ (by omega)
end Go.Proofs.YtmdgbbiipjmenaaDoor.PureCus
