/- The plain part of the law FnWords: the printed functions come to the series of the words, for every list of words of bytes and every conjunction (conditions: each word letter lies in 0..255, the conjunction number is not below 0). -/
import Derived.Test.YtmdgbbiipjmenaaPFnWordsx3
namespace Go.Proofs.Ytmdgbbiipjmenaa.PureW
open Go.RowKit Go.Proofs.Ytmdgbbiipjmenaa.PFnWords Go.Proofs.YtmdgbbiipjmenaaW.PrintWords Go.Proofs.YtmdgbbiipjmenaaW.PrintLast

theorem wr (i : Int) (h0 : -1000 ≤ i) (h1 : i ≤ 1000000000) : wrap64 i = i := by unfold wrap64; omega

/-! isText -/
theorem isText_l1 (x1 : List ByteArray) (x6 : ByteArray) (x8 : List ByteArray) (x9 x10 : Int) (hs : x6.size ≤ 200) :
    ∀ (d k : Nat) (j : Int), 0 ≤ j → (x6.size : Int) - j = d → impl_isText.l1 (k + d + 1) false x1 x6 j x8 x9 x10 = impl_isText.l0 k false x1 x8 x9 (wrap64 (x10 + 1)) := by
  intro d
  induction d with
  | zero =>
    intro k j h0 hd
    simp only [impl_isText.l1]
    rw [if_neg (by omega), if_neg (by omega)]
  | succ d ih =>
    intro k j h0 hd
    rw [show k + (d + 1) + 1 = (k + d + 1) + 1 by omega, impl_isText.l1]
    rw [if_pos (by omega), if_neg (by simp), wr _ (by omega) (by omega)]
    exact ih k (j + 1) (by omega) (by omega)
theorem isText_l0 (l : List ByteArray) (hl : l.length ≤ 20) (hs : ∀ s ∈ l, s.size ≤ 200) :
    ∀ (d k : Nat) (i : Int), 0 ≤ i → (l.length : Int) - i = d → impl_isText.l0 (k + 202 * d + 1) false l l (l.length : Int) i = some true := by
  intro d
  induction d with
  | zero =>
    intro k i h0 hd
    simp only [impl_isText.l0]
    rw [if_neg (by omega)]
    simp; omega
  | succ d ih =>
    intro k i h0 hd
    have hi : i.toNat < l.length := by omega
    have hx : (rdOf ByteArray.empty l i).size ≤ 200 := by
      have : rdOf ByteArray.empty l i = l[i.toNat] := by simp [rdOf, hi]
      rw [this]
      exact hs _ (List.getElem_mem _)
    simp only [impl_isText.l0]
    rw [if_pos (by omega), if_pos h0, if_pos (by omega)]
    rw [show k + 202 * (d + 1) = (k + 200 - (rdOf ByteArray.empty l i).size + 202 * d + 1) + (rdOf ByteArray.empty l i).size + 1 by omega]
    rw [isText_l1 l _ l _ _ hx (rdOf ByteArray.empty l i).size _ 0 (by omega) (by omega), wr _ (by omega) (by omega)]
    exact ih _ (i + 1) (by omega) (by omega)
theorem isText_ok (l : List ByteArray) (hl : l.length ≤ 20) (hs : ∀ s ∈ l, s.size ≤ 200) (k : Nat) (hk : 202 * 20 + 1 ≤ k) : impl_isText.f k false l = some true := by
  unfold impl_isText.f
  rw [show k = (k - 202 * l.length - 1) + 202 * l.length + 1 by omega]
  exact isText_l0 l hl hs _ _ _ (by omega) (by omega)

/-! join -/
def jf (by' out : ByteArray) : List ByteArray → Bool → ByteArray
  | [], _ => out
  | s :: t, b => jf by' (if b then out ++ by' ++ s else out ++ s) t true
theorem join_l0 (by' : ByteArray) (hb : by'.size ≤ 20) (l : List ByteArray) (hl : l.length ≤ 20) (hs : ∀ s ∈ l, s.size ≤ 200) :
    ∀ (d k : Nat) (i : Int) (out : ByteArray), 0 ≤ i → (l.length : Int) - i = d → (out.size : Int) ≤ 300 * i → english_zzJoin.l0 (k + d + 1) by' out l (l.length : Int) i = some (jf by' out (l.drop i.toNat) (decide (0 < i))) := by
  intro d
  induction d with
  | zero =>
    intro k i out h0 hd ho
    simp only [english_zzJoin.l0]
    rw [if_neg (by omega), List.drop_of_length_le (by omega)]
    rfl
  | succ d ih =>
    intro k i out h0 hd ho
    have hi : i.toNat < l.length := by omega
    have hx : (rdOf ByteArray.empty l i) = l[i.toNat] := by simp [rdOf, hi]
    have hz : l[i.toNat].size ≤ 200 := hs _ (List.getElem_mem _)
    rw [show k + (d + 1) + 1 = (k + d + 1) + 1 by omega, english_zzJoin.l0]
    rw [hx, if_pos (by omega), if_pos h0, if_pos (by omega), List.drop_eq_getElem_cons hi, wr _ (by omega) (by omega)]
    have e : i.toNat + 1 = (i + 1).toNat := by omega
    by_cases hp : i > 0
    · rw [if_pos hp, if_pos (by omega), if_pos (by rw [ByteArray.size_append]; omega)]
      rw [ih k (i + 1) _ (by omega) (by omega) (by rw [ByteArray.size_append, ByteArray.size_append]; omega), e]
      have : decide (0 < i + 1) = true := decide_eq_true (by omega)
      rw [this]
      have : decide (0 < i) = true := decide_eq_true hp
      rw [this]
      rfl
    · rw [if_neg hp, if_pos (by omega)]
      rw [ih k (i + 1) _ (by omega) (by omega) (by rw [ByteArray.size_append]; omega), e]
      have : decide (0 < i + 1) = true := decide_eq_true (by omega)
      rw [this]
      have : decide (0 < i) = false := decide_eq_false hp
      rw [this]
      rfl
theorem jf_size (by' : ByteArray) (hb : by'.size ≤ 20) : ∀ (l : List ByteArray) (_hs : ∀ s ∈ l, s.size ≤ 200) (out : ByteArray) (b : Bool), (jf by' out l b).size ≤ out.size + 220 * l.length
  | [], _, out, _ => by simp [jf]
  | s :: t, hs, out, b => by
    have h := jf_size by' hb t (fun x hx => hs x (by simp [hx])) (if b then out ++ by' ++ s else out ++ s) true
    have h2 := hs s (by simp)
    unfold jf
    have : (if b then out ++ by' ++ s else out ++ s).size ≤ out.size + 220 := by
      split <;> simp only [ByteArray.size_append] <;> omega
    simp only [List.length_cons]
    omega
theorem join_ok (by' : ByteArray) (hb : by'.size ≤ 20) (l : List ByteArray) (hl : l.length ≤ 20) (hs : ∀ s ∈ l, s.size ≤ 200) (k : Nat) (hk : 30 ≤ k) :
    english_zzJoin.f k l by' = some (jf by' ⟨#[]⟩ l false) := by
  unfold english_zzJoin.f
  rw [show k = (k - l.length - 1) + l.length + 1 by omega]
  rw [join_l0 by' hb l hl hs l.length _ 0 _ (by omega) (by omega) (by rw [show (⟨#[]⟩ : ByteArray).size = 0 from rfl]; omega)]
  rfl

/-! the series -/
def comma2 : ByteArray := ⟨#[44, 32]⟩
def blank : ByteArray := ⟨#[32]⟩
def lastW (l : List ByteArray) : ByteArray := l.getD (l.length - 1) ByteArray.empty
def manyS (l : List ByteArray) (c : ByteArray) (b : Bool) : ByteArray :=
  (if b then jf comma2 ⟨#[]⟩ (l.take (l.length - 1)) false ++ ⟨#[44]⟩ else jf comma2 ⟨#[]⟩ (l.take (l.length - 1)) false) ++ blank ++ c ++ blank ++ lastW l
theorem lastW_rd (l : List ByteArray) (h : 0 < l.length) : rdOf ByteArray.empty l ((l.length : Int) - 1) = lastW l := by
  unfold rdOf lastW
  rw [show ((l.length : Int) - 1).toNat = l.length - 1 by omega]
theorem lastW_size (l : List ByteArray) (hs : ∀ s ∈ l, s.size ≤ 200) : (lastW l).size ≤ 200 := by
  unfold lastW
  by_cases h : l.length - 1 < l.length
  · rw [List.getD_eq_getElem?_getD, List.getElem?_eq_getElem h]; exact hs _ (List.getElem_mem _)
  · rw [List.getD_eq_getElem?_getD, List.getElem?_eq_none (by omega)]; decide
theorem series_l0 (x0 : List ByteArray) (c : ByteArray) (b : Bool) (hc : c.size ≤ 20) (h0' : 0 < x0.length) (hx0 : ∀ s ∈ x0, s.size ≤ 200) (l : List ByteArray) (hl : l.length ≤ 20) (hs : ∀ s ∈ l, s.size ≤ 200) (hx0l : x0.length ≤ 20) :
    ∀ (d k : Nat) (i : Int) (out : ByteArray), 0 ≤ i → (l.length : Int) - i = d → (out.size : Int) ≤ 300 * i →
      spec_Series.l0 (k + d + 1) x0 c b out l (l.length : Int) i = some ((if b then jf comma2 out (l.drop i.toNat) (decide (0 < i)) ++ ⟨#[44]⟩ else jf comma2 out (l.drop i.toNat) (decide (0 < i))) ++ blank ++ c ++ blank ++ lastW x0) := by
  intro d
  have e1 : (⟨#[44]⟩ : ByteArray).size = 1 := rfl
  have e2 : (⟨#[32]⟩ : ByteArray).size = 1 := rfl
  have e3 : (⟨#[44, 32]⟩ : ByteArray).size = 2 := rfl
  induction d with
  | zero =>
    intro k i out h0 hd ho
    have hz := lastW_size x0 hx0
    have hw : wrap64 ((x0.length : Int) - 1) = (x0.length : Int) - 1 := wr _ (by omega) (by omega)
    rw [spec_Series.l0]
    rw [if_neg (by omega), List.drop_of_length_le (by omega), hw, lastW_rd x0 h0']
    cases b with
    | true =>
      rw [if_pos rfl, if_pos (by omega), if_pos (by simp only [ByteArray.size_append]; omega), if_pos (by simp only [ByteArray.size_append]; omega), if_pos (by simp only [ByteArray.size_append]; omega), if_pos (by omega), if_pos (by omega), if_pos (by simp only [ByteArray.size_append]; omega)]
      rfl
    | false =>
      rw [if_neg (by simp), if_pos (by omega), if_pos (by simp only [ByteArray.size_append]; omega), if_pos (by simp only [ByteArray.size_append]; omega), if_pos (by omega), if_pos (by omega), if_pos (by simp only [ByteArray.size_append]; omega)]
      rfl
  | succ d ih =>
    intro k i out h0 hd ho
    have hi : i.toNat < l.length := by omega
    have hx : (rdOf ByteArray.empty l i) = l[i.toNat] := by simp [rdOf, hi]
    have hz : l[i.toNat].size ≤ 200 := hs _ (List.getElem_mem _)
    rw [show k + (d + 1) + 1 = (k + d + 1) + 1 by omega, spec_Series.l0]
    rw [hx, if_pos (by omega), if_pos h0, if_pos (by omega), List.drop_eq_getElem_cons hi, wr _ (by omega) (by omega)]
    have e : i.toNat + 1 = (i + 1).toNat := by omega
    have d1 : decide (0 < i + 1) = true := decide_eq_true (by omega)
    by_cases hp : i > 0
    · rw [if_pos hp, if_pos (by omega), if_pos (by rw [ByteArray.size_append]; omega)]
      rw [ih k (i + 1) _ (by omega) (by omega) (by rw [ByteArray.size_append, ByteArray.size_append]; omega), e, d1]
      have d2 : decide (0 < i) = true := decide_eq_true hp
      rw [d2]
      rfl
    · rw [if_neg hp, if_pos (by omega)]
      rw [ih k (i + 1) _ (by omega) (by omega) (by rw [ByteArray.size_append]; omega), e, d1]
      have d2 : decide (0 < i) = false := decide_eq_false hp
      rw [d2]
      rfl
def series (l : List ByteArray) (c : ByteArray) (b : Bool) : ByteArray :=
  match l with
  | [] => ⟨#[]⟩
  | [x] => x
  | [x, y] => x ++ blank ++ c ++ blank ++ y
  | l => manyS l c b
theorem take_sizes {l : List ByteArray} (hs : ∀ s ∈ l, s.size ≤ 200) (n : Nat) : ∀ s ∈ l.take n, s.size ≤ 200 := fun s h => hs s (List.mem_of_mem_take h)
theorem series_ok (l : List ByteArray) (c : ByteArray) (b : Bool) (hc : c.size ≤ 20) (hl : l.length ≤ 20) (hs : ∀ s ∈ l, s.size ≤ 200) (k : Nat) (hk : 30 ≤ k) :
    spec_Series.f k l c b = some (series l c b) := by
  have e2 : (⟨#[32]⟩ : ByteArray).size = 1 := rfl
  unfold spec_Series.f
  match l, hl, hs with
  | [], _, _ => rfl
  | [x], _, _ => rfl
  | [x, y], _, hs =>
    have h1 := hs x (by simp)
    have h2 := hs y (by simp)
    have r0 : rdOf ByteArray.empty [x, y] 0 = x := rfl
    have r1 : rdOf ByteArray.empty [x, y] 1 = y := rfl
    rw [if_neg (by simp), if_neg (by simp), if_pos (by simp), r0, r1, if_pos (by simp), if_pos (by omega), if_pos (by simp only [ByteArray.size_append]; omega), if_pos (by simp only [ByteArray.size_append]; omega), if_pos (by simp), if_pos (by simp only [ByteArray.size_append]; omega)]
    rfl
  | x :: y :: z :: t, hl, hs =>
    generalize hL : x :: y :: z :: t = L at *
    have hn : 3 ≤ L.length := by rw [← hL]; simp
    have hw : wrap64 ((L.length : Int) - 1) = (L.length : Int) - 1 := wr _ (by omega) (by omega)
    have hS : series L c b = manyS L c b := by rw [← hL]; rfl
    have ht : (((L.length : Int) - 1).toNat) = L.length - 1 := by omega
    have hlen : (L.take (L.length - 1)).length = L.length - 1 := by rw [List.length_take]; omega
    rw [hw, if_neg (by omega), if_neg (by omega), if_neg (by omega), if_pos (by omega), if_pos (by omega), hS, ht]
    rw [show k = (k - (L.take (L.length - 1)).length - 1) + (L.take (L.length - 1)).length + 1 by omega]
    rw [series_l0 L c b hc (by omega) hs (L.take (L.length - 1)) (by omega) (take_sizes hs _) hl (L.take (L.length - 1)).length _ 0 _ (by omega) (by omega) (by rw [show (⟨#[]⟩ : ByteArray).size = 0 from rfl]; omega)]
    rfl
theorem ba_assoc (a b c : ByteArray) : a ++ b ++ c = a ++ (b ++ c) := by
  apply ByteArray.ext; simp [Array.append_assoc]
theorem ba_nil (a : ByteArray) : (⟨#[]⟩ : ByteArray) ++ a = a := by
  apply ByteArray.ext; simp
theorem words_ok (l : List ByteArray) (c : ByteArray) (hc : c.size ≤ 20) (hl : l.length ≤ 20) (hs : ∀ s ∈ l, s.size ≤ 200) (k : Nat) (hk : 30 ≤ k) :
    english_WordSeries.f k l c = some (series l c false) := by
  have e2 : (⟨#[32]⟩ : ByteArray).size = 1 := rfl
  unfold english_WordSeries.f
  match l, hl, hs with
  | [], _, _ => rfl
  | [x], _, _ => rfl
  | x :: y :: t, hl, hs =>
    generalize hL : x :: y :: t = L at *
    have hn : 2 ≤ L.length := by rw [← hL]; simp
    have hw : wrap64 ((L.length : Int) - 1) = (L.length : Int) - 1 := wr _ (by omega) (by omega)
    have ht : (((L.length : Int) - 1).toNat) = L.length - 1 := by omega
    have hlen : (L.take (L.length - 1)).length = L.length - 1 := by rw [List.length_take]; omega
    have hz := lastW_size L hs
    have hj := join_ok comma2 (by decide) (L.take (L.length - 1)) (by omega) (take_sizes hs _) k hk
    have hj2 := jf_size comma2 (by decide) (L.take (L.length - 1)) (take_sizes hs _) ⟨#[]⟩ false
    rw [show (⟨#[]⟩ : ByteArray).size = 0 from rfl, hlen] at hj2
    rw [hw, ht, lastW_rd L (by omega), if_neg (by omega), if_neg (by omega), if_pos (by omega), if_pos (by omega)]
    unfold comma2 at hj hj2
    rw [hj, Option.bind_some, if_pos (by omega), if_pos (by simp only [ByteArray.size_append]; omega), if_pos (by simp only [ByteArray.size_append]; omega), if_pos (by omega), if_pos (by simp only [ByteArray.size_append]; omega)]
    congr 1
    rw [← hL]
    cases t with
    | nil => simp only [series, lastW, jf, blank, List.length_cons, List.length_nil, List.take, List.getD]; simp [ba_nil]
    | cons z t => rfl
theorem oxford_ok (l : List ByteArray) (c : ByteArray) (hc : c.size ≤ 10) (hl : l.length ≤ 20) (hs : ∀ s ∈ l, s.size ≤ 200) (k : Nat) (hk : 30 ≤ k) :
    english_OxfordWordSeries.f k l c = some (series l c true) := by
  have e2 : (⟨#[32]⟩ : ByteArray).size = 1 := rfl
  have e3 : (⟨#[44, 32]⟩ : ByteArray).size = 2 := rfl
  unfold english_OxfordWordSeries.f
  match l, hl, hs with
  | [], _, _ => rfl
  | [x], _, _ => rfl
  | [x, y], hl, hs =>
    rw [if_neg (by simp), if_neg (by simp), if_pos (by simp), if_pos (by omega), if_pos (by simp only [ByteArray.size_append]; omega)]
    rw [join_ok _ (by simp only [ByteArray.size_append]; omega) [x, y] hl hs k hk]
    simp only [jf, series, blank, Option.bind_some]
    simp [ba_nil, ba_assoc]
  | x :: y :: z :: t, hl, hs =>
    generalize hL : x :: y :: z :: t = L at *
    have hn : 3 ≤ L.length := by rw [← hL]; simp
    have hw : wrap64 ((L.length : Int) - 1) = (L.length : Int) - 1 := wr _ (by omega) (by omega)
    have hS : series L c true = manyS L c true := by rw [← hL]; rfl
    have ht : (((L.length : Int) - 1).toNat) = L.length - 1 := by omega
    have hlen : (L.take (L.length - 1)).length = L.length - 1 := by rw [List.length_take]; omega
    have hz := lastW_size L hs
    have hj := join_ok comma2 (by decide) (L.take (L.length - 1)) (by omega) (take_sizes hs _) k hk
    have hj2 := jf_size comma2 (by decide) (L.take (L.length - 1)) (take_sizes hs _) ⟨#[]⟩ false
    rw [show (⟨#[]⟩ : ByteArray).size = 0 from rfl, hlen] at hj2
    rw [hw, ht, lastW_rd L (by omega), if_neg (by omega), if_neg (by omega), if_neg (by omega), if_pos (by omega), if_pos (by omega)]
    unfold comma2 at hj hj2
    rw [hj, Option.bind_some, if_pos (by omega), if_pos (by simp only [ByteArray.size_append]; omega), if_pos (by simp only [ByteArray.size_append]; omega), if_pos (by omega), if_pos (by simp only [ByteArray.size_append]; omega), hS]
    unfold manyS
    simp only [if_true]
    congr 1
    simp only [ba_assoc, comma2]
    rfl

theorem one_text (c : ByteArray) (hc : c.size ≤ 20) (k : Nat) (hk : 5000 ≤ k) : impl_isText.f k false [c] = some true :=
  isText_ok [c] (by simp) (by intro s hs; simp at hs; subst hs; omega) k (by omega)
theorem implWords_ok (l : List ByteArray) (c : ByteArray) (hc : c.size ≤ 10) (hl : l.length ≤ 20) (hs : ∀ s ∈ l, s.size ≤ 200) (k : Nat) (hk : 5000 ≤ k) :
    impl_Words.f k l c = some (series l c false) := by
  unfold impl_Words.f
  rw [isText_ok l hl hs k (by omega), Option.bind_some, if_pos rfl, one_text c (by omega) k hk, Option.bind_some, if_pos rfl, if_pos (by simp; omega), List.nil_append, words_ok l c (by omega) hl hs k (by omega)]
  rfl
theorem implOxford_ok (l : List ByteArray) (c : ByteArray) (hc : c.size ≤ 10) (hl : l.length ≤ 20) (hs : ∀ s ∈ l, s.size ≤ 200) (k : Nat) (hk : 5000 ≤ k) :
    impl_Oxford.f k l c = some (series l c true) := by
  unfold impl_Oxford.f
  rw [isText_ok l hl hs k (by omega), Option.bind_some, if_pos rfl, one_text c (by omega) k hk, Option.bind_some, if_pos rfl, if_pos (by simp; omega), List.nil_append, oxford_ok l c hc hl hs k (by omega)]
  rfl
theorem fits_l0 (l : List (List Int)) : ∀ (d k : Nat) (i : Int), 0 ≤ i → l.length ≤ 2147483647 → (l.length : Int) - i = d → ∃ b, laws_zzFits1.l0 (k + d + 1) l (l.length : Int) i = some b := by
  intro d
  induction d with
  | zero =>
    intro k i h0 hl hd
    rw [laws_zzFits1.l0, if_neg (by omega)]
    exact ⟨_, rfl⟩
  | succ d ih =>
    intro k i h0 hl hd
    rw [show k + (d + 1) + 1 = (k + d + 1) + 1 by omega, laws_zzFits1.l0, if_pos (by omega), if_pos h0, if_pos (by omega)]
    split
    · exact ⟨_, rfl⟩
    · rw [show wrap64 (i + 1) = i + 1 by unfold wrap64; omega]
      exact ih k (i + 1) (by omega) hl (by omega)
theorem fits_ok (l : List (List Int)) (k : Nat) (hk : l.length + 1 ≤ k) : ∃ b, laws_zzFits1.f k l = some b := by
  unfold laws_zzFits1.f
  split
  · exact ⟨_, rfl⟩
  · rename_i h
    rw [show k = (k - l.length - 1) + l.length + 1 by omega]
    exact fits_l0 l l.length _ 0 (by omega) (by omega) (by omega)
theorem law_l0 (c : Int) (hc0 : 0 ≤ c) (l : List (List Int)) (hl : l.length ≤ 12) (hb : ∀ x ∈ l, ∀ z ∈ x, 0 ≤ z ∧ z ≤ 255) :
    ∀ (d k : Nat) (i : Int) (ws : List ByteArray), 0 ≤ i → (l.length : Int) - i = d → (ws.length : Int) = i → (∀ s ∈ ws, s.size ≤ 200) →
      laws_FnWords.l0 (k + 5000 + d + 1) c ws l (l.length : Int) i = some true := by
  intro d
  induction d with
  | zero =>
    intro k i ws h0 hd hw hs
    rw [laws_FnWords.l0, if_neg (by omega)]
    have hm : 0 ≤ Int.tmod c 3 ∧ Int.tmod c 3 < 3 := by
      rw [Int.tmod_eq_emod_of_nonneg hc0]; omega
    rw [Option.bind_some, if_pos hm.1, if_pos (by simp; omega)]
    have hsz : (rdOf ByteArray.empty ([(⟨#[97, 110, 100]⟩ : ByteArray), (⟨#[111, 114]⟩ : ByteArray), (⟨#[110, 111, 114]⟩ : ByteArray)] : List ByteArray) (Int.tmod c 3)).size ≤ 10 := by
      have : Int.tmod c 3 = 0 ∨ Int.tmod c 3 = 1 ∨ Int.tmod c 3 = 2 := by omega
      rcases this with h | h | h <;> rw [h] <;> decide
    generalize (rdOf ByteArray.empty ([(⟨#[97, 110, 100]⟩ : ByteArray), (⟨#[111, 114]⟩ : ByteArray), (⟨#[110, 111, 114]⟩ : ByteArray)] : List ByteArray) (Int.tmod c 3)) = cj at hsz ⊢
    have hwl : ws.length ≤ 20 := by omega
    rw [implWords_ok ws cj hsz hwl hs _ (by omega), Option.bind_some, series_ok ws cj false (by omega) hwl hs _ (by omega), Option.bind_some, if_pos rfl,
      implOxford_ok ws cj hsz hwl hs _ (by omega), Option.bind_some, series_ok ws cj true (by omega) hwl hs _ (by omega), Option.bind_some, if_pos rfl,
      implWords_ok [(⟨#[97]⟩ : ByteArray)] cj hsz (by simp) (by intro s h; simp at h; subst h; decide) _ (by omega), Option.bind_some]
    rw [show series [(⟨#[97]⟩ : ByteArray)] cj false = ⟨#[97]⟩ from rfl, show (⟨#[97]⟩ : ByteArray).toList = [97] from ByteArray.toList_mk [97]]
    rfl
  | succ d ih =>
    intro k i ws h0 hd hw hs
    have hi : i.toNat < l.length := by omega
    have hx : (rd_L1 l i) = l[i.toNat] := by simp [rd_L1, hi]
    rw [show k + 5000 + (d + 1) + 1 = (k + 5000 + d + 1) + 1 by omega, laws_FnWords.l0, if_pos (by omega), if_pos h0, if_pos (by omega)]
    split
    · rfl
    · rw [hx]
      unfold laws_wordOf.f
      rw [if_pos (hb _ (List.getElem_mem _)), Option.bind_some, if_pos (by omega), wr _ (by omega) (by omega)]
      refine ih k (i + 1) _ (by omega) (by omega) (by simp; omega) ?_
      intro s h
      rw [List.mem_append] at h
      rcases h with h | h
      · exact hs s h
      · simp at h
        subst h
        have := wordL_len l[i.toNat] 8
        show (wordL (List.take 8 l[i.toNat])).toArray.size ≤ 200
        simp
        omega
/-- For any bytes as words and any conjunction the law tells true. -/
theorem law_ok (l : List (List Int)) (c : Int) (hc0 : 0 ≤ c) (hb : ∀ x ∈ l, ∀ z ∈ x, 0 ≤ z ∧ z ≤ 255) : ∃ k, laws_FnWords.f k l c = some true := by
  refine ⟨5000 + l.length + 1, ?_⟩
  unfold laws_FnWords.f
  obtain ⟨b, h⟩ := fits_ok l (5000 + l.length + 1) (by omega)
  rw [h, Option.bind_some]
  cases b with
  | false => rfl
  | true =>
    rw [if_pos rfl]
    by_cases h12 : (l.length : Int) > 12
    · rw [if_pos h12]
    · rw [if_neg h12]
      have := law_l0 c hc0 l (by omega) hb l.length 0 0 [] (by omega) (by omega) (by simp) (by simp)
      rw [Nat.zero_add] at this
      exact this
#print axioms law_ok
end Go.Proofs.Ytmdgbbiipjmenaa.PureW
