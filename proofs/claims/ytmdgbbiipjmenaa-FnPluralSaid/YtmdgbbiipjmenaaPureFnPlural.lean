/- The plain part of the law FnPlural: the printed functions tell the same word and the same number (conditions: the number lies in 64 bits, the letters' numbers in 0..255). -/
import Derived.Test.YtmdgbbiipjmenaaPureDecP
import Derived.OpenShut
namespace Go.Proofs.Ytmdgbbiipjmenaa.Pure
open Go.RowKit Go.Lib Go.Proofs.Ytmdgbbiipjmenaa.PFnPlural Go.Proofs.YtmdgbbiipjmenaaW.PrintWords Go.Proofs.YtmdgbbiipjmenaaW.PrintLast Go.Proofs.Ytmdgbbiipjmenaa.PlainDec Go.Proofs.Ytmdgbbiipjmenaa.PureDecP

/-! isText of small letters -/
theorem bt_small (s : ByteArray) (hs : ∀ b ∈ s.data.toList, b.toNat ≤ 122) (i : Int) : bt s i ≤ 122 := by
  unfold bt
  split
  · rename_i h
    have : s[i.toNat] ∈ s.data.toList := by
      show s.data[i.toNat] ∈ s.data.toList
      simp
    have := hs _ this
    omega
  · omega
theorem asc_l1 (x1 : List ByteArray) (x6 : ByteArray) (x8 : List ByteArray) (x9 x10 : Int) (hs : x6.size ≤ 200) (ha : ∀ b ∈ x6.data.toList, b.toNat ≤ 122) :
    ∀ (d k : Nat) (j : Int), 0 ≤ j → (x6.size : Int) - j = d → impl_isText.l1 (k + d + 1) true x1 x6 j x8 x9 x10 = impl_isText.l0 k true x1 x8 x9 (wrap64 (x10 + 1)) := by
  intro d
  induction d with
  | zero =>
    intro k j h0 hd
    rw [impl_isText.l1, if_neg (by omega), if_neg (by omega)]
  | succ d ih =>
    intro k j h0 hd
    have hb := bt_small x6 ha j
    rw [show k + (d + 1) + 1 = (k + d + 1) + 1 by omega, impl_isText.l1]
    rw [if_pos (by omega), if_pos rfl, if_pos h0, if_neg (by omega), wr _ (by omega) (by omega)]
    exact ih k (j + 1) (by omega) (by omega)
def Word (s : ByteArray) : Prop := s.size ≤ 8 ∧ ∀ b ∈ s.data.toList, b.toNat ≤ 122
theorem isText_two (s m : ByteArray) (hs : Word s) (hm : Word m) (k : Nat) (hk : 40 ≤ k) : impl_isText.f k true [s, m] = some true := by
  obtain ⟨h1, h2⟩ := hs
  obtain ⟨h3, h4⟩ := hm
  unfold impl_isText.f
  obtain ⟨q, rfl⟩ : ∃ q, k = ((((q + 1) + m.size + 1) + 1) + s.size + 1) + 1 := ⟨k - (m.size + s.size + 5), by omega⟩
  rw [impl_isText.l0, if_pos (by simp), if_pos (by omega), if_pos (by simp)]
  rw [show rdOf ByteArray.empty [s, m] 0 = s from rfl, asc_l1 _ s _ _ _ (by omega) h2 s.size _ 0 (by omega) (by omega), wr _ (by omega) (by omega)]
  rw [impl_isText.l0, if_pos (by simp), if_pos (by omega), if_pos (by simp)]
  rw [show rdOf ByteArray.empty [s, m] (0 + 1) = m from rfl, asc_l1 _ m _ _ _ (by omega) h4 m.size _ 0 (by omega) (by omega), wr _ (by omega) (by omega)]
  rw [impl_isText.l0, if_neg (by simp)]
  rfl

/-! the word for many -/
def endsB (a b : ByteArray) : Bool := decide (b.size ≤ a.size) && ((a.extract (a.size - b.size) a.size).toList == b.toList)
theorem ends_ok (a b : ByteArray) (ha : a.size ≤ 100) : english_zzEnds.f a b = some (endsB a b) := by
  unfold english_zzEnds.f endsB
  by_cases h : b.size ≤ a.size
  · rw [if_pos (by omega), wr _ (by omega) (by omega), if_pos (by omega), if_pos (by omega), show ((a.size : Int) - (b.size : Int)).toNat = a.size - b.size by omega]
    simp [h]
  · rw [if_neg (by omega)]
    simp [h]
theorem specEnds_ok (a b : ByteArray) (ha : a.size ≤ 100) : spec_ends.f a b = some (endsB a b) := ends_ok a b ha
theorem ends_one (a : ByteArray) (c : UInt8) : endsB a ⟨#[c]⟩ = (decide (1 ≤ a.size) && decide (bt a ((a.size : Int) - 1) = (c.toNat : Int))) := by
  unfold endsB
  have e1 : (⟨#[c]⟩ : ByteArray).size = 1 := rfl
  rw [e1]
  by_cases h : 1 ≤ a.size
  · have hd : decide (1 ≤ a.size) = true := decide_eq_true h
    rw [hd, Bool.true_and, Bool.true_and]
    obtain ⟨l⟩ := a
    obtain ⟨l⟩ := l
    have hl : (⟨⟨l⟩⟩ : ByteArray).size = l.length := rfl
    rw [hl] at h
    have hx : (⟨l.toArray⟩ : ByteArray).extract (l.length - 1) l.length = ⟨[l[l.length - 1]'(by omega)].toArray⟩ := by
      rw [ByteArray.extract_mk, show l.length - (l.length - 1) = 1 by omega, List.drop_eq_getElem_cons (by omega)]
      rfl
    have hb : bt ⟨⟨l⟩⟩ ((l.length : Int) - 1) = ((l[l.length - 1]'(by omega)).toNat : Int) := by
      unfold bt
      rw [dif_pos (by rw [hl]; omega)]
      show ((l.toArray[((l.length : Int) - 1).toNat]'_).toNat : Int) = _
      simp only [show ((l.length : Int) - 1).toNat = l.length - 1 by omega]
      simp
    rw [hl, hb, hx, ByteArray.toList_mk, show (⟨#[c]⟩ : ByteArray).toList = [c] from ByteArray.toList_mk [c]]
    rw [Bool.eq_iff_iff]
    simp only [beq_iff_eq, List.cons.injEq, and_true, decide_eq_true_eq]
    constructor
    · intro h; rw [h]
    · intro h; exact UInt8.toNat_inj.1 (by omega)
  · have hd : decide (1 ≤ a.size) = false := decide_eq_false h
    rw [hd, Bool.false_and, Bool.false_and]
def vow (x : Int) : Bool := x == 97 || x == 101 || x == 105 || x == 111 || x == 117 || x == 65 || x == 69 || x == 73 || x == 79 || x == 85
theorem isVowel_ok (x : Int) : english_isVowel.f x = some (vow x) := by
  unfold english_isVowel.f vow
  repeat' split
  all_goals simp_all
theorem vowel_ok (a : ByteArray) (h : 2 ≤ a.size) (h2 : a.size ≤ 100) : spec_vowel.f a 2 = some (vow (bt a ((a.size : Int) - 2))) := by
  unfold spec_vowel.f
  rw [if_neg (by omega), wr _ (by omega) (by omega), if_pos (by omega), if_pos (by omega)]
  generalize bt a ((a.size : Int) - 2) = x
  unfold vow
  repeat' split
  all_goals simp_all
def manyOf (s : ByteArray) : ByteArray :=
  if endsB s ⟨#[115]⟩ || endsB s ⟨#[115, 104]⟩ || endsB s ⟨#[116, 99, 104]⟩ || endsB s ⟨#[120]⟩ then s ++ ⟨#[101, 115]⟩
  else if 2 ≤ s.size ∧ bt s ((s.size : Int) - 1) = 111 ∧ vow (bt s ((s.size : Int) - 2)) = false then s ++ ⟨#[101, 115]⟩
  else if 2 ≤ s.size ∧ bt s ((s.size : Int) - 1) = 121 ∧ vow (bt s ((s.size : Int) - 2)) = false then s.extract 0 (s.size - 1) ++ ⟨#[105, 101, 115]⟩
  else s ++ ⟨#[115]⟩
theorem manyJ (s : ByteArray) (h1 : 1 ≤ s.size) (hs : s.size ≤ 8) (k : Nat) (hk : 1 ≤ k) (b : Bool) :
    spec_Many.j0 k s b = some (if b then s ++ ⟨#[101, 115]⟩ else if 2 ≤ s.size ∧ bt s ((s.size : Int) - 1) = 121 ∧ vow (bt s ((s.size : Int) - 2)) = false then s.extract 0 (s.size - 1) ++ ⟨#[105, 101, 115]⟩ else s ++ ⟨#[115]⟩) := by
  obtain ⟨k, rfl⟩ : ∃ j, k = j + 1 := ⟨k - 1, by omega⟩
  rw [spec_Many.j0]
  cases b with
  | true => rw [if_pos rfl, if_pos (by omega)]; rfl
  | false =>
    rw [if_neg (by simp), specEnds_ok s _ (by omega), ends_one, Option.bind_some]
    have hd : decide (1 ≤ s.size) = true := decide_eq_true h1
    rw [hd, Bool.true_and]
    by_cases hy : bt s ((s.size : Int) - 1) = 121
    · have hy' : decide (bt s ((s.size : Int) - 1) = (((121 : UInt8).toNat : Nat) : Int)) = true := decide_eq_true hy
      rw [hy', if_pos rfl]
      by_cases h2 : 2 ≤ s.size
      · rw [if_pos (by omega), vowel_ok s h2 (by omega), Option.bind_some]
        cases hv : vow (bt s ((s.size : Int) - 2)) with
        | true =>
          rw [if_pos rfl, if_pos (by omega)]
          simp
        | false =>
          rw [if_neg (by simp), wr _ (by omega) (by omega), if_pos (by omega), if_pos (by omega), show ((s.size : Int) - 1).toNat = s.size - 1 by omega]
          rw [if_pos (by rw [ByteArray.size_extract]; omega)]
          simp [h2, hy]
      · rw [if_neg (by omega), if_pos (by omega)]
        simp [h2]
    · have hy' : decide (bt s ((s.size : Int) - 1) = (((121 : UInt8).toNat : Nat) : Int)) = false := decide_eq_false hy
      rw [hy', if_neg (by simp), if_pos (by omega)]
      simp [hy]
theorem many_ok (s : ByteArray) (h1 : 1 ≤ s.size) (hs : s.size ≤ 8) (k : Nat) (hk : 1 ≤ k) : spec_Many.f k s = some (manyOf s) := by
  unfold spec_Many.f manyOf
  have hne : ¬ s.toList = ([] : List UInt8) := by
    intro h
    rw [ByteArray.toList_eq] at h
    have : s.data.toList.length = 0 := by rw [h]; rfl
    rw [Array.length_toList] at this
    have h2 : s.size = 0 := this
    omega
  have hd : decide (1 ≤ s.size) = true := decide_eq_true h1
  rw [if_neg hne, specEnds_ok s _ (by omega), Option.bind_some]
  cases e1 : endsB s ⟨#[115]⟩ with
  | true => rw [if_pos rfl, manyJ s h1 hs k hk]; simp
  | false =>
    rw [if_neg (by simp), specEnds_ok s _ (by omega), Option.bind_some]
    cases e2 : endsB s ⟨#[115, 104]⟩ with
    | true => rw [if_pos rfl, manyJ s h1 hs k hk]; simp
    | false =>
      rw [if_neg (by simp), specEnds_ok s _ (by omega), Option.bind_some]
      cases e3 : endsB s ⟨#[116, 99, 104]⟩ with
      | true => rw [if_pos rfl, manyJ s h1 hs k hk]; simp
      | false =>
        rw [if_neg (by simp), specEnds_ok s _ (by omega), Option.bind_some]
        cases e4 : endsB s ⟨#[120]⟩ with
        | true => rw [if_pos rfl, manyJ s h1 hs k hk]; simp
        | false =>
          rw [if_neg (by simp), specEnds_ok s _ (by omega), ends_one, Option.bind_some, hd, Bool.true_and]
          by_cases ho : bt s ((s.size : Int) - 1) = 111
          · have ho' : decide (bt s ((s.size : Int) - 1) = (((111 : UInt8).toNat : Nat) : Int)) = true := decide_eq_true ho
            rw [ho', if_pos rfl]
            by_cases h2 : 2 ≤ s.size
            · rw [if_pos (by omega), vowel_ok s h2 (by omega), Option.bind_some, manyJ s h1 hs k hk]
              cases hv : vow (bt s ((s.size : Int) - 2)) with
              | true => simp
              | false => simp [h2, ho]
            · rw [if_neg (by omega), manyJ s h1 hs k hk]
              simp [h2]
          · have ho' : decide (bt s ((s.size : Int) - 1) = (((111 : UInt8).toNat : Nat) : Int)) = false := decide_eq_false ho
            rw [ho', if_neg (by simp), manyJ s h1 hs k hk]
            simp [ho]
theorem pwJ (s : ByteArray) (h1 : 1 ≤ s.size) (hs : s.size ≤ 8) (k : Nat) (hk : 1 ≤ k) (b : Bool) :
    english_PluralWord.j1 k s (s.size : Int) b = some (if b then s ++ ⟨#[101, 115]⟩ else if 2 ≤ s.size ∧ bt s ((s.size : Int) - 1) = 121 ∧ vow (bt s ((s.size : Int) - 2)) = false then s.extract 0 (s.size - 1) ++ ⟨#[105, 101, 115]⟩ else s ++ ⟨#[115]⟩) := by
  obtain ⟨k, rfl⟩ : ∃ j, k = j + 1 := ⟨k - 1, by omega⟩
  rw [english_PluralWord.j1]
  cases b with
  | true => rw [if_pos rfl, if_pos (by omega)]; rfl
  | false =>
    rw [if_neg (by simp)]
    by_cases h2 : 2 ≤ s.size
    · rw [if_pos (by omega), wr _ (by omega) (by omega), if_pos (by omega), if_pos (by omega)]
      by_cases hy : bt s ((s.size : Int) - 1) = 121
      · rw [if_pos hy, wr _ (by omega) (by omega), if_pos (by omega), if_pos (by omega), isVowel_ok, Option.bind_some]
        cases hv : vow (bt s ((s.size : Int) - 2)) with
        | true => rw [if_pos rfl, if_pos (by omega)]; simp
        | false =>
          rw [if_neg (by simp), if_pos (by omega), show ((s.size : Int) - 1).toNat = s.size - 1 by omega]
          rw [if_pos (by rw [ByteArray.size_extract]; omega)]
          simp [h2, hy]
      · rw [if_neg hy, if_pos (by omega)]
        simp [hy]
    · rw [if_neg (by omega), if_pos (by omega)]
      simp [h2]
theorem pw_l0 (s : ByteArray) (h1 : 1 ≤ s.size) (hs : s.size ≤ 8) (k : Nat) (hk : 10 ≤ k) :
    english_PluralWord.l0 k s ([(⟨#[115]⟩ : ByteArray), (⟨#[115, 104]⟩ : ByteArray), (⟨#[116, 99, 104]⟩ : ByteArray), (⟨#[120]⟩ : ByteArray)] : List ByteArray) 4 0 = some (manyOf s) := by
  unfold manyOf
  have hd : decide (1 ≤ s.size) = true := decide_eq_true h1
  obtain ⟨k, rfl⟩ : ∃ j, k = j + 1 + 1 + 1 + 1 + 1 := ⟨k - 5, by omega⟩
  rw [english_PluralWord.l0, if_pos (by omega), if_pos (by omega), if_pos (by simp), show rdOf ByteArray.empty ([(⟨#[115]⟩ : ByteArray), (⟨#[115, 104]⟩ : ByteArray), (⟨#[116, 99, 104]⟩ : ByteArray), (⟨#[120]⟩ : ByteArray)] : List ByteArray) 0 = ⟨#[115]⟩ from rfl, ends_ok s _ (by omega), Option.bind_some]
  cases e1 : endsB s ⟨#[115]⟩ with
  | true => rw [if_pos rfl, if_pos (by omega)]; simp
  | false =>
    rw [if_neg (by simp), show wrap64 (0 + 1) = 1 from wr _ (by omega) (by omega)]
    rw [english_PluralWord.l0, if_pos (by omega), if_pos (by omega), if_pos (by simp), show rdOf ByteArray.empty ([(⟨#[115]⟩ : ByteArray), (⟨#[115, 104]⟩ : ByteArray), (⟨#[116, 99, 104]⟩ : ByteArray), (⟨#[120]⟩ : ByteArray)] : List ByteArray) 1 = ⟨#[115, 104]⟩ from rfl, ends_ok s _ (by omega), Option.bind_some]
    cases e2 : endsB s ⟨#[115, 104]⟩ with
    | true => rw [if_pos rfl, if_pos (by omega)]; simp
    | false =>
      rw [if_neg (by simp), show wrap64 (1 + 1) = 2 from wr _ (by omega) (by omega)]
      rw [english_PluralWord.l0, if_pos (by omega), if_pos (by omega), if_pos (by simp), show rdOf ByteArray.empty ([(⟨#[115]⟩ : ByteArray), (⟨#[115, 104]⟩ : ByteArray), (⟨#[116, 99, 104]⟩ : ByteArray), (⟨#[120]⟩ : ByteArray)] : List ByteArray) 2 = ⟨#[116, 99, 104]⟩ from rfl, ends_ok s _ (by omega), Option.bind_some]
      cases e3 : endsB s ⟨#[116, 99, 104]⟩ with
      | true => rw [if_pos rfl, if_pos (by omega)]; simp
      | false =>
        rw [if_neg (by simp), show wrap64 (2 + 1) = 3 from wr _ (by omega) (by omega)]
        rw [english_PluralWord.l0, if_pos (by omega), if_pos (by omega), if_pos (by simp), show rdOf ByteArray.empty ([(⟨#[115]⟩ : ByteArray), (⟨#[115, 104]⟩ : ByteArray), (⟨#[116, 99, 104]⟩ : ByteArray), (⟨#[120]⟩ : ByteArray)] : List ByteArray) 3 = ⟨#[120]⟩ from rfl, ends_ok s _ (by omega), Option.bind_some]
        cases e4 : endsB s ⟨#[120]⟩ with
        | true => rw [if_pos rfl, if_pos (by omega)]; simp
        | false =>
          rw [if_neg (by simp), show wrap64 (3 + 1) = 4 from wr _ (by omega) (by omega)]
          rw [english_PluralWord.l0, if_neg (by omega)]
          by_cases h2 : 2 ≤ s.size
          · rw [if_pos (by omega), wr _ (by omega) (by omega), if_pos (by omega), if_pos (by omega)]
            by_cases ho : bt s ((s.size : Int) - 1) = 111
            · rw [if_pos ho, wr _ (by omega) (by omega), if_pos (by omega), if_pos (by omega), isVowel_ok, Option.bind_some, pwJ s h1 hs k (by omega)]
              cases hv : vow (bt s ((s.size : Int) - 2)) with
              | true => simp
              | false => simp [h2, ho]
            · rw [if_neg ho, pwJ s h1 hs k (by omega)]
              simp [ho]
          · rw [if_neg (by omega), pwJ s h1 hs k (by omega)]
            simp [h2]
/-- The word for so many. -/
def wordFor (n : Int) (s m : ByteArray) : ByteArray := if n = 1 then s else if m.toList = [] then manyOf s else m
theorem pluralWord_ok (n : Int) (s m : ByteArray) (h1 : 1 ≤ s.size) (hs : s.size ≤ 8) (hi : ¬ s.toList = [105, 110, 100, 101, 120]) (hx : ¬ s.toList = [109, 97, 116, 114, 105, 120]) (hv : ¬ s.toList = [118, 101, 114, 116, 101, 120]) (k : Nat) (hk : 10 ≤ k) :
    english_PluralWord.f k n s m = some (wordFor n s m) := by
  unfold english_PluralWord.f wordFor
  by_cases hn : n = 1
  · rw [if_pos hn, if_pos hn]
  · rw [if_neg hn, if_neg hn]
    by_cases hm : m.toList = []
    · rw [if_pos hm, if_pos hm]
      unfold english_specialPlurals.f english_sibilantEndings.f
      rw [if_neg hi, if_neg hx, if_neg hv, Option.bind_some, if_pos (ByteArray.toList_mk []), Option.bind_some]
      exact pw_l0 s h1 hs k hk
    · rw [if_neg hm, if_neg hm]
theorem manyOf_size (s : ByteArray) : (manyOf s).size ≤ s.size + 3 := by
  have e1 : (⟨#[101, 115]⟩ : ByteArray).size = 2 := rfl
  have e2 : (⟨#[105, 101, 115]⟩ : ByteArray).size = 3 := rfl
  have e3 : (⟨#[115]⟩ : ByteArray).size = 1 := rfl
  unfold manyOf
  repeat' split
  all_goals simp only [ByteArray.size_append, ByteArray.size_extract]
  all_goals omega
theorem word_ok (l : List Int) (h : ∀ x ∈ l, 0 ≤ x ∧ x ≤ 255) (k : Nat) : ∃ s, laws_wordOf.f k l = some s ∧ Word s ∧ ∀ k', laws_wordOf.f k' l = some s := by
  refine ⟨⟨(wordL (l.take 8)).toArray⟩, ?_, ⟨?_, ?_⟩, ?_⟩
  · unfold laws_wordOf.f; rw [if_pos h]
  · rw [mk_size]; exact wordL_len l 8
  · intro b hb
    simp only [wordL, List.mem_map] at hb
    obtain ⟨z, _, rfl⟩ := hb
    simp
    omega
  · intro k'; unfold laws_wordOf.f; rw [if_pos h]
theorem j3_ok (n : Int) (h0 : -9223372036854775808 ≤ n) (h1' : n ≤ 9223372036854775807) (s m : ByteArray) (hs : Word s) (hm : Word m) (h1 : 1 ≤ s.size) (hi : ¬ s.toList = [105, 110, 100, 101, 120]) (hx : ¬ s.toList = [109, 97, 116, 114, 105, 120]) (hv : ¬ s.toList = [118, 101, 114, 116, 101, 120])
    (k : Nat) (hk : 200 ≤ k) (w : ByteArray) (hw : n = 1 ∨ w = wordFor n s m) : laws_FnPlural.j3 k n s m w = some true := by
  obtain ⟨k, rfl⟩ : ∃ j, k = j + 1 := ⟨k - 1, by omega⟩
  have hc := commaL_len n h0 h1'
  have hcs : (comma n).size = (commaL n).length := mk_size _
  have hms := manyOf_size s
  have hwz : (wordFor n s m).size ≤ 11 := by
    obtain ⟨a1, _⟩ := hs
    obtain ⟨a2, _⟩ := hm
    unfold wordFor
    repeat' split
    all_goals omega
  have hsz := hs.1
  have e1 : (⟨#[32]⟩ : ByteArray).size = 1 := rfl
  have hIW : impl_PluralWord.f k n s m = some (wordFor n s m) := by
    unfold impl_PluralWord.f
    rw [isText_two s m hs hm k (by omega), Option.bind_some, if_pos rfl, pluralWord_ok n s m h1 hs.1 hi hx hv k (by omega)]
    rfl
  have hIP : impl_Plural.f k n s m = some ((comma n ++ ⟨#[32]⟩) ++ wordFor n s m) := by
    unfold impl_Plural.f english_Plural.f
    rw [isText_two s m hs hm k (by omega), Option.bind_some, if_pos rfl, humComma_ok n h0 h1' k (by omega), Option.bind_some, if_pos (by omega), pluralWord_ok n s m h1 hs.1 hi hx hv k (by omega), Option.bind_some, if_pos (by rw [ByteArray.size_append]; omega)]
    rfl
  rw [laws_FnPlural.j3]
  by_cases hn : n = 1
  · have hws : wordFor n s m = s := by unfold wordFor; rw [if_pos hn]
    rw [hws] at hIW hIP
    rw [if_pos hn, hIW, Option.bind_some, if_pos rfl, hIP, Option.bind_some, specComma_ok n h0 h1' k (by omega), Option.bind_some, if_pos (by omega), if_pos (by rw [ByteArray.size_append]; omega)]
    simp
  · have hww : w = wordFor n s m := by
      rcases hw with h | h
      · exact absurd h hn
      · exact h
    subst hww
    rw [if_neg hn, hIW, Option.bind_some, if_pos rfl, hIP, Option.bind_some, specComma_ok n h0 h1' k (by omega), Option.bind_some, if_pos (by omega), if_pos (by rw [ByteArray.size_append]; omega)]
    simp
theorem j2_ok (n : Int) (h0 : -9223372036854775808 ≤ n) (h1' : n ≤ 9223372036854775807) (s m : ByteArray) (hs : Word s) (hm : Word m) (k : Nat) (hk : 300 ≤ k) (b : Bool)
    (hb : b = false → 1 ≤ s.size ∧ ¬ s.toList = [105, 110, 100, 101, 120] ∧ ¬ s.toList = [109, 97, 116, 114, 105, 120] ∧ ¬ s.toList = [118, 101, 114, 116, 101, 120]) : laws_FnPlural.j2 k n s m b = some true := by
  obtain ⟨k, rfl⟩ : ∃ j, k = j + 1 := ⟨k - 1, by omega⟩
  rw [laws_FnPlural.j2]
  cases b with
  | true => rw [if_pos rfl]
  | false =>
    obtain ⟨h1, hi, hx, hv⟩ := hb rfl
    rw [if_neg (by simp)]
    by_cases he : m.toList = []
    · rw [if_pos he, many_ok s h1 hs.1 k (by omega), Option.bind_some]
      refine j3_ok n h0 h1' s m hs hm h1 hi hx hv k (by omega) _ ?_
      by_cases hn : n = 1
      · exact .inl hn
      · exact .inr (by unfold wordFor; rw [if_neg hn, if_pos he])
    · rw [if_neg he]
      refine j3_ok n h0 h1' s m hs hm h1 hi hx hv k (by omega) _ ?_
      by_cases hn : n = 1
      · exact .inl hn
      · exact .inr (by unfold wordFor; rw [if_neg hn, if_neg he])
theorem size_of_ne (s : ByteArray) (h : ¬ s.toList = []) : 1 ≤ s.size := by
  by_cases h0 : s.size = 0
  · exfalso
    apply h
    rw [ByteArray.toList_eq]
    have : s.data.size = 0 := h0
    simp [Array.eq_empty_of_size_eq_zero this]
  · omega
theorem j1_ok (n : Int) (h0 : -9223372036854775808 ≤ n) (h1' : n ≤ 9223372036854775807) (l1 l2 : List Int) (hl1 : ∀ x ∈ l1, 0 ≤ x ∧ x ≤ 255) (hl2 : ∀ x ∈ l2, 0 ≤ x ∧ x ≤ 255) (k : Nat) (hk : 400 ≤ k) (b : Bool) : laws_FnPlural.j1 k n l1 l2 b = some true := by
  obtain ⟨k, rfl⟩ : ∃ j, k = j + 1 := ⟨k - 1, by omega⟩
  rw [laws_FnPlural.j1]
  cases b with
  | true => rw [if_pos rfl]
  | false =>
    obtain ⟨s, es, hs, _⟩ := word_ok l1 hl1 k
    obtain ⟨m, em, hm, _⟩ := word_ok l2 hl2 k
    rw [if_neg (by simp), es, Option.bind_some, em, Option.bind_some]
    by_cases c1 : s.toList = []
    · rw [if_pos c1]; exact j2_ok n h0 h1' s m hs hm k (by omega) true (fun h => by cases h)
    · rw [if_neg c1]
      by_cases c2 : s.toList = [105, 110, 100, 101, 120]
      · rw [if_pos c2]; exact j2_ok n h0 h1' s m hs hm k (by omega) true (fun h => by cases h)
      · rw [if_neg c2]
        by_cases c3 : s.toList = [109, 97, 116, 114, 105, 120]
        · rw [if_pos c3]; exact j2_ok n h0 h1' s m hs hm k (by omega) true (fun h => by cases h)
        · rw [if_neg c3]
          refine j2_ok n h0 h1' s m hs hm k (by omega) _ (fun h => ⟨size_of_ne s c1, c2, c3, ?_⟩)
          intro h4
          rw [h4] at h
          simp at h
theorem j0_ok (n : Int) (h0 : -9223372036854775808 ≤ n) (h1' : n ≤ 9223372036854775807) (l1 l2 : List Int) (hl1 : ∀ x ∈ l1, 0 ≤ x ∧ x ≤ 255) (hl2 : ∀ x ∈ l2, 0 ≤ x ∧ x ≤ 255) (k : Nat) (hk : 500 ≤ k) (b : Bool) : laws_FnPlural.j0 k n l1 l2 b = some true := by
  obtain ⟨k, rfl⟩ : ∃ j, k = j + 1 := ⟨k - 1, by omega⟩
  rw [laws_FnPlural.j0]
  cases b with
  | true => rw [if_pos rfl]
  | false =>
    rw [if_neg (by simp)]
    split
    · exact j1_ok n h0 h1' l1 l2 hl1 hl2 k (by omega) _
    · exact j1_ok n h0 h1' l1 l2 hl1 hl2 k (by omega) _
theorem FnPlural : laws_FnPlural.Pure := by
  intro n l1 l2 hn _ _ hl1 _ _ hl2
  have hb : -9223372036854775808 ≤ n ∧ n ≤ 9223372036854775807 := bounds_i64 hn
  have u8 : ∀ x : Int, (Lit.int .u8 x).wf = true → 0 ≤ x ∧ x ≤ 255 := fun x hx => bounds_u8 hx
  refine ⟨1000, ?_⟩
  unfold laws_FnPlural.f
  split
  · exact j0_ok n hb.1 hb.2 l1 l2 (fun x h => u8 x (hl1 x h)) (fun x h => u8 x (hl2 x h)) 1000 (by omega) _
  · exact j0_ok n hb.1 hb.2 l1 l2 (fun x h => u8 x (hl1 x h)) (fun x h => u8 x (hl2 x h)) 1000 (by omega) _
#print axioms FnPlural
end Go.Proofs.Ytmdgbbiipjmenaa.Pure
