/- The law FnRel, walked: for every input it returns true (condition: strconv's table of powers of ten reads as the text lays it). -/
import Derived.Test.YtmdgbbiipjmenaaDoorRelRow
import Derived.Test.YtmdgbbiipjmenaaDoorCommaLaw
namespace Go.Proofs.YtmdgbbiipjmenaaDoor.RelLaw
open Go.RowKit Go.Lib Go.Sort Go.Proofs.YtmdgbbiipjmenaaDoor.PAll Go.Proofs.YtmdgbbiipjmenaaDoorW.PrintWords Go.Proofs.YtmdgbbiipjmenaaDoorW.PrintLast Go.Proofs.YtmdgbbiipjmenaaDoor.PlainDec Go.Proofs.YtmdgbbiipjmenaaDoor.PureDec Go.Proofs.YtmdgbbiipjmenaaDoor.PureComma Go.Proofs.YtmdgbbiipjmenaaDoor.Ord Go.Proofs.YtmdgbbiipjmenaaDoor.OrdLaw Go.Proofs.YtmdgbbiipjmenaaDoor.CommaLaw Go.Proofs.YtmdgbbiipjmenaaDoor.Rel Go.Proofs.YtmdgbbiipjmenaaDoor.RelPlain Go.Proofs.YtmdgbbiipjmenaaDoor.Long Go.Proofs.YtmdgbbiipjmenaaDoor.RelRow
set_option linter.unusedVariables false
set_option linter.unusedSimpArgs false
/-! blanks at the end -/
def trimL (l : List UInt8) : List UInt8 := (l.reverse.dropWhile (· == 32)).reverse
theorem trimL_snoc (l : List UInt8) (c : UInt8) : trimL (l ++ [c]) = if c = 32 then trimL l else l ++ [c] := by
  unfold trimL
  rw [List.reverse_append]
  show (List.dropWhile _ (c :: l.reverse)).reverse = _
  rw [List.dropWhile_cons]
  by_cases h : c = 32
  · simp [h]
  · simp [h]
theorem ext_snoc (l : List UInt8) (c : UInt8) : (⟨(l ++ [c]).toArray⟩ : ByteArray).extract 0 l.length = ⟨l.toArray⟩ := by
  rw [ByteArray.extract_mk]
  simp
theorem bt_snoc (l : List UInt8) (c : UInt8) : bt ⟨(l ++ [c]).toArray⟩ (l.length : Int) = (c.toNat : Int) := by
  rw [bt_mk _ _ (by simp)]
  simp
theorem right_ok : ∀ (m k : Nat) (l : List UInt8), l.length = m → m ≤ 100000 → m + 1 ≤ k → humanize_zzRight.f k ⟨l.toArray⟩ = some ⟨(trimL l).toArray⟩ := by
  unfold humanize_zzRight.f
  intro m
  induction m with
  | zero =>
    intro k l hl _ hk
    obtain rfl := List.eq_nil_of_length_eq_zero hl
    obtain ⟨k, rfl⟩ : ∃ q, k = q + 1 := ⟨k - 1, by omega⟩
    rw [humanize_zzRight.l0, mk_size, if_neg (by simp)]
    rfl
  | succ m ih =>
    intro k l hl hm hk
    obtain ⟨k, rfl⟩ : ∃ q, k = q + 1 := ⟨k - 1, by omega⟩
    rcases List.eq_nil_or_concat l with rfl | ⟨i, c, rfl⟩
    · simp at hl
    · rw [List.concat_eq_append] at hl ⊢
      have hi : i.length = m := by simpa using hl
      have hw : wrap64 (((i ++ [c]).length : Int) - 1) = (i.length : Int) := by
        have hz : ((i ++ [c]).length : Int) = i.length + 1 := by simp
        rw [hz, wr _ (by omega) (by omega)]
        omega
      have hz : ((i ++ [c]).length : Int) = i.length + 1 := by simp
      rw [humanize_zzRight.l0, mk_size, hw, hz, if_pos (by omega), if_pos (by omega), if_pos (by omega), bt_snoc, trimL_snoc]
      by_cases hc : c = 32
      · rw [hc, if_pos (by decide), if_pos (by omega), if_pos rfl]
        have := ext_snoc i 32
        rw [show ((i.length : Int).toNat) = i.length by omega, this]
        exact ih k i hi (by omega) (by omega)
      · have hc' : ¬ ((c.toNat : Int) = 32) := fun h => hc (UInt8.toNat_inj.mp (by simpa using Int.ofNat_inj.mp h))
        rw [if_neg hc', if_neg hc]
theorem trim_ok : ∀ (m k : Nat) (l : List UInt8), l.length = m → m ≤ 100000 → m + 1 ≤ k → laws_trimmed.f k ⟨l.toArray⟩ = some ⟨(trimL l).toArray⟩ := by
  unfold laws_trimmed.f
  intro m
  induction m with
  | zero =>
    intro k l hl _ hk
    obtain rfl := List.eq_nil_of_length_eq_zero hl
    obtain ⟨k, rfl⟩ : ∃ q, k = q + 1 := ⟨k - 1, by omega⟩
    rw [laws_trimmed.l0, if_pos (by simp)]
    rfl
  | succ m ih =>
    intro k l hl hm hk
    obtain ⟨k, rfl⟩ : ∃ q, k = q + 1 := ⟨k - 1, by omega⟩
    rcases List.eq_nil_or_concat l with rfl | ⟨i, c, rfl⟩
    · simp at hl
    · rw [List.concat_eq_append] at hl ⊢
      have hi : i.length = m := by simpa using hl
      have hw : wrap64 (((i ++ [c]).length : Int) - 1) = (i.length : Int) := by
        have hz : ((i ++ [c]).length : Int) = i.length + 1 := by simp
        rw [hz, wr _ (by omega) (by omega)]
        omega
      have hz : ((i ++ [c]).length : Int) = i.length + 1 := by simp
      rw [laws_trimmed.l0, if_neg (by simp), mk_size, hw, hz, if_pos (by omega), if_pos (by omega), bt_snoc, trimL_snoc]
      by_cases hc : c = 32
      · rw [hc, if_pos (by decide), if_pos (by omega), if_pos rfl]
        have := ext_snoc i 32
        rw [show ((i.length : Int).toNat) = i.length by omega, this]
        exact ih k i hi (by omega) (by omega)
      · have hc' : ¬ ((c.toNat : Int) = 32) := fun h => hc (UInt8.toNat_inj.mp (by simpa using Int.ofNat_inj.mp h))
        rw [if_neg hc', if_neg hc]
/-- No blank at its end. -/
def Good (lb : List UInt8) : Prop := lb.length ≤ 200 ∧ (lb = [] ∨ ∃ x c, lb = x ++ [c] ∧ c ≠ 32)
theorem ite_E {c : Prop} [Decidable c] {a b lb : List UInt8} (ha : a = [110, 111, 119] ∨ ∃ x, a = x ++ lb) (hb : b = [110, 111, 119] ∨ ∃ x, b = x ++ lb) : (if c then a else b) = [110, 111, 119] ∨ ∃ x, (if c then a else b) = x ++ lb := by
  split
  · exact ha
  · exact hb
theorem ite_len {c : Prop} [Decidable c] {a b : List UInt8} (ha : a.length ≤ 1000) (hb : b.length ≤ 1000) : (if c then a else b).length ≤ 1000 := by
  split
  · exact ha
  · exact hb
theorem many_E (a w lb : List UInt8) : ∃ x, a ++ (32 :: w ++ 32 :: lb) = x ++ lb := ⟨a ++ (32 :: w ++ [32]), by simp⟩
theorem long_ends (n : Int) (lb : List UInt8) : longL n lb = [110, 111, 119] ∨ ∃ x, longL n lb = x ++ lb := by
  unfold longL
  repeat' apply ite_E
  all_goals first | exact .inl rfl | exact .inr ⟨_, rfl⟩ | exact .inr (many_E _ _ lb)
theorem trim_long (n : Int) (lb : List UInt8) (h : Good lb) (hne : lb ≠ []) : trimL (longL n lb) = longL n lb := by
  rcases long_ends n lb with e | ⟨x, e⟩
  · rw [e]; rfl
  · rw [e]
    rcases h.2 with h | ⟨y, c, rfl, hc⟩
    · exact absurd h hne
    · rw [← List.append_assoc, trimL_snoc, if_neg hc]
theorem long_len (n : Int) (h0 : 0 ≤ n) (h1 : n ≤ 9223372036854775807) (lb : List UInt8) (h : lb.length ≤ 200) : (longL n lb).length ≤ 1000 := by
  have key : ∀ b : Int, 0 < b → (itoa (n.tdiv b)).length ≤ 21 := fun b hb => itoa_len _ (by have := Int.tdiv_nonneg h0 (show 0 ≤ b by omega); omega) (by
    rw [Int.tdiv_eq_ediv_of_nonneg h0]
    have := Int.ediv_le_self b h0
    omega)
  have k1 := key 1000000000 (by omega)
  have k2 := key 60000000000 (by omega)
  have k3 := key 3600000000000 (by omega)
  have k4 := key 86400000000000 (by omega)
  have k5 := key 604800000000000 (by omega)
  have k6 := key 2592000000000000 (by omega)
  have k7 := key 31104000000000000 (by omega)
  unfold longL
  repeat' apply ite_len
  all_goals simp only [List.length_append, List.length_cons, List.length_nil]
  all_goals omega
/-! the walks -/
theorem text_l1g (xs ys : List ByteArray) (l : List UInt8) (hl : l.length ≤ 200) (m j : Int) : ∀ (d k : Nat) (i : Int), 0 ≤ i → (l.length : Int) - i = d →
    impl_isText.l1 (k + d + 1) false xs ⟨l.toArray⟩ i ys m j = impl_isText.l0 k false xs ys m (wrap64 (j + 1)) := by
  intro d
  induction d with
  | zero =>
    intro k i h0 hd
    rw [impl_isText.l1, mk_size, if_neg (by omega), if_neg (by omega)]
  | succ d ih =>
    intro k i h0 hd
    rw [impl_isText.l1, mk_size, if_pos (by omega), if_neg (by simp), wr (i + 1) (by omega) (by omega)]
    exact ih k (i + 1) (by omega) (by omega)
theorem text2_ok (a b : List UInt8) (ha : a.length ≤ 200) (hb : b.length ≤ 200) : impl_isText.f (a.length + b.length + 5) false [⟨a.toArray⟩, ⟨b.toArray⟩] = some true := by
  unfold impl_isText.f
  show impl_isText.l0 (a.length + b.length + 4 + 1) false [⟨a.toArray⟩, ⟨b.toArray⟩] [⟨a.toArray⟩, ⟨b.toArray⟩] 2 0 = some true
  rw [impl_isText.l0, if_pos (by omega), if_pos (by omega), if_pos (by simp)]
  have e : a.length + b.length + 4 = (b.length + 3) + a.length + 1 := by omega
  rw [e]
  show impl_isText.l1 _ false _ ⟨a.toArray⟩ 0 _ 2 0 = _
  rw [text_l1g _ _ a ha 2 0 a.length (b.length + 3) 0 (by omega) (by omega)]
  rw [wr (0 + 1) (by omega) (by omega)]
  show impl_isText.l0 (b.length + 2 + 1) false _ _ 2 (0 + 1) = _
  rw [impl_isText.l0, if_pos (by omega), if_pos (by omega), if_pos (by simp)]
  have e : b.length + 2 = 1 + b.length + 1 := by omega
  rw [e]
  show impl_isText.l1 _ false _ ⟨b.toArray⟩ 0 _ 2 (0 + 1) = _
  rw [text_l1g _ _ b hb 2 (0 + 1) b.length 1 0 (by omega) (by omega), wr (0 + 1 + 1) (by omega) (by omega)]
  rfl
theorem two_text (w : World) (s t : ByteArray) : Kd.C Kd.string (w.alloc (.cells #[.string s, .string t] 9)) (some ⟨w.heap.size, 0, none⟩) [s, t].length [s, t] := by
  refine ⟨rfl, by simp, fun _ => ⟨_, rfl, fun j p hj => ?_⟩⟩
  match j, hj with
  | 0, hj =>
    obtain rfl : s = p := by simpa using hj
    refine ⟨[.string s], rfl, rfl, fun i u hi => ?_⟩
    match i, hi with
    | 0, hi =>
      obtain rfl : Value.string s = u := by simpa using hi
      show (w.alloc _).cell? ⟨w.heap.size, 0, none⟩ = _
      rw [World.cell?_alloc_new]
      rfl
  | 1, hj =>
    obtain rfl : t = p := by simpa using hj
    refine ⟨[.string t], rfl, rfl, fun i u hi => ?_⟩
    match i, hi with
    | 0, hi =>
      obtain rfl : Value.string t = u := by simpa using hi
      show (w.alloc _).cell? ⟨w.heap.size, 1, none⟩ = _
      rw [World.cell?_alloc_new]
      rfl
def out (n : Int) (a b : List UInt8) : ByteArray := ⟨(trimL (longL (if 0 > n then -n else n) (if 0 > n then b else a))).toArray⟩
set_option maxHeartbeats 1000000 in
theorem relTime_any (n : Int) (h0 : -9223372036854775808 < n) (h1 : n ≤ 9223372036854775807) (a b : List UInt8) (ga : Good a) (gb : Good b) (w : World) (htab : Tab w) :
    Calls Tryd.prog 22 #[.int .i64 0, .int .i64 n, .string ⟨a.toArray⟩, .string ⟨b.toArray⟩] w fun e w' => e = .returned (.string (out n a b)) ∧ Below w.heap.size w w' := by
  have HT := Aside0.mk htab
  have key : ∀ (A : Option Addr) (c : Nat) (w : World), Kd.C k47 w A mags.length mags → Tab w → Calls Tryd.prog 21 #[.int .i64 0, .int .i64 n, .string ⟨a.toArray⟩, .string ⟨b.toArray⟩, .slice A mags.length c] w fun e w' => e = .returned (.string (out n a b)) ∧ Below w.heap.size w w' := by
    intro A c w hC hT
    unfold out
    generalize hdf : (if 0 > n then -n else n) = df
    have hd0 : 0 ≤ df ∧ df ≤ 9223372036854775807 := by rw [← hdf]; split <;> omega
    generalize hlb : (if 0 > n then b else a) = lb
    have glb : Good lb := by rw [← hlb]; split <;> assumption
    obtain ⟨r, q, dv, l, k1, k2, k3, k4, k5, k6, k7, k8, k9, k10⟩ := row_of df hd0.1 hd0.2 lb
    have hlen := long_len df hd0.1 hd0.2 lb glb.1
    refine custom_any n h0 h1 ⟨a.toArray⟩ ⟨b.toArray⟩ A c mags w hC hT 2000 r q df dv lb l (longL df lb) _ ?_ hdf.symm ?_ (by decide) k2 k3 k4 k5 k6 k7 k8 k9 (by omega) ⟨?_, ?_⟩
    · rw [← hlb]; split <;> rfl
    · exact k1
    · intro _; exact right_ok _ 2000 _ rfl (by omega) (by omega)
    · intro hne; rw [trim_long df lb glb hne]
  clear h0 h1 ga gb htab
  have HK := Aside0.mk key
  clear key
  generalize (⟨a.toArray⟩ : ByteArray) = sa at *
  generalize (⟨b.toArray⟩ : ByteArray) = sb at *
  generalize out n a b = R at *
  go_enter Tryd.func22, Tryd.ntmps22
  go_wp2_with (first | (go_at_call 34; refine (humanize_defaultMagnitudes.calls mags _ mags_f).mono ?_; rintro e w1 ⟨v0, rfl, hR, hb⟩; obtain ⟨A, c, rfl, hc, hC⟩ := Kd.R_reads hR) | (go_at_call 21; refine (HK.out A c _ hC (below_tab hb HT.out)).mono ?_; rintro e w2 ⟨rfl, hb2⟩))
  go_ret
  exact ⟨rfl, hb.trans (hb2.mono hb.size)⟩
set_option maxHeartbeats 1000000 in
theorem implRel_any (n : Int) (h0 : -9223372036854775808 < n) (h1 : n ≤ 9223372036854775807) (a b : List UInt8) (ga : Good a) (gb : Good b) (w : World) (htab : Tab w) :
    Calls Tryd.prog 11 #[.int .i64 n, .string ⟨a.toArray⟩, .string ⟨b.toArray⟩] w fun e w' => e = .returned (.string (out n a b)) ∧ Below w.heap.size w w' := by
  have HT := Aside0.mk htab
  have HX := Aside0.mk (text2_ok a b ga.1 gb.1)
  have HK := Aside0.mk (fun w ht => relTime_any n h0 h1 a b ga gb w ht)
  have hm : (n == -9223372036854775808) = false := beq_eq_false_iff_ne.mpr (by omega)
  clear h0 h1 ga gb htab
  generalize (⟨a.toArray⟩ : ByteArray) = sa at *
  generalize (⟨b.toArray⟩ : ByteArray) = sb at *
  generalize out n a b = R at *
  go_enter Tryd.func11, Tryd.ntmps11
  go_wp2_with (first | (go_at_call 19; refine (impl_isText.calls _ false _ 2 [sa, sb] true _ (two_text w sa sb) (by simp) HX.out).mono ?_; rintro e w1 ⟨rfl, ⟨nd, rfl⟩⟩) | (go_at_call 22; refine (HK.out _ ?ht).mono ?_; (case ht => exact below_tab (below_drewN (Below.alloc (Below.refl w.heap.size w) (Nat.le_refl _) _) nd) HT.out); rintro e w2 ⟨rfl, hb⟩))
  go_ret
  have H : Below w.heap.size w ((w.alloc (.cells #[.string sa, .string sb] 9)).drewN nd) := below_drewN (Below.alloc (Below.refl w.heap.size w) (Nat.le_refl _) _) nd
  exact ⟨rfl, H.trans (hb.mono H.size)⟩
def lab (k : Int) : List UInt8 := if k = 0 then [97, 103, 111] else if k = 1 then [102, 114, 111, 109, 32, 110, 111, 119] else []
theorem lab_0 : (⟨(lab 0).toArray⟩ : ByteArray) = ⟨#[97, 103, 111]⟩ := rfl
theorem lab_1 : (⟨(lab 1).toArray⟩ : ByteArray) = ⟨#[102, 114, 111, 109, 32, 110, 111, 119]⟩ := rfl
theorem lab_2 : (⟨(lab 2).toArray⟩ : ByteArray) = ⟨#[]⟩ := rfl
theorem lab_good (k : Int) : Good (lab k) := by
  unfold lab
  split
  · exact ⟨by decide, .inr ⟨[97, 103], 111, rfl, by decide⟩⟩
  · split
    · exact ⟨by decide, .inr ⟨[102, 114, 111, 109, 32, 110, 111], 119, rfl, by decide⟩⟩
    · exact ⟨by decide, .inl rfl⟩
set_option maxHeartbeats 20000000 in
theorem law_any (n a b : Int) (h0 : -9223372036854775808 ≤ n) (h1 : n ≤ 9223372036854775807) (ha : 0 ≤ a ∧ a ≤ 255) (hb : 0 ≤ b ∧ b ≤ 255) (w : World) (htab : Tab w) :
    Calls Tryd.prog 5 #[.int .i64 n, .int .u8 a, .int .u8 b] w fun e w' => e = .returned (.bool true) ∧ Below w.heap.size w w' := by
  by_cases hm : n = -9223372036854775808
  · subst hm
    clear h0 h1
    go_enter Tryd.func5, Tryd.ntmps5
    go_wp2
    go_ret
    exact ⟨rfl, Below.refl _ _⟩
  · have hmb : (n == -9223372036854775808) = false := beq_eq_false_iff_ne.mpr hm
    have HT := Aside0.mk htab
    have hs : 0 ≤ (if 0 > n then -n else n) ∧ (if 0 > n then -n else n) ≤ 9223372036854775807 := by split <;> omega
    have HR := Aside0.mk (fun x y w ht => implRel_any n (by omega) h1 (lab x) (lab y) (lab_good x) (lab_good y) w ht)
    have HL := Aside0.mk (fun x w => long_any (if 0 > n then -n else n) hs.1 hs.2 (lab x) (by have := (lab_good x).1; omega) w)
    have HM := Aside0.mk (fun x => trim_ok _ 2000 (longL (if 0 > n then -n else n) (lab x)) rfl (by have := long_len _ hs.1 hs.2 (lab x) (lab_good x).1; omega) (by have := long_len _ hs.1 hs.2 (lab x) (lab_good x).1; omega))
    have ta : Int.tmod a 3 = 0 ∨ Int.tmod a 3 = 1 ∨ Int.tmod a 3 = 2 := by
      rw [Int.tmod_eq_emod_of_nonneg ha.1]; omega
    have tb : Int.tmod b 3 = 0 ∨ Int.tmod b 3 = 1 ∨ Int.tmod b 3 = 2 := by
      rw [Int.tmod_eq_emod_of_nonneg hb.1]; omega
    clear ha hb htab hs
    by_cases hn : 0 > n
    ·
      simp only [if_pos hn] at HR HL HM
      unfold out at HR
      simp only [if_pos hn] at HR
      have hnb : decide (n < 0) = true := decide_eq_true hn
      have hw : wrap64 (-n) = -n := wr _ (by omega) (by omega)
      rcases ta with ta | ta | ta
      all_goals rcases tb with tb | tb | tb
      · have R1 := Aside0.mk (fun w ht => HR.out 0 0 w ht)
        have R2 := Aside0.mk (fun w => HL.out 0 w)
        have R3 := Aside0.mk (HM.out 0)
        clear HR HL HM
        simp only [lab_0, lab_1, lab_2] at R1 R2
        generalize (⟨(trimL (longL (-n) (lab 0))).toArray⟩ : ByteArray) = S at *
        generalize (⟨(longL (-n) (lab 0)).toArray⟩ : ByteArray) = LG at *
        go_enter Tryd.func5, Tryd.ntmps5
        go_wp2
        go_quiet (fail)
        go_wp2_with (first | (go_at_call 11; refine (R1.out _ ?ht).mono ?_; (case ht => exact below_tab (below_drewN (Below.alloc (Below.refl w.heap.size w) (Nat.le_refl _) _) _) HT.out); rintro e w1 ⟨rfl, hb1⟩) | (go_at_call 13; refine (R2.out _).mono ?_; rintro e w2 ⟨rfl, hb2⟩) | (go_at_call 12; refine (laws_trimmed.calls 2000 LG S _ R3.out).mono ?_; rintro e w3 ⟨rfl, ⟨nd, rfl⟩⟩))
        go_ret
        exact ⟨rfl, (below_drewN (Below.alloc (Below.refl w.heap.size w) (Nat.le_refl _) _) _).trans ((hb1.trans ((below_drewN hb2 nd).mono hb1.size)).mono (by simp))⟩
      · have R1 := Aside0.mk (fun w ht => HR.out 0 1 w ht)
        have R2 := Aside0.mk (fun w => HL.out 1 w)
        have R3 := Aside0.mk (HM.out 1)
        clear HR HL HM
        simp only [lab_0, lab_1, lab_2] at R1 R2
        generalize (⟨(trimL (longL (-n) (lab 1))).toArray⟩ : ByteArray) = S at *
        generalize (⟨(longL (-n) (lab 1)).toArray⟩ : ByteArray) = LG at *
        go_enter Tryd.func5, Tryd.ntmps5
        go_wp2
        go_quiet (fail)
        go_wp2_with (first | (go_at_call 11; refine (R1.out _ ?ht).mono ?_; (case ht => exact below_tab (below_drewN (Below.alloc (Below.refl w.heap.size w) (Nat.le_refl _) _) _) HT.out); rintro e w1 ⟨rfl, hb1⟩) | (go_at_call 13; refine (R2.out _).mono ?_; rintro e w2 ⟨rfl, hb2⟩) | (go_at_call 12; refine (laws_trimmed.calls 2000 LG S _ R3.out).mono ?_; rintro e w3 ⟨rfl, ⟨nd, rfl⟩⟩))
        go_ret
        exact ⟨rfl, (below_drewN (Below.alloc (Below.refl w.heap.size w) (Nat.le_refl _) _) _).trans ((hb1.trans ((below_drewN hb2 nd).mono hb1.size)).mono (by simp))⟩
      · have R1 := Aside0.mk (fun w ht => HR.out 0 2 w ht)
        have R2 := Aside0.mk (fun w => HL.out 2 w)
        have R3 := Aside0.mk (HM.out 2)
        clear HR HL HM
        simp only [lab_0, lab_1, lab_2] at R1 R2
        generalize (⟨(trimL (longL (-n) (lab 2))).toArray⟩ : ByteArray) = S at *
        generalize (⟨(longL (-n) (lab 2)).toArray⟩ : ByteArray) = LG at *
        go_enter Tryd.func5, Tryd.ntmps5
        go_wp2
        go_quiet (fail)
        go_wp2_with (first | (go_at_call 11; refine (R1.out _ ?ht).mono ?_; (case ht => exact below_tab (below_drewN (Below.alloc (Below.refl w.heap.size w) (Nat.le_refl _) _) _) HT.out); rintro e w1 ⟨rfl, hb1⟩) | (go_at_call 13; refine (R2.out _).mono ?_; rintro e w2 ⟨rfl, hb2⟩) | (go_at_call 12; refine (laws_trimmed.calls 2000 LG S _ R3.out).mono ?_; rintro e w3 ⟨rfl, ⟨nd, rfl⟩⟩))
        go_ret
        exact ⟨rfl, (below_drewN (Below.alloc (Below.refl w.heap.size w) (Nat.le_refl _) _) _).trans ((hb1.trans ((below_drewN hb2 nd).mono hb1.size)).mono (by simp))⟩
      · have R1 := Aside0.mk (fun w ht => HR.out 1 0 w ht)
        have R2 := Aside0.mk (fun w => HL.out 0 w)
        have R3 := Aside0.mk (HM.out 0)
        clear HR HL HM
        simp only [lab_0, lab_1, lab_2] at R1 R2
        generalize (⟨(trimL (longL (-n) (lab 0))).toArray⟩ : ByteArray) = S at *
        generalize (⟨(longL (-n) (lab 0)).toArray⟩ : ByteArray) = LG at *
        go_enter Tryd.func5, Tryd.ntmps5
        go_wp2
        go_quiet (fail)
        go_wp2_with (first | (go_at_call 11; refine (R1.out _ ?ht).mono ?_; (case ht => exact below_tab (below_drewN (Below.alloc (Below.refl w.heap.size w) (Nat.le_refl _) _) _) HT.out); rintro e w1 ⟨rfl, hb1⟩) | (go_at_call 13; refine (R2.out _).mono ?_; rintro e w2 ⟨rfl, hb2⟩) | (go_at_call 12; refine (laws_trimmed.calls 2000 LG S _ R3.out).mono ?_; rintro e w3 ⟨rfl, ⟨nd, rfl⟩⟩))
        go_ret
        exact ⟨rfl, (below_drewN (Below.alloc (Below.refl w.heap.size w) (Nat.le_refl _) _) _).trans ((hb1.trans ((below_drewN hb2 nd).mono hb1.size)).mono (by simp))⟩
      · have R1 := Aside0.mk (fun w ht => HR.out 1 1 w ht)
        have R2 := Aside0.mk (fun w => HL.out 1 w)
        have R3 := Aside0.mk (HM.out 1)
        clear HR HL HM
        simp only [lab_0, lab_1, lab_2] at R1 R2
        generalize (⟨(trimL (longL (-n) (lab 1))).toArray⟩ : ByteArray) = S at *
        generalize (⟨(longL (-n) (lab 1)).toArray⟩ : ByteArray) = LG at *
        go_enter Tryd.func5, Tryd.ntmps5
        go_wp2
        go_quiet (fail)
        go_wp2_with (first | (go_at_call 11; refine (R1.out _ ?ht).mono ?_; (case ht => exact below_tab (below_drewN (Below.alloc (Below.refl w.heap.size w) (Nat.le_refl _) _) _) HT.out); rintro e w1 ⟨rfl, hb1⟩) | (go_at_call 13; refine (R2.out _).mono ?_; rintro e w2 ⟨rfl, hb2⟩) | (go_at_call 12; refine (laws_trimmed.calls 2000 LG S _ R3.out).mono ?_; rintro e w3 ⟨rfl, ⟨nd, rfl⟩⟩))
        go_ret
        exact ⟨rfl, (below_drewN (Below.alloc (Below.refl w.heap.size w) (Nat.le_refl _) _) _).trans ((hb1.trans ((below_drewN hb2 nd).mono hb1.size)).mono (by simp))⟩
      · have R1 := Aside0.mk (fun w ht => HR.out 1 2 w ht)
        have R2 := Aside0.mk (fun w => HL.out 2 w)
        have R3 := Aside0.mk (HM.out 2)
        clear HR HL HM
        simp only [lab_0, lab_1, lab_2] at R1 R2
        generalize (⟨(trimL (longL (-n) (lab 2))).toArray⟩ : ByteArray) = S at *
        generalize (⟨(longL (-n) (lab 2)).toArray⟩ : ByteArray) = LG at *
        go_enter Tryd.func5, Tryd.ntmps5
        go_wp2
        go_quiet (fail)
        go_wp2_with (first | (go_at_call 11; refine (R1.out _ ?ht).mono ?_; (case ht => exact below_tab (below_drewN (Below.alloc (Below.refl w.heap.size w) (Nat.le_refl _) _) _) HT.out); rintro e w1 ⟨rfl, hb1⟩) | (go_at_call 13; refine (R2.out _).mono ?_; rintro e w2 ⟨rfl, hb2⟩) | (go_at_call 12; refine (laws_trimmed.calls 2000 LG S _ R3.out).mono ?_; rintro e w3 ⟨rfl, ⟨nd, rfl⟩⟩))
        go_ret
        exact ⟨rfl, (below_drewN (Below.alloc (Below.refl w.heap.size w) (Nat.le_refl _) _) _).trans ((hb1.trans ((below_drewN hb2 nd).mono hb1.size)).mono (by simp))⟩
      · have R1 := Aside0.mk (fun w ht => HR.out 2 0 w ht)
        have R2 := Aside0.mk (fun w => HL.out 0 w)
        have R3 := Aside0.mk (HM.out 0)
        clear HR HL HM
        simp only [lab_0, lab_1, lab_2] at R1 R2
        generalize (⟨(trimL (longL (-n) (lab 0))).toArray⟩ : ByteArray) = S at *
        generalize (⟨(longL (-n) (lab 0)).toArray⟩ : ByteArray) = LG at *
        go_enter Tryd.func5, Tryd.ntmps5
        go_wp2
        go_quiet (fail)
        go_wp2_with (first | (go_at_call 11; refine (R1.out _ ?ht).mono ?_; (case ht => exact below_tab (below_drewN (Below.alloc (Below.refl w.heap.size w) (Nat.le_refl _) _) _) HT.out); rintro e w1 ⟨rfl, hb1⟩) | (go_at_call 13; refine (R2.out _).mono ?_; rintro e w2 ⟨rfl, hb2⟩) | (go_at_call 12; refine (laws_trimmed.calls 2000 LG S _ R3.out).mono ?_; rintro e w3 ⟨rfl, ⟨nd, rfl⟩⟩))
        go_ret
        exact ⟨rfl, (below_drewN (Below.alloc (Below.refl w.heap.size w) (Nat.le_refl _) _) _).trans ((hb1.trans ((below_drewN hb2 nd).mono hb1.size)).mono (by simp))⟩
      · have R1 := Aside0.mk (fun w ht => HR.out 2 1 w ht)
        have R2 := Aside0.mk (fun w => HL.out 1 w)
        have R3 := Aside0.mk (HM.out 1)
        clear HR HL HM
        simp only [lab_0, lab_1, lab_2] at R1 R2
        generalize (⟨(trimL (longL (-n) (lab 1))).toArray⟩ : ByteArray) = S at *
        generalize (⟨(longL (-n) (lab 1)).toArray⟩ : ByteArray) = LG at *
        go_enter Tryd.func5, Tryd.ntmps5
        go_wp2
        go_quiet (fail)
        go_wp2_with (first | (go_at_call 11; refine (R1.out _ ?ht).mono ?_; (case ht => exact below_tab (below_drewN (Below.alloc (Below.refl w.heap.size w) (Nat.le_refl _) _) _) HT.out); rintro e w1 ⟨rfl, hb1⟩) | (go_at_call 13; refine (R2.out _).mono ?_; rintro e w2 ⟨rfl, hb2⟩) | (go_at_call 12; refine (laws_trimmed.calls 2000 LG S _ R3.out).mono ?_; rintro e w3 ⟨rfl, ⟨nd, rfl⟩⟩))
        go_ret
        exact ⟨rfl, (below_drewN (Below.alloc (Below.refl w.heap.size w) (Nat.le_refl _) _) _).trans ((hb1.trans ((below_drewN hb2 nd).mono hb1.size)).mono (by simp))⟩
      · have R1 := Aside0.mk (fun w ht => HR.out 2 2 w ht)
        have R2 := Aside0.mk (fun w => HL.out 2 w)
        have R3 := Aside0.mk (HM.out 2)
        clear HR HL HM
        simp only [lab_0, lab_1, lab_2] at R1 R2
        generalize (⟨(trimL (longL (-n) (lab 2))).toArray⟩ : ByteArray) = S at *
        generalize (⟨(longL (-n) (lab 2)).toArray⟩ : ByteArray) = LG at *
        go_enter Tryd.func5, Tryd.ntmps5
        go_wp2
        go_quiet (fail)
        go_wp2_with (first | (go_at_call 11; refine (R1.out _ ?ht).mono ?_; (case ht => exact below_tab (below_drewN (Below.alloc (Below.refl w.heap.size w) (Nat.le_refl _) _) _) HT.out); rintro e w1 ⟨rfl, hb1⟩) | (go_at_call 13; refine (R2.out _).mono ?_; rintro e w2 ⟨rfl, hb2⟩) | (go_at_call 12; refine (laws_trimmed.calls 2000 LG S _ R3.out).mono ?_; rintro e w3 ⟨rfl, ⟨nd, rfl⟩⟩))
        go_ret
        exact ⟨rfl, (below_drewN (Below.alloc (Below.refl w.heap.size w) (Nat.le_refl _) _) _).trans ((hb1.trans ((below_drewN hb2 nd).mono hb1.size)).mono (by simp))⟩
    ·
      simp only [if_neg hn] at HR HL HM
      unfold out at HR
      simp only [if_neg hn] at HR
      have hnb : decide (n < 0) = false := decide_eq_false (by omega)
      have hw : wrap64 (-n) = -n := wr _ (by omega) (by omega)
      rcases ta with ta | ta | ta
      all_goals rcases tb with tb | tb | tb
      · have R1 := Aside0.mk (fun w ht => HR.out 0 0 w ht)
        have R2 := Aside0.mk (fun w => HL.out 0 w)
        have R3 := Aside0.mk (HM.out 0)
        clear HR HL HM
        simp only [lab_0, lab_1, lab_2] at R1 R2
        generalize (⟨(trimL (longL n (lab 0))).toArray⟩ : ByteArray) = S at *
        generalize (⟨(longL n (lab 0)).toArray⟩ : ByteArray) = LG at *
        go_enter Tryd.func5, Tryd.ntmps5
        go_wp2
        go_quiet (fail)
        go_wp2_with (first | (go_at_call 11; refine (R1.out _ ?ht).mono ?_; (case ht => exact below_tab (below_drewN (Below.alloc (Below.refl w.heap.size w) (Nat.le_refl _) _) _) HT.out); rintro e w1 ⟨rfl, hb1⟩) | (go_at_call 13; refine (R2.out _).mono ?_; rintro e w2 ⟨rfl, hb2⟩) | (go_at_call 12; refine (laws_trimmed.calls 2000 LG S _ R3.out).mono ?_; rintro e w3 ⟨rfl, ⟨nd, rfl⟩⟩))
        go_ret
        exact ⟨rfl, (below_drewN (Below.alloc (Below.refl w.heap.size w) (Nat.le_refl _) _) _).trans ((hb1.trans ((below_drewN hb2 nd).mono hb1.size)).mono (by simp))⟩
      · have R1 := Aside0.mk (fun w ht => HR.out 0 1 w ht)
        have R2 := Aside0.mk (fun w => HL.out 0 w)
        have R3 := Aside0.mk (HM.out 0)
        clear HR HL HM
        simp only [lab_0, lab_1, lab_2] at R1 R2
        generalize (⟨(trimL (longL n (lab 0))).toArray⟩ : ByteArray) = S at *
        generalize (⟨(longL n (lab 0)).toArray⟩ : ByteArray) = LG at *
        go_enter Tryd.func5, Tryd.ntmps5
        go_wp2
        go_quiet (fail)
        go_wp2_with (first | (go_at_call 11; refine (R1.out _ ?ht).mono ?_; (case ht => exact below_tab (below_drewN (Below.alloc (Below.refl w.heap.size w) (Nat.le_refl _) _) _) HT.out); rintro e w1 ⟨rfl, hb1⟩) | (go_at_call 13; refine (R2.out _).mono ?_; rintro e w2 ⟨rfl, hb2⟩) | (go_at_call 12; refine (laws_trimmed.calls 2000 LG S _ R3.out).mono ?_; rintro e w3 ⟨rfl, ⟨nd, rfl⟩⟩))
        go_ret
        exact ⟨rfl, (below_drewN (Below.alloc (Below.refl w.heap.size w) (Nat.le_refl _) _) _).trans ((hb1.trans ((below_drewN hb2 nd).mono hb1.size)).mono (by simp))⟩
      · have R1 := Aside0.mk (fun w ht => HR.out 0 2 w ht)
        have R2 := Aside0.mk (fun w => HL.out 0 w)
        have R3 := Aside0.mk (HM.out 0)
        clear HR HL HM
        simp only [lab_0, lab_1, lab_2] at R1 R2
        generalize (⟨(trimL (longL n (lab 0))).toArray⟩ : ByteArray) = S at *
        generalize (⟨(longL n (lab 0)).toArray⟩ : ByteArray) = LG at *
        go_enter Tryd.func5, Tryd.ntmps5
        go_wp2
        go_quiet (fail)
        go_wp2_with (first | (go_at_call 11; refine (R1.out _ ?ht).mono ?_; (case ht => exact below_tab (below_drewN (Below.alloc (Below.refl w.heap.size w) (Nat.le_refl _) _) _) HT.out); rintro e w1 ⟨rfl, hb1⟩) | (go_at_call 13; refine (R2.out _).mono ?_; rintro e w2 ⟨rfl, hb2⟩) | (go_at_call 12; refine (laws_trimmed.calls 2000 LG S _ R3.out).mono ?_; rintro e w3 ⟨rfl, ⟨nd, rfl⟩⟩))
        go_ret
        exact ⟨rfl, (below_drewN (Below.alloc (Below.refl w.heap.size w) (Nat.le_refl _) _) _).trans ((hb1.trans ((below_drewN hb2 nd).mono hb1.size)).mono (by simp))⟩
      · have R1 := Aside0.mk (fun w ht => HR.out 1 0 w ht)
        have R2 := Aside0.mk (fun w => HL.out 1 w)
        have R3 := Aside0.mk (HM.out 1)
        clear HR HL HM
        simp only [lab_0, lab_1, lab_2] at R1 R2
        generalize (⟨(trimL (longL n (lab 1))).toArray⟩ : ByteArray) = S at *
        generalize (⟨(longL n (lab 1)).toArray⟩ : ByteArray) = LG at *
        go_enter Tryd.func5, Tryd.ntmps5
        go_wp2
        go_quiet (fail)
        go_wp2_with (first | (go_at_call 11; refine (R1.out _ ?ht).mono ?_; (case ht => exact below_tab (below_drewN (Below.alloc (Below.refl w.heap.size w) (Nat.le_refl _) _) _) HT.out); rintro e w1 ⟨rfl, hb1⟩) | (go_at_call 13; refine (R2.out _).mono ?_; rintro e w2 ⟨rfl, hb2⟩) | (go_at_call 12; refine (laws_trimmed.calls 2000 LG S _ R3.out).mono ?_; rintro e w3 ⟨rfl, ⟨nd, rfl⟩⟩))
        go_ret
        exact ⟨rfl, (below_drewN (Below.alloc (Below.refl w.heap.size w) (Nat.le_refl _) _) _).trans ((hb1.trans ((below_drewN hb2 nd).mono hb1.size)).mono (by simp))⟩
      · have R1 := Aside0.mk (fun w ht => HR.out 1 1 w ht)
        have R2 := Aside0.mk (fun w => HL.out 1 w)
        have R3 := Aside0.mk (HM.out 1)
        clear HR HL HM
        simp only [lab_0, lab_1, lab_2] at R1 R2
        generalize (⟨(trimL (longL n (lab 1))).toArray⟩ : ByteArray) = S at *
        generalize (⟨(longL n (lab 1)).toArray⟩ : ByteArray) = LG at *
        go_enter Tryd.func5, Tryd.ntmps5
        go_wp2
        go_quiet (fail)
        go_wp2_with (first | (go_at_call 11; refine (R1.out _ ?ht).mono ?_; (case ht => exact below_tab (below_drewN (Below.alloc (Below.refl w.heap.size w) (Nat.le_refl _) _) _) HT.out); rintro e w1 ⟨rfl, hb1⟩) | (go_at_call 13; refine (R2.out _).mono ?_; rintro e w2 ⟨rfl, hb2⟩) | (go_at_call 12; refine (laws_trimmed.calls 2000 LG S _ R3.out).mono ?_; rintro e w3 ⟨rfl, ⟨nd, rfl⟩⟩))
        go_ret
        exact ⟨rfl, (below_drewN (Below.alloc (Below.refl w.heap.size w) (Nat.le_refl _) _) _).trans ((hb1.trans ((below_drewN hb2 nd).mono hb1.size)).mono (by simp))⟩
      · have R1 := Aside0.mk (fun w ht => HR.out 1 2 w ht)
        have R2 := Aside0.mk (fun w => HL.out 1 w)
        have R3 := Aside0.mk (HM.out 1)
        clear HR HL HM
        simp only [lab_0, lab_1, lab_2] at R1 R2
        generalize (⟨(trimL (longL n (lab 1))).toArray⟩ : ByteArray) = S at *
        generalize (⟨(longL n (lab 1)).toArray⟩ : ByteArray) = LG at *
        go_enter Tryd.func5, Tryd.ntmps5
        go_wp2
        go_quiet (fail)
        go_wp2_with (first | (go_at_call 11; refine (R1.out _ ?ht).mono ?_; (case ht => exact below_tab (below_drewN (Below.alloc (Below.refl w.heap.size w) (Nat.le_refl _) _) _) HT.out); rintro e w1 ⟨rfl, hb1⟩) | (go_at_call 13; refine (R2.out _).mono ?_; rintro e w2 ⟨rfl, hb2⟩) | (go_at_call 12; refine (laws_trimmed.calls 2000 LG S _ R3.out).mono ?_; rintro e w3 ⟨rfl, ⟨nd, rfl⟩⟩))
        go_ret
        exact ⟨rfl, (below_drewN (Below.alloc (Below.refl w.heap.size w) (Nat.le_refl _) _) _).trans ((hb1.trans ((below_drewN hb2 nd).mono hb1.size)).mono (by simp))⟩
      · have R1 := Aside0.mk (fun w ht => HR.out 2 0 w ht)
        have R2 := Aside0.mk (fun w => HL.out 2 w)
        have R3 := Aside0.mk (HM.out 2)
        clear HR HL HM
        simp only [lab_0, lab_1, lab_2] at R1 R2
        generalize (⟨(trimL (longL n (lab 2))).toArray⟩ : ByteArray) = S at *
        generalize (⟨(longL n (lab 2)).toArray⟩ : ByteArray) = LG at *
        go_enter Tryd.func5, Tryd.ntmps5
        go_wp2
        go_quiet (fail)
        go_wp2_with (first | (go_at_call 11; refine (R1.out _ ?ht).mono ?_; (case ht => exact below_tab (below_drewN (Below.alloc (Below.refl w.heap.size w) (Nat.le_refl _) _) _) HT.out); rintro e w1 ⟨rfl, hb1⟩) | (go_at_call 13; refine (R2.out _).mono ?_; rintro e w2 ⟨rfl, hb2⟩) | (go_at_call 12; refine (laws_trimmed.calls 2000 LG S _ R3.out).mono ?_; rintro e w3 ⟨rfl, ⟨nd, rfl⟩⟩))
        go_ret
        exact ⟨rfl, (below_drewN (Below.alloc (Below.refl w.heap.size w) (Nat.le_refl _) _) _).trans ((hb1.trans ((below_drewN hb2 nd).mono hb1.size)).mono (by simp))⟩
      · have R1 := Aside0.mk (fun w ht => HR.out 2 1 w ht)
        have R2 := Aside0.mk (fun w => HL.out 2 w)
        have R3 := Aside0.mk (HM.out 2)
        clear HR HL HM
        simp only [lab_0, lab_1, lab_2] at R1 R2
        generalize (⟨(trimL (longL n (lab 2))).toArray⟩ : ByteArray) = S at *
        generalize (⟨(longL n (lab 2)).toArray⟩ : ByteArray) = LG at *
        go_enter Tryd.func5, Tryd.ntmps5
        go_wp2
        go_quiet (fail)
        go_wp2_with (first | (go_at_call 11; refine (R1.out _ ?ht).mono ?_; (case ht => exact below_tab (below_drewN (Below.alloc (Below.refl w.heap.size w) (Nat.le_refl _) _) _) HT.out); rintro e w1 ⟨rfl, hb1⟩) | (go_at_call 13; refine (R2.out _).mono ?_; rintro e w2 ⟨rfl, hb2⟩) | (go_at_call 12; refine (laws_trimmed.calls 2000 LG S _ R3.out).mono ?_; rintro e w3 ⟨rfl, ⟨nd, rfl⟩⟩))
        go_ret
        exact ⟨rfl, (below_drewN (Below.alloc (Below.refl w.heap.size w) (Nat.le_refl _) _) _).trans ((hb1.trans ((below_drewN hb2 nd).mono hb1.size)).mono (by simp))⟩
      · have R1 := Aside0.mk (fun w ht => HR.out 2 2 w ht)
        have R2 := Aside0.mk (fun w => HL.out 2 w)
        have R3 := Aside0.mk (HM.out 2)
        clear HR HL HM
        simp only [lab_0, lab_1, lab_2] at R1 R2
        generalize (⟨(trimL (longL n (lab 2))).toArray⟩ : ByteArray) = S at *
        generalize (⟨(longL n (lab 2)).toArray⟩ : ByteArray) = LG at *
        go_enter Tryd.func5, Tryd.ntmps5
        go_wp2
        go_quiet (fail)
        go_wp2_with (first | (go_at_call 11; refine (R1.out _ ?ht).mono ?_; (case ht => exact below_tab (below_drewN (Below.alloc (Below.refl w.heap.size w) (Nat.le_refl _) _) _) HT.out); rintro e w1 ⟨rfl, hb1⟩) | (go_at_call 13; refine (R2.out _).mono ?_; rintro e w2 ⟨rfl, hb2⟩) | (go_at_call 12; refine (laws_trimmed.calls 2000 LG S _ R3.out).mono ?_; rintro e w3 ⟨rfl, ⟨nd, rfl⟩⟩))
        go_ret
        exact ⟨rfl, (below_drewN (Below.alloc (Below.refl w.heap.size w) (Nat.le_refl _) _) _).trans ((hb1.trans ((below_drewN hb2 nd).mono hb1.size)).mono (by simp))⟩
end Go.Proofs.YtmdgbbiipjmenaaDoor.RelLaw
