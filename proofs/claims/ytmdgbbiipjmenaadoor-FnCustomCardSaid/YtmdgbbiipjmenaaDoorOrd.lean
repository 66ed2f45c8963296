/- Contracts of humanize.Ordinal and impl.Ordinal: the decimal text and the ending, for every int (condition: strconv's table of powers of ten reads as the text lays it). -/
import Derived.Test.YtmdgbbiipjmenaaDoorRows
import Derived.Test.YtmdgbbiipjmenaaDoorShelf
import Derived.WalkKit
import Derived.WalkSpells
import Derived.Lib.Hide
import Derived.Lib.ItoaLen
import Derived.Sort.Grow
namespace Go.Proofs.YtmdgbbiipjmenaaDoor.Ord
open Go.RowKit Go.Sort
theorem ret_str {a b : ByteArray} (h : a = b) : Ending.returned (.string a) = .returned (.string b) := by rw [h]
theorem below_grow (w : World) (k : Nat) (os : Array Obj) : Below w.heap.size w (grow (w.drewN k) os) :=
  ⟨rfl, rfl, rfl, by simp [grow], fun i hi => by simp [grow, Array.getElem?_append, hi]⟩
def suf (n : Int) : ByteArray :=
  if n.tmod 10 = 1 then (if n.tmod 100 = 11 then ⟨#[116, 104]⟩ else ⟨#[115, 116]⟩)
  else if n.tmod 10 = 2 then (if n.tmod 100 = 12 then ⟨#[116, 104]⟩ else ⟨#[110, 100]⟩)
  else if n.tmod 10 = 3 then (if n.tmod 100 = 13 then ⟨#[116, 104]⟩ else ⟨#[114, 100]⟩)
  else ⟨#[116, 104]⟩
abbrev Tab (w : World) : Prop := Lib.TabIs Tryd.prog w "internal/strconv.uint64pow10" .u64 Lib.pow10Tab
set_option maxHeartbeats 1000000 in
theorem ordinal_any (n : Int) (h0 : -9223372036854775808 ≤ n) (h1 : n ≤ 9223372036854775807) (w : World) (htab : Tab w) :
    Calls Tryd.prog 17 #[.int .i64 n] w fun e w' => e = .returned (.string (⟨(Lib.itoa n).toArray⟩ ++ suf n)) ∧ Below w.heap.size w w' := by
  have HT := Lib.hid htab
  have hl := Lib.itoa_length_le n h0 h1
  have H0 := Lib.hid h0
  have H1 := Lib.hid h1
  clear htab h0 h1
  generalize hs : suf n = s
  unfold suf at hs
  by_cases c1 : n.tmod 10 = 1
  · have b1 : (n.tmod 10 == 1) = true := beq_iff_eq.mpr c1
    by_cases g : n.tmod 100 = 11
    · have g1 : (n.tmod 100 == 11) = true := beq_iff_eq.mpr g
      have g2 : (n.tmod 100 != 11) = false := bne_eq_false_iff_eq.mpr g
      rw [if_pos c1, if_pos g] at hs
      subst hs
      clear c1 g
      go_enter Tryd.func17, Tryd.ntmps17
      go_wp2_with (go_at_call 27; refine (Tryd.strconv_Itoa n H0.out H1.out _ HT.out).mono ?_; rintro e w' ⟨rfl, ⟨k, os, rfl⟩⟩)
      go_ret
      exact ⟨rfl, below_grow w k os⟩
    · have g1 : (n.tmod 100 == 11) = false := beq_eq_false_iff_ne.mpr g
      have g2 : (n.tmod 100 != 11) = true := bne_iff_ne.mpr g
      rw [if_pos c1, if_neg g] at hs
      subst hs
      clear c1 g
      go_enter Tryd.func17, Tryd.ntmps17
      go_wp2_with (go_at_call 27; refine (Tryd.strconv_Itoa n H0.out H1.out _ HT.out).mono ?_; rintro e w' ⟨rfl, ⟨k, os, rfl⟩⟩)
      go_ret
      exact ⟨rfl, below_grow w k os⟩
  · have b1 : (n.tmod 10 == 1) = false := beq_eq_false_iff_ne.mpr c1
    by_cases c2 : n.tmod 10 = 2
    · have b2 : (n.tmod 10 == 2) = true := beq_iff_eq.mpr c2
      by_cases g : n.tmod 100 = 12
      · have g1 : (n.tmod 100 == 12) = true := beq_iff_eq.mpr g
        have g2 : (n.tmod 100 != 12) = false := bne_eq_false_iff_eq.mpr g
        rw [if_neg c1, if_pos c2, if_pos g] at hs
        subst hs
        clear c2 g c1
        go_enter Tryd.func17, Tryd.ntmps17
        go_wp2_with (go_at_call 27; refine (Tryd.strconv_Itoa n H0.out H1.out _ HT.out).mono ?_; rintro e w' ⟨rfl, ⟨k, os, rfl⟩⟩)
        go_ret
        exact ⟨rfl, below_grow w k os⟩
      · have g1 : (n.tmod 100 == 12) = false := beq_eq_false_iff_ne.mpr g
        have g2 : (n.tmod 100 != 12) = true := bne_iff_ne.mpr g
        rw [if_neg c1, if_pos c2, if_neg g] at hs
        subst hs
        clear c2 g c1
        go_enter Tryd.func17, Tryd.ntmps17
        go_wp2_with (go_at_call 27; refine (Tryd.strconv_Itoa n H0.out H1.out _ HT.out).mono ?_; rintro e w' ⟨rfl, ⟨k, os, rfl⟩⟩)
        go_ret
        exact ⟨rfl, below_grow w k os⟩
    · have b2 : (n.tmod 10 == 2) = false := beq_eq_false_iff_ne.mpr c2
      by_cases c3 : n.tmod 10 = 3
      · have b3 : (n.tmod 10 == 3) = true := beq_iff_eq.mpr c3
        by_cases g : n.tmod 100 = 13
        · have g1 : (n.tmod 100 == 13) = true := beq_iff_eq.mpr g
          have g2 : (n.tmod 100 != 13) = false := bne_eq_false_iff_eq.mpr g
          rw [if_neg c1, if_neg c2, if_pos c3, if_pos g] at hs
          subst hs
          clear c3 g c1 c2
          go_enter Tryd.func17, Tryd.ntmps17
          go_wp2_with (go_at_call 27; refine (Tryd.strconv_Itoa n H0.out H1.out _ HT.out).mono ?_; rintro e w' ⟨rfl, ⟨k, os, rfl⟩⟩)
          go_ret
          exact ⟨rfl, below_grow w k os⟩
        · have g1 : (n.tmod 100 == 13) = false := beq_eq_false_iff_ne.mpr g
          have g2 : (n.tmod 100 != 13) = true := bne_iff_ne.mpr g
          rw [if_neg c1, if_neg c2, if_pos c3, if_neg g] at hs
          subst hs
          clear c3 g c1 c2
          go_enter Tryd.func17, Tryd.ntmps17
          go_wp2_with (go_at_call 27; refine (Tryd.strconv_Itoa n H0.out H1.out _ HT.out).mono ?_; rintro e w' ⟨rfl, ⟨k, os, rfl⟩⟩)
          go_ret
          exact ⟨rfl, below_grow w k os⟩
      · have b3 : (n.tmod 10 == 3) = false := beq_eq_false_iff_ne.mpr c3
        rw [if_neg c1, if_neg c2, if_neg c3] at hs
        subst hs
        clear c1 c2 c3
        go_enter Tryd.func17, Tryd.ntmps17
        go_wp2_with (go_at_call 27; refine (Tryd.strconv_Itoa n H0.out H1.out _ HT.out).mono ?_; rintro e w' ⟨rfl, ⟨k, os, rfl⟩⟩)
        go_ret
        exact ⟨rfl, below_grow w k os⟩
set_option maxHeartbeats 1000000 in
theorem implOrdinal_any (n : Int) (h0 : -9223372036854775808 ≤ n) (h1 : n ≤ 9223372036854775807) (w : World) (htab : Tab w) :
    Calls Tryd.prog 7 #[.int .i64 n] w fun e w' => e = .returned (.string (⟨(Lib.itoa n).toArray⟩ ++ suf n)) ∧ Below w.heap.size w w' := by
  have HT := Lib.hid htab
  have H0 := Lib.hid h0
  have H1 := Lib.hid h1
  clear htab h0 h1
  go_enter Tryd.func7, Tryd.ntmps7
  go_wp2_with (go_at_call 17; refine (ordinal_any n H0.out H1.out _ HT.out).mono ?_; rintro e w' ⟨rfl, hb⟩)
  go_ret
  exact ⟨rfl, hb⟩
end Go.Proofs.YtmdgbbiipjmenaaDoor.Ord
