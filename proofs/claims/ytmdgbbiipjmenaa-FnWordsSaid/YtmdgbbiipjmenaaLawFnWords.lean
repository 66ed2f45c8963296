/- The row of the law FnWords: for every list of words and every conjunction the law tells true; nothing is asked of the input. -/
import Derived.Test.YtmdgbbiipjmenaaRows
import Derived.Test.YtmdgbbiipjmenaaPFnWordsx3
import Derived.Test.YtmdgbbiipjmenaaPureFnWords
import Derived.WalkKit
import Derived.ProofKit
import Derived.OpenShut
import Derived.ShutString
import Derived.ChangeOld
import Derived.Below
import Derived.Deep.Matrix
namespace Go.Proofs.Ytmdgbbiipjmenaa.fnWords
open Go.ChangeShapes Go.WideShapes Go.ChangeAt Go.RowKit Go.Deep
open Go.Proofs.YtmdgbbiipjmenaaW.PrintWords
theorem own : ownKnob Try.prog.godebug = none := by kernel_rfl
theorem laidOut : laidOutB Try.prog = true := by kernel_rfl
theorem kd_ints {w : World} (A : Option Addr) (L C : Nat) (Z : List Int) (h1 : L ≤ C) (h2 : C ≤ maxLen) (h3 : Z.length = C) (h5 : A = none → C = 0)
    (h6 : ∀ a', A = some a' → ∀ c, c < C → w.cell? (a'.add c) = some (.int .u8 (Z.getD c 0))) : (Kd.int .u8).C w A (Z.take L).length (Z.take L) := by
  have hl : (Z.take L).length = L := by rw [List.length_take]; omega
  unfold maxLen at h2
  refine ⟨rfl, by omega, fun hp => ?_⟩
  cases hA : A with
  | none => have := h5 hA; omega
  | some ad =>
    refine ⟨ad, rfl, fun j p hj => ?_⟩
    have hjl : j < L := by
      have := (List.getElem?_eq_some_iff.1 hj).1
      omega
    refine ⟨[.int .u8 p], rfl, rfl, fun i u hi => ?_⟩
    have hi0 : i = 0 := by
      have := (List.getElem?_eq_some_iff.1 hi).1
      simpa using this
    subst hi0
    simp at hi
    subst hi
    have hp' : Z.getD j 0 = p := by
      rw [List.getElem?_take] at hj
      rw [if_pos hjl] at hj
      simp [List.getD, hj]
    show w.cell? (ad.add (j * 1 + 0)) = _
    rw [Nat.mul_one, Nat.add_zero, h6 ad hA j (by omega), hp']
theorem kd_rows {w : World} (a : Addr) (len cap : Nat) (A : Nat → Option Addr) (L C : Nat → Nat) (Z : Nat → List Int) (hl : len ≤ cap) (hm : cap ≤ maxLen)
    (h : ∀ r, r < cap → w.cell? (a.add r) = some (.slice (A r) (L r) (C r)) ∧ L r ≤ C r ∧ C r ≤ maxLen ∧ (Z r).length = C r ∧ (∀ n ∈ Z r, (Lit.int .u8 n).wf = true) ∧ (A r = none → C r = 0) ∧
        ∀ a', A r = some a' → 0 ≤ a'.block ∧ ∀ c, c < C r → w.cell? (a'.add c) = some (.int .u8 ((Z r).getD c 0))) :
    Kd.C (Kd.slice 5 (Kd.int .u8)) w (some a) ((List.range len).map fun r => (Z r).take (L r)).length ((List.range len).map fun r => (Z r).take (L r)) := by
  unfold maxLen at hm
  refine ⟨rfl, by simp; omega, fun _ => ⟨a, rfl, fun j p hj => ?_⟩⟩
  have hjl : j < len := by
    have := (List.getElem?_eq_some_iff.1 hj).1
    simpa using this
  have hp : p = (Z j).take (L j) := by
    simp [hjl] at hj
    exact hj.symm
  obtain ⟨g1, g2, g3, g4, g5, g6, g7⟩ := h j (by omega)
  have hlen : ((Z j).take (L j)).length = L j := by rw [List.length_take]; omega
  subst hp
  refine ⟨[.slice (A j) ((Z j).take (L j)).length (C j)], rfl, ⟨A j, C j, rfl, by omega, kd_ints (A j) (L j) (C j) (Z j) g2 g3 g4 g6 (fun a' e => (g7 a' e).2)⟩, fun i u hi => ?_⟩
  have hi0 : i = 0 := by
    have := (List.getElem?_eq_some_iff.1 hi).1
    simpa using this
  subst hi0
  simp only [List.getElem?_cons_zero, Option.some.injEq] at hi
  subst hi
  show w.cell? (a.add (j * 1 + 0)) = _
  rw [Nat.mul_one, Nat.add_zero, g1, hlen]
theorem wf_u8 {n : Int} (h : (Lit.int .u8 n).wf = true) : 0 ≤ n ∧ n ≤ 255 := by
  have := bounds_u8 h
  omega
set_option maxRecDepth 100000 in
theorem lifted (os : Os) (started : os.Started) (H : Type) (enc : TypeId × Value → H) :
    ReturnsInHanded {} Try.checked os 3 .any (Rows.fnWordsSpec.pre6 enc Try.prog Try.f3 Rows.fnWordsRow.domain false) (Rows.fnWordsSpec.post enc Try.prog Try.f3 false true false false) := by
  refine returnsInHanded_of_change (C := Try.checked) own started (by kernel_rfl) Try.func3
    (ChangeSpec.witness6 (enc := enc) (C := Try.checked) false ⟨#[], #[.slice none 0 0, .int .u8 0], []⟩ 8 (by kernel_rfl) (by kernel_rfl) (by kernel_rfl) (by kernel_rfl)) ?_
  intro W base args ds gs before hval0 hW hcnd _
  have hval : ∀ (j : Nat) t v, Try.f3.params[j]? = some t → args[j]? = some v → Value.okWide Try.prog W .any base t v := hval0
  have hW' := hW
  obtain ⟨p, q, hA0, hV, rfl, hfz, hnd⟩ := hW
  have hA : DataW.TrodAll enc Try.prog W 0 (fun _ => true) true Try.f3.params.toList args.toList ds p := hA0
  rw [Try.params3] at hA hval
  obtain ⟨v0, vs0, d0, ds0, p0, q0, hargs, rfl, rfl, h0, r0⟩ := trodAll_cons hA
  obtain ⟨v1, vs1, d1, ds1, p1, q1, rfl, rfl, rfl, h1, r1⟩ := trodAll_cons r0
  obtain ⟨rfl, rfl, rfl⟩ := trodAll_nil r1
  obtain rfl : args = #[v0, v1] := by cases args; simp_all
  obtain ⟨rfl, rfl⟩ := trodVars_none hV
  obtain ⟨a0, len0, cap0, rfl⟩ := okWide_slice Try.underlying22 (hval 0 22 v0 rfl rfl)
  obtain ⟨c1, rfl, rfl, rfl, w1⟩ := open_int Try.underlying5 (hval 1 5 v1 rfl rfl) h1
  have k0 := h0
  have lt0 : ∀ x ∈ p0, x.block < W.heap.size := by obtain ⟨m, hm⟩ := k0; exact DataW.trod_lt m _ _ _ hm
  obtain ⟨l, hlen, hread, hcap, hbytes⟩ : ∃ l : List (List Int), len0 = l.length ∧ Kd.C (Kd.slice 5 (Kd.int .u8)) W a0 l.length l ∧ l.length ≤ cap0 ∧ ∀ x ∈ l, ∀ z ∈ x, 0 ≤ z ∧ z ≤ 255 := by
    obtain ⟨fuel, hf⟩ := h0
    rcases open_int_rows Try.underlying22 Try.underlying25 Try.underlying5 (by kernel_rfl) (by kernel_rfl) hf with ⟨hcs, _⟩ | ⟨a, len', cap', A, L, C, Z, hcs, _, hl, hm, _, hr⟩
    · simp [Value.cells] at hcs
      obtain ⟨rfl, rfl, rfl⟩ := hcs
      exact ⟨[], rfl, ⟨rfl, by simp, fun h => by simp at h⟩, by simp, by simp⟩
    · simp [Value.cells] at hcs
      obtain ⟨rfl, rfl, rfl⟩ := hcs
      refine ⟨(List.range len0).map fun r => (Z r).take (L r), by simp, kd_rows a len0 cap0 A L C Z hl hm hr, by simpa using hl, ?_⟩
      intro x hx z hz
      obtain ⟨r, hr', rfl⟩ := List.mem_map.1 hx
      obtain ⟨_, _, _, _, g5, _, _⟩ := hr r (by have := List.mem_range.1 hr'; omega)
      exact wf_u8 (g5 z (List.mem_of_mem_take hz))
  clear hA0 hval0
  obtain ⟨k, hk⟩ := PureW.law_ok l c1 (wf_u8 w1).1 hbytes
  subst hlen
  refine (PFnWords.laws_FnWords.calls k a0 cap0 l c1 true W hread hcap hk).mono fun e W' ⟨he, bel⟩ => ?_
  subst he
  exact ⟨_, rfl, _, _, _, [], _, [], hW', trodAll_mk1 (shut_bool Try.underlying4 _), (trodAll_cons_mk (Below.trod laidOut (by kernel_rfl) (of_decide_eq_true (by kernel_rfl)) k0 bel lt0) (trodAll_cons_mk (shut_int Try.underlying5 w1) trodAll_mk0)), rfl, bel.frame _, fun h => by cases h⟩
theorem over : Rows.fnWordsRow.holds Try.pinned (OpenSpec.ofChange Rows.fnWordsSpec) :=
  OpenClaim.holds_of_wide 3 Try.f3 rfl rfl rfl rfl rfl rfl rfl ⟨rfl, rfl, rfl, rfl, rfl⟩ rfl rfl rfl rfl rfl (by kernel_rfl) Try.func3 (by kernel_rfl)
    (of_decide_eq_true (by kernel_rfl)) (by unfold Func.isWrapper; first | (rw [if_pos (by decide +kernel)]; kernel_rfl) | (rw [if_neg (by decide +kernel)]; exact ⟨rfl, rfl⟩))
    (fun os started H enc _ => lifted os started H enc)
theorem proved : Rows.FnWordsSaid := over
end Go.Proofs.Ytmdgbbiipjmenaa.fnWords
namespace Go.Proofs.Ytmdgbbiipjmenaa
/-- The law FnWords holds for every input. -/
theorem fnWords_holds : Rows.FnWordsSaid := fnWords.proved
#print axioms fnWords_holds
end Go.Proofs.Ytmdgbbiipjmenaa
