/- What a walk takes from the row's list: the tables and variables of the library read as the program's text lays them. -/
import Derived.Test.YtnpkocpknmhngaaDoorGLaw
import Derived.Test.YtnpkocpknmhngaaDoorRows
import Derived.LaidLaws
import Derived.LaidSub
import Derived.Lib.LaidTab
import Derived.OpenShut
import Derived.ChangeArms
namespace Go.Proofs.YtnpkocpknmhngaaDoor.Laid
open Go.Lib
open Go.Proofs.YtnpkocpknmhngaaDoor.Pf (Tabs TenAt Pw five53)
/-- The row's whole list. -/
abbrev all : List (String × DataW Unit) := [("math/bits.deBruijn32tab", Rows.laid_math_bits_deBruijn32tab), ("math/bits.deBruijn64tab", Rows.laid_math_bits_deBruijn64tab), ("internal/strconv.float32info", Rows.laid_internal_strconv_float32info), ("internal/strconv.float64info", Rows.laid_internal_strconv_float64info), ("internal/strconv.optimize", Rows.laid_internal_strconv_optimize), ("internal/strconv.powtab", Rows.laid_internal_strconv_powtab), ("internal/strconv.float64pow10", Rows.laid_internal_strconv_float64pow10), ("internal/strconv.float32pow10", Rows.laid_internal_strconv_float32pow10), ("internal/strconv.uint64pow10", Rows.laid_internal_strconv_uint64pow10), ("strconv.ErrRange", Rows.laid_strconv_ErrRange), ("strconv.ErrSyntax", Rows.laid_strconv_ErrSyntax), ("internal/strconv.leftcheats", Rows.laid_internal_strconv_leftcheats), ("internal/strconv.pow10Tab", Rows.laid_internal_strconv_pow10Tab)]
/-- One variable of the list: its cells, and what they read as. -/
theorem one_of {W : World} {name : String} {d : DataW Unit} {g : Nat} {t : TypeId} (hl : (name, d) ∈ all) (hg : Tryd.prog.globalNamed name = some g) (ht : (Tryd.prog.globals[g]?).map (·.type) = some t) (h : laidMet Tryd.prog all W) :
    ∃ cs fuel p, W.var? Tryd.prog name = some cs ∧ DataW.trod (fun _ => ()) Tryd.prog W 0 (fun _ => true) false fuel t cs.toList = some (d, p) := by
  obtain ⟨ps, hv, -, -⟩ := h
  have key : ∀ (l : List (String × DataW Unit)) (ps : List MemPlace), DataW.LaidVars Tryd.prog W l ps → (name, d) ∈ l → ∃ cs fuel p, W.var? Tryd.prog name = some cs ∧ DataW.trod (fun _ => ()) Tryd.prog W 0 (fun _ => true) false fuel t cs.toList = some (d, p) := by
    intro l
    induction l with
    | nil => intro ps _ hm; cases hm
    | cons x r ih =>
      intro ps hv hm
      obtain ⟨n, d'⟩ := x
      obtain ⟨g', t', cs, fuel, p, q, hg', ht', hvar, hd, hrest, -⟩ := hv
      rcases List.mem_cons.mp hm with e | hm
      · cases e
        obtain rfl := Option.some.inj (hg.symm.trans hg')
        obtain rfl := Option.some.inj (ht.symm.trans ht')
        exact ⟨cs, fuel, p, hvar, hd⟩
      · exact ih q hrest hm
  exact key all ps hv hl
theorem leaf_int {W : World} {fuel : Nat} {e : TypeId} {k : IntKind} {cs : List Value} {o : Nat} {x : DataW Unit × List MemPlace} {z : Int} (he : Tryd.prog.underlying e = some (.int k))
    (h : DataW.trod (fun _ => ()) Tryd.prog W 0 (fun _ => true) false fuel e ((cs.drop o).take 1) = some x) (hx : x.1 = .lit (.int k z)) : cs[o]? = some (.int k z) := by
  obtain ⟨n, hc, rfl, -⟩ := DataW.trod_int he h
  cases hx
  have := congrArg (·[0]?) hc
  simpa [List.getElem?_take, List.getElem?_drop] using this
theorem leaf_any {W : World} {fuel : Nat} {e : TypeId} {k : IntKind} {cs : List Value} {o : Nat} {x : DataW Unit × List MemPlace} (he : Tryd.prog.underlying e = some (.int k))
    (h : DataW.trod (fun _ => ()) Tryd.prog W 0 (fun _ => true) false fuel e ((cs.drop o).take 1) = some x) : ∃ z, cs[o]? = some (.int k z) := by
  obtain ⟨n, hc, rfl, -⟩ := DataW.trod_int he h
  have := congrArg (·[0]?) hc
  exact ⟨n, by simpa [List.getElem?_take, List.getElem?_drop] using this⟩
theorem optimize_at {W : World} (h : laidMet Tryd.prog all W) : W.cell? ⟨6, 0, none⟩ = some (.bool true) := by
  obtain ⟨cs, fuel, p, hv, hd⟩ := one_of (g := 6) (t := 4) (name := "internal/strconv.optimize") (d := Rows.laid_internal_strconv_optimize) (by simp [all]) (by kernel_rfl) (by kernel_rfl) h
  obtain ⟨b, hc, hx⟩ := DataW.trod_bool Tryd.underlying4 hd
  have hb : b = true := by
    have := congrArg Prod.fst hx
    cases this
    rfl
  rw [World.var?_cell (by kernel_rfl) hv 0]
  have := congrArg (·[0]?) hc
  subst hb
  simpa using this
theorem info_at {W : World} (h : laidMet Tryd.prog all W) : W.cell? ⟨7, 0, none⟩ = some (.int .u64 52) ∧ W.cell? ⟨7, 1, none⟩ = some (.int .u64 11) ∧ W.cell? ⟨7, 2, none⟩ = some (.int .i64 (-1023)) := by
  obtain ⟨cs, fuel, p, hv, hd⟩ := one_of (g := 7) (t := 92) (name := "internal/strconv.float64info") (d := Rows.laid_internal_strconv_float64info) (by simp [all]) (by kernel_rfl) (by kernel_rfl) h
  obtain ⟨xs, n, rfl, hx, hl, hxl, hf⟩ := DataW.trod_struct Tryd.underlying92 hd
  have hm : xs.map (·.1) = [.lit (.int .u64 52), .lit (.int .u64 11), .lit (.int .i64 (-1023))] := by
    have e : (Rows.laid_internal_strconv_float64info : DataW Unit) = .agg (xs.map (·.1)) := congrArg Prod.fst hx
    exact (DataW.agg.inj e).symm
  have c57 : Tryd.prog.cellsOf 57 = 1 := by kernel_rfl
  have c3 : Tryd.prog.cellsOf 3 = 1 := by kernel_rfl
  have f0 : DataW.trod (fun _ => ()) Tryd.prog W 0 (fun _ => true) false n 57 ((cs.toList.drop 0).take (Tryd.prog.cellsOf 57)) = xs[0]? := hf 0 _ rfl
  have f1 : DataW.trod (fun _ => ()) Tryd.prog W 0 (fun _ => true) false n 57 ((cs.toList.drop 1).take (Tryd.prog.cellsOf 57)) = xs[1]? := hf 1 _ rfl
  have f2 : DataW.trod (fun _ => ()) Tryd.prog W 0 (fun _ => true) false n 3 ((cs.toList.drop 2).take (Tryd.prog.cellsOf 3)) = xs[2]? := hf 2 _ rfl
  rw [c57] at f0 f1
  rw [c3] at f2
  rw [World.var?_cell (by kernel_rfl) hv 0, World.var?_cell (by kernel_rfl) hv 1, World.var?_cell (by kernel_rfl) hv 2]
  have g0 := congrArg (·[0]?) hm
  have g1 := congrArg (·[1]?) hm
  have g2 := congrArg (·[2]?) hm
  simp only [List.getElem?_map, List.getElem?_cons_zero, List.getElem?_cons_succ, Option.map_eq_some_iff] at g0 g1 g2
  obtain ⟨y0, e0, h0⟩ := g0
  obtain ⟨y1, e1, h1⟩ := g1
  obtain ⟨y2, e2, h2⟩ := g2
  rw [e0] at f0
  rw [e1] at f1
  rw [e2] at f2
  refine ⟨?_, ?_, ?_⟩
  · simpa using leaf_int Tryd.underlying57 f0 h0
  · simpa using leaf_int Tryd.underlying57 f1 h1
  · simpa using leaf_int Tryd.underlying3 f2 h2
theorem cells_one {W : World} {a : Addr} {vs : List Value} (h : W.cells? 0 a 1 = some vs) : ∃ v, vs = [v] ∧ W.cell? (a.add 0) = some v := by
  unfold World.cells? at h
  rw [if_pos (Nat.zero_le _)] at h
  cases hc : W.cell? (a.add 0) with
  | none => simp [List.range_succ, hc] at h
  | some v => exact ⟨v, by simpa [List.range_succ, hc, eq_comm] using h, rfl⟩
theorem cells_two {W : World} {a : Addr} {vs : List Value} (h : W.cells? 0 a 2 = some vs) : ∃ v0 v1, vs = [v0, v1] ∧ W.cell? (a.add 0) = some v0 ∧ W.cell? (a.add 1) = some v1 := by
  unfold World.cells? at h
  rw [if_pos (Nat.zero_le _)] at h
  cases hc : W.cell? (a.add 0) with
  | none => simp [List.range_succ, hc] at h
  | some v =>
    cases hc1 : W.cell? (a.add 1) with
    | none => simp [List.range_succ, hc, hc1] at h
    | some v1 => exact ⟨v, v1, by simpa [List.range_succ, hc, hc1, eq_comm] using h, rfl, rfl⟩
theorem spot_none {W : World} {a : Addr} {v : Value} (h : W.cell? a = some v) : a.spot = none := by
  unfold World.cell? at h
  split at h
  · split at h
    · cases h
    · rename_i hs
      cases hsp : a.spot with
      | none => rfl
      | some s => rw [hsp] at hs; exact absurd rfl hs
  · cases h
theorem add_zero' (a : Addr) : a.add 0 = a := by
  unfold Addr.add
  simp
theorem powtab_at {W : World} (h : laidMet Tryd.prog all W) : ∃ bp op, W.cell? ⟨9, 0, none⟩ = some (.slice (some ⟨bp, op, none⟩) 9 9) ∧ ∀ i : Nat, i < 9 → W.cell? ⟨bp, op + i, none⟩ = some (.int .i64 (([1, 3, 6, 9, 13, 16, 19, 23, 26] : List Int).getD i 0)) := by
  obtain ⟨cs, fuel, p, hv, hd⟩ := one_of (g := 9) (t := 123) (name := "internal/strconv.powtab") (d := Rows.laid_internal_strconv_powtab) (by simp [all]) (by kernel_rfl) (by kernel_rfl) h
  rcases DataW.trod_slice Tryd.underlying123 hd with ⟨_, hx⟩ | ⟨a, len, cap, elems, rest, n, rfl, hc, hx, -, hlc, -, hel, hat, hsp, -⟩
  · have e : (Rows.laid_internal_strconv_powtab : DataW Unit) = .nil := congrArg Prod.fst hx
    cases e
  · have e : (Rows.laid_internal_strconv_powtab : DataW Unit) = .slice (elems.map (·.1)) (rest.map (·.1)) := congrArg Prod.fst hx
    obtain ⟨e1, e2⟩ := DataW.slice.inj e
    have l1 : elems.length = 9 := by have := congrArg List.length e1; simpa using this.symm
    have l2 : rest.length = 0 := by have := congrArg List.length e2; simpa using this.symm
    have l3 := (hsp rfl).1
    have hcap : cap = 9 := by omega
    have hlen : len = 9 := by omega
    have c3 : Tryd.prog.cellsOf 3 = 1 := by kernel_rfl
    rw [c3] at hat
    have hall : ∀ i : Nat, i < 9 → W.cell? ((a.add (i * 1)).add 0) = some (.int .i64 (([1, 3, 6, 9, 13, 16, 19, 23, 26] : List Int).getD i 0)) := by
      intro i hi
      have h1 := hat i (by omega)
      have hi2 : i < elems.length := by omega
      rw [List.getElem?_eq_getElem hi2] at h1
      obtain ⟨vs, h2, h3⟩ := Option.bind_eq_some_iff.mp h1
      obtain ⟨v, rfl, h4⟩ := cells_one h2
      obtain ⟨z, h5, h6, -⟩ := DataW.trod_int Tryd.underlying3 h3
      have h7 : (elems.map (·.1))[i]? = some (.lit (.int .i64 z)) := by
        rw [List.getElem?_map, List.getElem?_eq_getElem hi2, h6]; rfl
      rw [← e1] at h7
      obtain rfl : v = .int .i64 z := by simpa using h5
      rw [h4]
      have h8 : i = 0 ∨ i = 1 ∨ i = 2 ∨ i = 3 ∨ i = 4 ∨ i = 5 ∨ i = 6 ∨ i = 7 ∨ i = 8 := by omega
      rcases h8 with rfl | rfl | rfl | rfl | rfl | rfl | rfl | rfl | rfl <;> (cases h7; rfl)
    have hs := spot_none (hall 0 (by omega))
    rw [Nat.zero_mul, add_zero', add_zero'] at hs
    obtain ⟨b, o, s⟩ := a
    obtain rfl : s = none := hs
    refine ⟨b, o, ?_, fun i hi => ?_⟩
    · rw [World.var?_cell (by kernel_rfl) hv 0]
      have := congrArg (·[0]?) hc
      rw [hlen, hcap] at this
      simpa using this
    · have := hall i hi
      rwa [Nat.mul_one, add_zero', add_plain] at this
/-- A row of the table of cheats. -/
theorem cheat_row {W : World} {n : Nat} {a : Addr} {x : DataW Unit × List MemPlace} {z : Int} {s : List UInt8} (h : (W.cells? 0 a 2).bind (DataW.trod (fun _ => ()) Tryd.prog W 0 (fun _ => true) false n 134) = some x) (hx : x.1 = .agg [.lit (.int .i64 z), .lit (.string s)]) :
    W.cell? (a.add 0) = some (.int .i64 z) ∧ W.cell? (a.add 1) = some (.string ⟨s.toArray⟩) := by
  obtain ⟨vs, h2, h3⟩ := Option.bind_eq_some_iff.mp h
  obtain ⟨v0, v1, rfl, h4, h5⟩ := cells_two h2
  obtain ⟨xs, m, rfl, h6, hl, hxl, hf⟩ := DataW.trod_struct Tryd.underlying134 h3
  subst h6
  have hm : xs.map (·.1) = [.lit (.int .i64 z), .lit (.string s)] := DataW.agg.inj hx
  have c3 : Tryd.prog.cellsOf 3 = 1 := by kernel_rfl
  have c9 : Tryd.prog.cellsOf 9 = 1 := by kernel_rfl
  have f0 : DataW.trod (fun _ => ()) Tryd.prog W 0 (fun _ => true) false m 3 ((([v0, v1] : List Value).drop 0).take (Tryd.prog.cellsOf 3)) = xs[0]? := hf 0 _ rfl
  have f1 : DataW.trod (fun _ => ()) Tryd.prog W 0 (fun _ => true) false m 9 ((([v0, v1] : List Value).drop 1).take (Tryd.prog.cellsOf 9)) = xs[1]? := hf 1 _ rfl
  rw [c3] at f0
  rw [c9] at f1
  have g0 := congrArg (·[0]?) hm
  have g1 := congrArg (·[1]?) hm
  simp only [List.getElem?_map, List.getElem?_cons_zero, List.getElem?_cons_succ, Option.map_eq_some_iff] at g0 g1
  obtain ⟨y0, e0, h10⟩ := g0
  obtain ⟨y1, e1, h11⟩ := g1
  rw [e0] at f0
  rw [e1] at f1
  refine ⟨?_, ?_⟩
  · have := leaf_int Tryd.underlying3 f0 h10
    rw [h4]
    simpa using this
  · obtain ⟨q, hc, rfl, -⟩ := DataW.trod_string Tryd.underlying9 f1
    have h12 : q.data.toList = s := by cases h11; rfl
    have h13 : v1 = .string q := by simpa using hc
    rw [h5, h13, ← h12]
theorem cheats_at {W : World} (h : laidMet Tryd.prog all W) : ∃ b o, W.cell? ⟨12, 0, none⟩ = some (.slice (some ⟨b, o, none⟩) 61 61) ∧ W.cell? ⟨b, o + 2, none⟩ = some (.int .i64 1) ∧ W.cell? ⟨b, o + 3, none⟩ = some (.string ⟨#[53]⟩) ∧ W.cell? ⟨b, o + 106, none⟩ = some (.int .i64 16) ∧ W.cell? ⟨b, o + 107, none⟩ = some (.string five53) := by
  obtain ⟨cs, fuel, p, hv, hd⟩ := one_of (g := 12) (t := 135) (name := "internal/strconv.leftcheats") (d := Rows.laid_internal_strconv_leftcheats) (by simp [all]) (by kernel_rfl) (by kernel_rfl) h
  have hrows : ∃ l : List (DataW Unit), Rows.laid_internal_strconv_leftcheats = .slice l [] ∧ l.length = 61 ∧ l[0]? = some (.agg [.lit (.int .i64 0), .lit (.string [])]) ∧ l[1]? = some (.agg [.lit (.int .i64 1), .lit (.string [53])]) ∧ l[53]? = some (.agg [.lit (.int .i64 16), .lit (.string five53.data.toList)]) :=
    ⟨Go.Pinned.cheatRows.map fun x => .agg [.lit (.int .i64 x.1), .lit (.string x.2)], rfl, by kernel_rfl, by kernel_rfl, by kernel_rfl, by kernel_rfl⟩
  obtain ⟨l, hl0, hl1, hl2, hl3, hl4⟩ := hrows
  rw [hl0] at hd
  rcases DataW.trod_slice Tryd.underlying135 hd with ⟨_, hx⟩ | ⟨a, len, cap, elems, rest, n, rfl, hc, hx, -, hlc, -, hel, hat, hsp, -⟩
  · have e : (DataW.slice l [] : DataW Unit) = .nil := congrArg Prod.fst hx
    cases e
  · have e : (DataW.slice l [] : DataW Unit) = .slice (elems.map (·.1)) (rest.map (·.1)) := congrArg Prod.fst hx
    obtain ⟨e1, e2⟩ := DataW.slice.inj e
    have l1 : elems.length = 61 := by have := congrArg List.length e1; rw [hl1] at this; simpa using this.symm
    have l2 : rest.length = 0 := by have := congrArg List.length e2; simpa using this.symm
    have l3 := (hsp rfl).1
    have hcap : cap = 61 := by omega
    have hlen : len = 61 := by omega
    have c134 : Tryd.prog.cellsOf 134 = 2 := by kernel_rfl
    rw [c134] at hat
    have row : ∀ (i : Nat) (z : Int) (s : List UInt8), i < 61 → l[i]? = some (.agg [.lit (.int .i64 z), .lit (.string s)]) → W.cell? ((a.add (i * 2)).add 0) = some (.int .i64 z) ∧ W.cell? ((a.add (i * 2)).add 1) = some (.string ⟨s.toArray⟩) := by
      intro i z s hi hrow
      have h1 := hat i (by omega)
      have hi2 : i < elems.length := by omega
      rw [List.getElem?_eq_getElem hi2] at h1
      refine cheat_row h1 ?_
      rw [e1, List.getElem?_map, List.getElem?_eq_getElem hi2] at hrow
      exact Option.some.inj hrow
    have r0 := (row 0 0 [] (by omega) hl2).1
    have r1 := row 1 1 [53] (by omega) hl3
    have r53 := row 53 16 five53.data.toList (by omega) hl4
    have hs := spot_none r0
    rw [Nat.zero_mul, add_zero', add_zero'] at hs
    obtain ⟨b, o, s⟩ := a
    obtain rfl : s = none := hs
    rw [add_zero', add_plain, add_plain] at r1 r53
    refine ⟨b, o, ?_, r1.1, r1.2, r53.1, r53.2⟩
    rw [World.var?_cell (by kernel_rfl) hv 0]
    have := congrArg (·[0]?) hc
    rw [hlen, hcap] at this
    simpa using this
theorem ten_at {W : World} (h : laidMet Tryd.prog all W) : TenAt W := by
  obtain ⟨cs, fuel, p, hv, hd⟩ := one_of (g := 11) (t := 130) (name := "internal/strconv.pow10Tab") (d := Rows.laid_internal_strconv_pow10Tab) (by simp [all]) (by kernel_rfl) (by kernel_rfl) h
  obtain ⟨xs, m, rfl, -, -, hxl, hat⟩ := DataW.trod_array Tryd.underlying130 hd
  have c129 : Tryd.prog.cellsOf 129 = 2 := by kernel_rfl
  have c22 : Tryd.prog.cellsOf 22 = 1 := by kernel_rfl
  rw [c129] at hat
  have row : ∀ i : Nat, i < 696 → ∃ hi lo : Int, W.cell? ⟨11, 2 * i, none⟩ = some (.int .u64 hi) ∧ W.cell? ⟨11, 2 * i + 1, none⟩ = some (.int .u64 lo) := by
    intro i hi
    have h1 := hat i hi
    have hi2 : i < xs.length := by omega
    rw [List.getElem?_eq_getElem hi2] at h1
    obtain ⟨ys, k, rfl, -, -, hyl, hf⟩ := DataW.trod_struct Tryd.underlying129 h1
    have f0 : DataW.trod (fun _ => ()) Tryd.prog W 0 (fun _ => true) false k 22 ((((cs.toList.drop (i * 2)).take 2).drop 0).take (Tryd.prog.cellsOf 22)) = ys[0]? := hf 0 _ rfl
    have f1 : DataW.trod (fun _ => ()) Tryd.prog W 0 (fun _ => true) false k 22 ((((cs.toList.drop (i * 2)).take 2).drop 1).take (Tryd.prog.cellsOf 22)) = ys[1]? := hf 1 _ rfl
    have hy : ys.length = 2 := hyl
    rw [c22, List.getElem?_eq_getElem (by omega)] at f0 f1
    obtain ⟨z0, h10⟩ := leaf_any Tryd.underlying22 f0
    obtain ⟨z1, h11⟩ := leaf_any Tryd.underlying22 f1
    have t0 : cs.toList[i * 2]? = some (.int .u64 z0) := by simpa [List.getElem?_take, List.getElem?_drop] using h10
    have t1 : cs.toList[i * 2 + 1]? = some (.int .u64 z1) := by simpa [List.getElem?_take, List.getElem?_drop] using h11
    refine ⟨z0, z1, ?_, ?_⟩
    · rw [World.var?_cell (by kernel_rfl) hv (2 * i), Nat.mul_comm]
      simpa using t0
    · rw [World.var?_cell (by kernel_rfl) hv (2 * i + 1), Nat.mul_comm]
      simpa using t1
  intro p hp
  rcases hp with rfl | rfl
  · exact row 348 (by omega)
  · exact row 349 (by omega)
theorem pow_data : (Rows.laid_internal_strconv_uint64pow10 : DataW Unit) = tabData .u64 pow10Tab := by kernel_rfl
theorem tab_at {W : World} (h : laidMet Tryd.prog all W) : TabIs Tryd.prog W "internal/strconv.uint64pow10" .u64 pow10Tab := by
  have h2 := h.filter (fun x => x.1 == "internal/strconv.uint64pow10")
  have hf : all.filter (fun x => x.1 == "internal/strconv.uint64pow10") = [("internal/strconv.uint64pow10", Rows.laid_internal_strconv_uint64pow10)] := by kernel_rfl
  rw [hf, pow_data] at h2
  exact tabIs_of_head (rest := []) (g := 0) (t := 63) (e := 22) (n := 20) (by kernel_rfl) (by kernel_rfl) Tryd.underlying63 Tryd.underlying22 (by kernel_rfl) (by kernel_rfl) h2
theorem tabs_at {W : World} (h : laidMet Tryd.prog all W) : ∃ bp op b o, Tabs W W.heap.size bp op b o := by
  obtain ⟨m0, m1, m2⟩ := info_at h
  obtain ⟨bp, op, p0, p1⟩ := powtab_at h
  obtain ⟨b, o, l0, l1, l2, l3, l4⟩ := cheats_at h
  refine ⟨bp, op, b, o, m0, m1, m2, p0, p1 0 (by omega), ?_, l0, l1, l2, l3, l4, World.block_lt_of_cell? _ _ l0, World.block_lt_of_cell? _ _ (p1 0 (by omega)), World.block_lt_of_cell? _ _ l1⟩
  intro dp h1 h2
  have hd : dp = 1 ∨ dp = 2 ∨ dp = 3 ∨ dp = 4 ∨ dp = 5 ∨ dp = 6 ∨ dp = 7 ∨ dp = 8 := by omega
  rcases hd with rfl | rfl | rfl | rfl | rfl | rfl | rfl | rfl
  · exact ⟨3, 8, by unfold Pw; omega, p1 1 (by omega)⟩
  · exact ⟨6, 64, by unfold Pw; omega, p1 2 (by omega)⟩
  · exact ⟨9, 512, by unfold Pw; omega, p1 3 (by omega)⟩
  · exact ⟨13, 8192, by unfold Pw; omega, p1 4 (by omega)⟩
  · exact ⟨16, 65536, by unfold Pw; omega, p1 5 (by omega)⟩
  · exact ⟨19, 524288, by unfold Pw; omega, p1 6 (by omega)⟩
  · exact ⟨23, 8388608, by unfold Pw; omega, p1 7 (by omega)⟩
  · exact ⟨26, 67108864, by unfold Pw; omega, p1 8 (by omega)⟩
end Go.Proofs.YtnpkocpknmhngaaDoor.Laid
