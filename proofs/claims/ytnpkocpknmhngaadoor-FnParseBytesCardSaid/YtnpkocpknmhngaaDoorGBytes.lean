/- internal/strconv.FormatUint at base ten, strconv.FormatUint, spec.Natural: the decimal numeral. humanize.zzLower: the text in small letters. spec.Times: what a size's name stands for. errors.New; humanize.ParseBytes at a text of digits and commas and a name behind it. impl.ParseBytes at a text of digits and commas and a name behind it. -/
import Derived.Test.YtnpkocpknmhngaaDoorGFloat
import Derived.Lib.ItoaMem
import Derived.Lib.AppendIntMem
import Derived.BigCall
import Derived.BigGuard
import Derived.Lib.ConvBytes
import Derived.Lib.AtoiErrMem
import Derived.LoopN
import Derived.Test.YtnpkocpknmhngaaDoorPPbx2
import Derived.Lib.OthersKept
import Derived.Deep.DeepCutAuto
import Derived.Test.YtnpkocpknmhngaaDoorPPix
namespace Go.Proofs.YtnpkocpknmhngaaDoor.Pf
open Go.RowKit Go.Lib Go.Sort Go.Proofs.YtnpkocpknmhngaaDoorW.PrintWords Go.Proofs.YtnpkocpknmhngaaDoorW.PrintLast
set_option maxHeartbeats 6400000 in
set_option maxRecDepth 100000 in
theorem inner_uint (u : Nat) (hu64 : u < 18446744073709551616) (w : World) (htab : Lib.TabIs Tryd.prog w "internal/strconv.uint64pow10" .u64 Lib.pow10Tab) :
    Calls Tryd.prog 11 #[.int .u64 u, .int .i64 10] w fun e w' => e = .returned (.string ⟨(Lib.decDigits u).toArray⟩) ∧ ∃ k os, w' = grow (w.drewN k) os := by
  by_cases hs : u < 100
  · have z1 : decide ((u : Int) < 100) = true := decide_eq_true (by omega)
    have z2 : wrap64 (u : Int) = u := by unfold wrap64; omega
    have HS := Aside0.mk hs
    clear hs htab
    go_enter Tryd.func11, Tryd.ntmps11
    go_wp2_with (go_at_call 21; refine (Tryd.internal_strconv_small u HS.out _).mono ?_; rintro e w' ⟨rfl, rfl⟩)
    go_ret
    exact ⟨rfl, 0, #[], by simp [World.drewN_zero]⟩
  · have z1 : decide ((u : Int) < 100) = false := decide_eq_false (by omega)
    have hu1 : 1 ≤ u := by omega
    have hnd20 : Lib.nDigits u ≤ 20 := by have := Lib.numDigits_eq u hu1 hu64; split at this <;> omega
    have hal : Tryd.prog.arrayLen 49 = 24 := by simp [Program.arrayLen, Tryd.underlying49]
    have hsl1 : ∀ W, (Instr.sliceAt 49 (.pointer (some ⟨w.heap.size, 0, none⟩)) none (some (.int .i64 (Lib.nDigits u : Int))) none).run Tryd.prog W = .ok (.slice (some ⟨w.heap.size, 0, none⟩) (Lib.nDigits u) 24) W := fun W => by
      rw [run_sliceAt_array_h W 49 ⟨w.heap.size, 0, none⟩ (by simp [Program.arrayLen, Program.elem, Tryd.underlying49]) .i64 (Lib.nDigits u : Int) (by omega) (by rw [hal]; omega)]
      go_simp
    have hH0 := Lib.holds_zero0 w 49 (Lib.nDigits u) (by omega)
    have hfmt := Tryd.internal_strconv_formatBase10 w.heap.size 0 24 u (Array.replicate (Lib.nDigits u) 0) (w.alloc (.cells Lib.zeros24 49)) hH0 (by rw [Array.size_replicate]; exact Lib.lt_pow_nDigits u) hu64 (by rw [Array.size_replicate]; omega)
    rw [Array.size_replicate] at hfmt
    have HH0 := Lib.hid hH0
    clear hH0 hal
    go_enter Tryd.func11, Tryd.ntmps11
    go_wp2_with (first
      | (go_at_call 22; refine (Tryd.internal_strconv_numDigits u hu1 hu64 _ (by first | exact htab | exact Lib.tabIs_alloc htab _)).mono ?_; rintro e w' ⟨rfl, rfl⟩)
      | (go_at_call 23; refine hfmt.mono ?_; rintro e w' ⟨rfl, k, v', dk, rfl, hF⟩; have hcv : (convert 52 9 (.slice (some ⟨w.heap.size, 0, none⟩) (Lib.nDigits u) 24)).run Tryd.prog ((putRow (fun (b : UInt8) => Value.int .u8 (b.toNat : Int)) (w.alloc (.cells Lib.zeros24 49)) w.heap.size 0 dk).drewN k) = .ok (.string ⟨(Lib.decDigits u).toArray⟩) ((putRow (fun (b : UInt8) => Value.int .u8 (b.toNat : Int)) (w.alloc (.cells Lib.zeros24 49)) w.heap.size 0 dk).drewN k) := (by
        have h := run_convert_bytes_back (P := Tryd.prog) ((putRow (fun (b : UInt8) => Value.int .u8 (b.toNat : Int)) (w.alloc (.cells Lib.zeros24 49)) w.heap.size 0 dk).drewN k) 52 9 5 ⟨w.heap.size, 0, none⟩ 24 (Lib.decDigits u) Tryd.underlying52 Tryd.underlying5 Tryd.underlying9 (fun j hj => by
          rw [Lib.row_is_numeral hF j hj, Lib.add_plain, World.cell?_drewN]
          exact cell?_putRow (fun (b : UInt8) => Value.int .u8 (b.toNat : Int)) _ w.heap.size 0 _ dk HH0.out (by rw [hF.size, Array.size_replicate]) j (by rw [hF.size]; rw [Lib.decDigits_length] at hj; exact hj))
        rw [Lib.decDigits_length] at h
        exact h)))
    go_ret
    obtain ⟨os, eo⟩ := Lib.fin_at w (.cells Lib.zeros24 49) dk k 0
    exact ⟨rfl, k, os, eo⟩
theorem below_grow (w : World) (k : Nat) (os : Array Obj) : Below w.heap.size w (grow (w.drewN k) os) :=
  ⟨rfl, rfl, rfl, by show w.heap.size ≤ (w.heap ++ os).size; rw [Array.size_append]; omega, fun g hg => Lib.heap_grow_old w k os g hg⟩
set_option maxRecDepth 100000 in
theorem outer_uint (u : Nat) (hu64 : u < 18446744073709551616) (w : World) (htab : Lib.TabIs Tryd.prog w "internal/strconv.uint64pow10" .u64 Lib.pow10Tab) :
    Calls Tryd.prog 8 #[.int .u64 u, .int .i64 10] w fun e w' => e = .returned (.string ⟨(Lib.decDigits u).toArray⟩) ∧ Below w.heap.size w w' := by
  have H := Aside0.mk (inner_uint u hu64 w htab)
  clear htab
  go_enter Tryd.func8, Tryd.ntmps8
  go_wp2_with (go_at_call 11; refine H.out.mono ?_; rintro e w1 ⟨rfl, k, os, hw⟩; have HW := Aside0.mk hw; clear hw)
  go_ret
  exact ⟨rfl, by rw [HW.out]; exact below_grow w k os⟩
set_option maxRecDepth 100000 in
theorem natural_any (u : Nat) (hu64 : u < 18446744073709551616) (w : World) (htab : Lib.TabIs Tryd.prog w "internal/strconv.uint64pow10" .u64 Lib.pow10Tab) :
    Calls Tryd.prog 5 #[.int .u64 u] w fun e w' => e = .returned (.string ⟨(Lib.decDigits u).toArray⟩) ∧ Below w.heap.size w w' := by
  have H := Aside0.mk (outer_uint u hu64 w htab)
  clear htab
  go_enter Tryd.func5, Tryd.ntmps5
  go_wp2_with (go_at_call 8; refine H.out.mono ?_; rintro e w1 ⟨rfl, hB⟩; have HB := Aside0.mk hB; clear hB)
  go_ret
  exact ⟨rfl, HB.out⟩
end Go.Proofs.YtnpkocpknmhngaaDoor.Pf
namespace Go.Proofs.YtnpkocpknmhngaaDoor.Pf
open Go.RowKit Go.Lib Go.Proofs.YtnpkocpknmhngaaDoorW.PrintWords Go.Proofs.YtnpkocpknmhngaaDoorW.PrintLast
/-- A small letter for a great one. -/
def low1 (c : Int) : Int := if 65 ≤ c ∧ c ≤ 90 then c + 32 else c
def lowU (c : UInt8) : UInt8 := if 65 ≤ c.toNat ∧ c.toNat ≤ 90 then c + 32 else c
theorem lowU_nat (c : UInt8) : ((lowU c).toNat : Int) = low1 c.toNat := by
  unfold lowU low1
  by_cases h : 65 ≤ c.toNat ∧ c.toNat ≤ 90
  · rw [if_pos h, if_pos (by omega), UInt8.toNat_add]
    show (((c.toNat + 32) % 256 : Nat) : Int) = _
    omega
  · rw [if_neg h, if_neg (by omega)]
def lowB (s : ByteArray) : ByteArray := ⟨s.data.map lowU⟩
/-- The first n cells of block g are bytes f, none of them frozen. -/
structure RowIs (W : World) (g n : Nat) (f : Nat → Int) : Prop where
  cell : ∀ j, j < n → W.cell? ⟨g, j, none⟩ = some (.int .u8 (f j))
  fr : ∀ j, j < n → W.frozen? ⟨g, j, none⟩ = false
theorem RowIs.set {W : World} {g n : Nat} {f : Nat → Int} (h : RowIs W g n f) (i : Nat) (hi : i < n) (v : Int) : RowIs (W.setCell ⟨g, i, none⟩ (.int .u8 v)) g n (fun j => if j = i then v else f j) :=
  ⟨fun j hj => by
    by_cases e : j = i
    · subst e; simp only [reduceIte]; exact cell_set_same _ _ _ _ _ (h.cell j hj)
    · simp only [if_neg e]; rw [cell_set_other _ _ _ _ _ (fun q => e q.symm)]; exact h.cell j hj,
   fun j hj => (frozen_set _ _ _ _ _).trans (h.fr j hj)⟩
theorem RowIs.congr {W : World} {g n : Nat} {f f' : Nat → Int} (h : RowIs W g n f) (he : ∀ j, j < n → f j = f' j) : RowIs W g n f' := ⟨fun j hj => by rw [h.cell j hj, he j hj], h.fr⟩
theorem row_bytes (w : World) (e : TypeId) (s : ByteArray) : RowIs (bytesWorld w e s) w.heap.size s.size (fun j => ((s.data.toList.getD j 0).toNat : Int)) :=
  ⟨fun j hj => bytesWorld_cell w e s j hj, fun j hj => by
    unfold World.frozen?
    rw [bytesWorld_at_new]
    have : s.size ≤ (bytesCells w e s).size := by
      unfold bytesCells
      rw [Array.size_append, Array.size_map]
      exact Nat.le_add_right _ _
    show (decide (_ ≤ j) && _) = false
    rw [decide_eq_false (by omega)]
    rfl⟩
set_option maxRecDepth 100000 in
set_option maxHeartbeats 2000000 in
theorem lower_any (s : ByteArray) (hs : s.size ≤ 1000000) (w : World) :
    Calls Tryd.prog 14 #[.string s] w fun e w' => e = .returned (.string (lowB s)) ∧ Below w.heap.size w w' := by
  have hcv : ∀ W, (convert 9 52 (.string s)).run Tryd.prog W = _ := fun W => Lib.run_convert_string_bytes W 9 52 5 s Tryd.underlying9 Tryd.underlying52 Tryd.underlying5
  have hu52 := Tryd.underlying52
  have HS := Aside0.mk hs
  go_enter Tryd.func14, Tryd.ntmps14
  go_wp2
  have HR := Aside0.mk (row_bytes w 5 s)
  have HB := Aside0.mk (bytesWorld_below w 5 s)
  generalize bytesWorld w 5 s = W at HR HB ⊢
  have hbt : ∀ j, 0 ≤ ((s.data.toList.getD j 0).toNat : Int) ∧ ((s.data.toList.getD j 0).toNat : Int) ≤ 255 := fun j => by have := (s.data.toList.getD j 0).toNat_lt; omega
  obtain ⟨bf, hbf⟩ : ∃ bf : Nat → Int, (fun j => ((s.data.toList.getD j 0).toNat : Int)) = bf := ⟨_, rfl⟩
  have HBT : Aside0 (∀ j, 0 ≤ bf j ∧ bf j ≤ 255) := ⟨fun j => by rw [← hbf]; exact hbt j⟩
  rw [hbf] at HR
  have HBF := Aside0.mk hbf
  clear hcv hbt hbf
  go_loopg [10] s.size (fun kq v10 w' => ∃ x : Int, v10 = .int .i64 x ∧ Aside0 (0 ≤ x ∧ x + kq = s.size) ∧ Aside0 (RowIs w' w.heap.size s.size (fun j => if (j : Int) < x then low1 (bf j) else bf j)) ∧ Aside0 (Below w.heap.size w w'))
  case atStart => exact ⟨0, rfl, ⟨by omega⟩, ⟨HR.out.congr fun j _ => by rw [if_neg (by omega)]⟩, HB⟩
  case round =>
    clear HR HB
    obtain ⟨x, rfl, HX, HR, HB⟩ := hrel
    by_cases hlt : x < s.size
    · have hltb : decide (x < (s.size : Int)) = true := decide_eq_true hlt
      have q1 := eq_true HX.out.1
      have q2 := eq_true hlt
      have cx := HR.out.cell x.toNat (by have := HX.out; omega)
      have fx := HR.out.fr x.toNat (by have := HX.out; omega)
      rw [if_neg (by have := HX.out; omega)] at cx
      have hb := HBT.out x.toNat
      have e1 : wrap64 (x + 1) = x + 1 := by unfold wrap64; have := HX.out; have := HS.out; omega
      obtain ⟨g1, rfl⟩ : ∃ g1, gk = g1 + 1 := ⟨gk - 1, by have := HX.out; omega⟩
      obtain ⟨c, hc⟩ : ∃ c, bf x.toNat = c := ⟨_, rfl⟩
      rw [hc] at cx hb
      have HC := Aside0.mk hc
      have HBB := Aside0.mk hb
      have HLT := Aside0.mk hlt
      have hnx : Aside0 (∀ j : Nat, j < s.size → (if (j : Int) < x + 1 then low1 (bf j) else bf j) = if j = x.toNat then low1 c else if (j : Int) < x then low1 (bf j) else bf j) := ⟨fun j hj => by
        by_cases e : j = x.toNat
        · subst e; rw [if_pos rfl, if_pos (by have := HX.out; omega), hc]
        · rw [if_neg e]
          by_cases h : (j : Int) < x
          · rw [if_pos h, if_pos (by omega)]
          · rw [if_neg h, if_neg (by have := HX.out; omega)]⟩
      by_cases h1 : 65 ≤ c ∧ c ≤ 90
      · have z1 : decide (65 ≤ c) = true := decide_eq_true h1.1
        have z2 : decide (c ≤ 90) = true := decide_eq_true h1.2
        have e2 : (c + 97) % 256 = c + 97 := Int.emod_eq_of_lt (by omega) (by omega)
        have e3 : (c + 32) % 256 = c + 32 := Int.emod_eq_of_lt (by omega) (by omega)
        have H1 := Aside0.mk h1
        clear h1 hc hb hlt
        go_wp2
        repeat (go_quiet (fail); go_wp2)
        go_roundg g1
        case measure => omega
        case rel => exact ⟨x + 1, by first | rfl | rw [e1], ⟨by have := HX.out; have := HLT.out; omega⟩, ⟨(HR.out.set x.toNat (by have := HX.out; have := HLT.out; omega) (c + 97 - 65)).congr fun j hj => by
            rw [hnx.out j hj]
            by_cases e : j = x.toNat
            · rw [if_pos e, if_pos e]; unfold low1; rw [if_pos H1.out]; omega
            · rw [if_neg e, if_neg e]⟩, ⟨HB.out.setCell (Nat.le_refl _) _⟩⟩
      · have hz : decide (65 ≤ c) = false ∨ decide (65 ≤ c) = true ∧ decide (c ≤ 90) = false := by
          by_cases h : 65 ≤ c
          · exact .inr ⟨decide_eq_true h, decide_eq_false (by omega)⟩
          · exact .inl (decide_eq_false h)
        have HK : Aside0 (∀ j : Nat, j < s.size → (if (j : Int) < x then low1 (bf j) else bf j) = if (j : Int) < x + 1 then low1 (bf j) else bf j) := ⟨fun j hj => by
          rw [hnx.out j hj]
          by_cases e : j = x.toNat
          · subst e; rw [if_pos rfl, if_neg (by have := HX.out; omega), hc]; unfold low1; rw [if_neg h1]
          · rw [if_neg e]⟩
        have H1 := Aside0.mk h1
        clear h1 hc hb hlt
        rcases hz with hz | ⟨hz, hz2⟩
        · go_wp2
          repeat (go_quiet (fail); go_wp2)
          go_roundg g1
          case measure => omega
          case rel => exact ⟨x + 1, by first | rfl | rw [e1], ⟨by have := HX.out; omega⟩, ⟨HR.out.congr HK.out⟩, HB⟩
        · go_wp2
          repeat (go_quiet (fail); go_wp2)
          go_roundg g1
          case measure => omega
          case rel => exact ⟨x + 1, by first | rfl | rw [e1], ⟨by have := HX.out; omega⟩, ⟨HR.out.congr HK.out⟩, HB⟩
    · have hltb : decide (x < (s.size : Int)) = false := decide_eq_false hlt
      have hcv2 : (convert 52 9 (.slice (some ⟨w.heap.size, 0, none⟩) s.size (grownCap w s.size 0 5))).run Tryd.prog wr = .ok (.string (lowB s)) wr := by
        have h := run_convert_bytes_back (P := Tryd.prog) wr 52 9 5 ⟨w.heap.size, 0, none⟩ (grownCap w s.size 0 5) (lowB s).data.toList Tryd.underlying52 Tryd.underlying5 Tryd.underlying9 (fun j hj => by
          have hj2 : j < s.size := by simpa [lowB] using hj
          rw [Lib.add_plain, Nat.zero_add, HR.out.cell j hj2, if_pos (by have := HX.out; omega)]
          congr 1
          congr 1
          rw [← HBF.out, ← lowU_nat]
          simp [lowB, List.getD, hj2])
        have hl : (lowB s).data.toList.length = s.size := by simp [lowB]
        rw [hl] at h
        exact h
      clear hlt
      go_wp2
      go_ret
      exact ⟨rfl, HB.out⟩
end Go.Proofs.YtnpkocpknmhngaaDoor.Pf
namespace Go.Proofs.YtnpkocpknmhngaaDoor.Pf
open Go.RowKit Go.Lib Go.Proofs.YtnpkocpknmhngaaDoorW.PrintWords Go.Proofs.YtnpkocpknmhngaaDoorW.PrintLast
def letterAt : Nat → UInt8 := fun f => [101, 112, 116, 103, 109, 107].getD f 0
/-- What a name stands for, f of the six letters still to come. -/
def tmFrom : Nat → List UInt8 → Int
  | 0, _ => 0
  | f + 1, l => if l = [letterAt f] ∨ l = [letterAt f, 98] then 1000 ^ (6 - f) else if l = [letterAt f, 105] ∨ l = [letterAt f, 105, 98] then 1024 ^ (6 - f) else tmFrom f l
def tmOf (l : List UInt8) : Int := if l = [] ∨ l = [98] then 1 else tmFrom 6 l
set_option maxRecDepth 100000 in
set_option maxHeartbeats 2000000 in
theorem times_any (s : ByteArray) (w : World) :
    Calls Tryd.prog 7 #[.string s] w fun e w' => e = .returned (.int .u64 (tmOf s.toList)) ∧ Below w.heap.size w w' := by
  obtain ⟨l, hl⟩ : ∃ l, s.toList = l := ⟨_, rfl⟩
  rw [hl]
  by_cases h0 : l = []
  · have z0 : l.isEmpty = true := by rw [h0]; rfl
    have H0 := Aside0.mk h0
    clear h0
    go_enter Tryd.func7, Tryd.ntmps7
    go_wp2
    go_ret
    exact ⟨by rw [H0.out]; rfl, Below.refl _ _⟩
  · have z0 : l.isEmpty = false := by cases l; exact absurd rfl h0; rfl
    by_cases h1 : l = [98]
    · have z1 : (l == [98]) = true := beq_iff_eq.mpr h1
      have H1 := Aside0.mk h1
      clear h0 h1
      go_enter Tryd.func7, Tryd.ntmps7
      go_wp2
      go_ret
      exact ⟨by rw [H1.out]; rfl, Below.refl _ _⟩
    · have z1 : (l == [98]) = false := beq_eq_false_iff_ne.mpr h1
      have HT : Aside0 (tmOf l = tmFrom 6 l) := ⟨by unfold tmOf; rw [if_neg (by intro h; rcases h with h | h; exact h0 h; exact h1 h)]⟩
      clear h0 h1
      go_enter Tryd.func7, Tryd.ntmps7
      go_wp2
      go_loopg [12] 6 (fun kq v12 w' => ∃ x : Int, v12 = .int .i64 x ∧ Aside0 (0 ≤ x) ∧ Aside0 (x + kq = 6) ∧ Aside0 (tmOf l = tmFrom kq l) ∧ Aside0 (Below w.heap.size w w'))
      case atStart => exact ⟨0, rfl, ⟨by omega⟩, ⟨by omega⟩, HT, ⟨Below.refl _ _⟩⟩
      case round =>
        clear HT
        obtain ⟨x, rfl, HN, HX, HT, HB⟩ := hrel
        cases gk with
        | zero =>
          have hx : x = 6 := by have := HX.out; omega
          subst hx
          go_wp2
          go_ret
          exact ⟨by rw [HT.out]; rfl, HB.out⟩
        | succ f =>
          have hf : f = 0 ∨ f = 1 ∨ f = 2 ∨ f = 3 ∨ f = 4 ∨ f = 5 := by have := HX.out; have := HN.out; omega
          rcases hf with rfl | rfl | rfl | rfl | rfl | rfl
          · have hx : x = 5 := by have := HX.out; omega
            subst hx
            go_wp2
            refine wp_loop_rounds 7 ?_
            rw [rounds_succ]
            go_wp2
            rw [rounds_succ]
            go_wp2
            rw [rounds_succ]
            go_wp2
            rw [rounds_succ]
            go_wp2
            rw [rounds_succ]
            go_wp2
            rw [rounds_succ]
            go_wp2
            rw [rounds_succ]
            go_upto_region 12 with (fail)
            have ht : tmOf l = if l = [101] ∨ l = [101, 98] then 1000 ^ 6 else if l = [101, 105] ∨ l = [101, 105, 98] then 1024 ^ 6 else tmFrom 0 l := HT.out
            have HT2 := Aside0.mk ht
            clear ht
            have f1 : (({ data := #[107, 109, 103, 116, 112, 101] } : ByteArray).extract 5 6).toList = [101] := by kernel_rfl
            have f2 : (({ data := #[107, 109, 103, 116, 112, 101] } : ByteArray).extract 5 6 ++ { data := #[98] }).toList = [101, 98] := by kernel_rfl
            have f3 : (({ data := #[107, 109, 103, 116, 112, 101] } : ByteArray).extract 5 6 ++ { data := #[105] }).toList = [101, 105] := by kernel_rfl
            have f4 : (({ data := #[107, 109, 103, 116, 112, 101] } : ByteArray).extract 5 6 ++ { data := #[105, 98] }).toList = [101, 105, 98] := by kernel_rfl
            by_cases a1 : l = [101]
            · have z2 : (l == (({ data := #[107, 109, 103, 116, 112, 101] } : ByteArray).extract 5 6).toList) = true := by rw [f1]; exact beq_iff_eq.mpr a1
              have ht3 : tmOf l = 1000000000000000000 := by rw [HT2.out, if_pos (.inl a1)]; decide
              have HT3 := Aside0.mk ht3
              clear ht3 a1 f1 f2 f3 f4
              go_wp2
              go_ret
              exact ⟨by rw [HT3.out]; rfl, HB.out.alloc HB.out.size _⟩
            · have z2 : (l == (({ data := #[107, 109, 103, 116, 112, 101] } : ByteArray).extract 5 6).toList) = false := by rw [f1]; exact beq_eq_false_iff_ne.mpr a1
              by_cases a2 : l = [101, 98]
              · have z3 : (l == (({ data := #[107, 109, 103, 116, 112, 101] } : ByteArray).extract 5 6 ++ { data := #[98] }).toList) = true := by rw [f2]; exact beq_iff_eq.mpr a2
                have ht3 : tmOf l = 1000000000000000000 := by rw [HT2.out, if_pos (.inr a2)]; decide
                have HT3 := Aside0.mk ht3
                clear ht3 a1 a2 f1 f2 f3 f4
                go_wp2
                go_ret
                exact ⟨by rw [HT3.out]; rfl, HB.out.alloc HB.out.size _⟩
              · have z3 : (l == (({ data := #[107, 109, 103, 116, 112, 101] } : ByteArray).extract 5 6 ++ { data := #[98] }).toList) = false := by rw [f2]; exact beq_eq_false_iff_ne.mpr a2
                by_cases a3 : l = [101, 105]
                · have z4 : (l == (({ data := #[107, 109, 103, 116, 112, 101] } : ByteArray).extract 5 6 ++ { data := #[105] }).toList) = true := by rw [f3]; exact beq_iff_eq.mpr a3
                  have ht3 : tmOf l = 1152921504606846976 := by rw [HT2.out, if_neg (by intro h; rcases h with h | h; exact a1 h; exact a2 h), if_pos (.inl a3)]; decide
                  have HT3 := Aside0.mk ht3
                  clear ht3 a1 a2 a3 f1 f2 f3 f4
                  go_wp2
                  go_ret
                  exact ⟨by rw [HT3.out]; rfl, HB.out.alloc HB.out.size _⟩
                · have z4 : (l == (({ data := #[107, 109, 103, 116, 112, 101] } : ByteArray).extract 5 6 ++ { data := #[105] }).toList) = false := by rw [f3]; exact beq_eq_false_iff_ne.mpr a3
                  by_cases a4 : l = [101, 105, 98]
                  · have z5 : (l == (({ data := #[107, 109, 103, 116, 112, 101] } : ByteArray).extract 5 6 ++ { data := #[105, 98] }).toList) = true := by rw [f4]; exact beq_iff_eq.mpr a4
                    have ht3 : tmOf l = 1152921504606846976 := by rw [HT2.out, if_neg (by intro h; rcases h with h | h; exact a1 h; exact a2 h), if_pos (.inr a4)]; decide
                    have HT3 := Aside0.mk ht3
                    clear ht3 a1 a2 a3 a4 f1 f2 f3 f4
                    go_wp2
                    go_ret
                    exact ⟨by rw [HT3.out]; rfl, HB.out.alloc HB.out.size _⟩
                  · have z5 : (l == (({ data := #[107, 109, 103, 116, 112, 101] } : ByteArray).extract 5 6 ++ { data := #[105, 98] }).toList) = false := by rw [f4]; exact beq_eq_false_iff_ne.mpr a4
                    have HA := Aside0.mk (And.intro a1 (And.intro a2 (And.intro a3 a4)))
                    clear a1 a2 a3 a4 f1 f2 f3 f4
                    go_wp2
                    go_roundg 0
                    case measure => omega
                    case rel => exact ⟨6, by first | rfl | (simp; done), ⟨by decide⟩, ⟨by decide⟩, ⟨by rw [HT2.out, if_neg (by intro h; rcases h with h | h; exact HA.out.1 h; exact HA.out.2.1 h), if_neg (by intro h; rcases h with h | h; exact HA.out.2.2.1 h; exact HA.out.2.2.2 h)]⟩, ⟨HB.out.alloc HB.out.size _⟩⟩
          · have hx : x = 4 := by have := HX.out; omega
            subst hx
            go_wp2
            refine wp_loop_rounds 6 ?_
            rw [rounds_succ]
            go_wp2
            rw [rounds_succ]
            go_wp2
            rw [rounds_succ]
            go_wp2
            rw [rounds_succ]
            go_wp2
            rw [rounds_succ]
            go_wp2
            rw [rounds_succ]
            go_upto_region 12 with (fail)
            have ht : tmOf l = if l = [112] ∨ l = [112, 98] then 1000 ^ 5 else if l = [112, 105] ∨ l = [112, 105, 98] then 1024 ^ 5 else tmFrom 1 l := HT.out
            have HT2 := Aside0.mk ht
            clear ht
            have f1 : (({ data := #[107, 109, 103, 116, 112, 101] } : ByteArray).extract 4 5).toList = [112] := by kernel_rfl
            have f2 : (({ data := #[107, 109, 103, 116, 112, 101] } : ByteArray).extract 4 5 ++ { data := #[98] }).toList = [112, 98] := by kernel_rfl
            have f3 : (({ data := #[107, 109, 103, 116, 112, 101] } : ByteArray).extract 4 5 ++ { data := #[105] }).toList = [112, 105] := by kernel_rfl
            have f4 : (({ data := #[107, 109, 103, 116, 112, 101] } : ByteArray).extract 4 5 ++ { data := #[105, 98] }).toList = [112, 105, 98] := by kernel_rfl
            by_cases a1 : l = [112]
            · have z2 : (l == (({ data := #[107, 109, 103, 116, 112, 101] } : ByteArray).extract 4 5).toList) = true := by rw [f1]; exact beq_iff_eq.mpr a1
              have ht3 : tmOf l = 1000000000000000 := by rw [HT2.out, if_pos (.inl a1)]; decide
              have HT3 := Aside0.mk ht3
              clear ht3 a1 f1 f2 f3 f4
              go_wp2
              go_ret
              exact ⟨by rw [HT3.out]; rfl, HB.out.alloc HB.out.size _⟩
            · have z2 : (l == (({ data := #[107, 109, 103, 116, 112, 101] } : ByteArray).extract 4 5).toList) = false := by rw [f1]; exact beq_eq_false_iff_ne.mpr a1
              by_cases a2 : l = [112, 98]
              · have z3 : (l == (({ data := #[107, 109, 103, 116, 112, 101] } : ByteArray).extract 4 5 ++ { data := #[98] }).toList) = true := by rw [f2]; exact beq_iff_eq.mpr a2
                have ht3 : tmOf l = 1000000000000000 := by rw [HT2.out, if_pos (.inr a2)]; decide
                have HT3 := Aside0.mk ht3
                clear ht3 a1 a2 f1 f2 f3 f4
                go_wp2
                go_ret
                exact ⟨by rw [HT3.out]; rfl, HB.out.alloc HB.out.size _⟩
              · have z3 : (l == (({ data := #[107, 109, 103, 116, 112, 101] } : ByteArray).extract 4 5 ++ { data := #[98] }).toList) = false := by rw [f2]; exact beq_eq_false_iff_ne.mpr a2
                by_cases a3 : l = [112, 105]
                · have z4 : (l == (({ data := #[107, 109, 103, 116, 112, 101] } : ByteArray).extract 4 5 ++ { data := #[105] }).toList) = true := by rw [f3]; exact beq_iff_eq.mpr a3
                  have ht3 : tmOf l = 1125899906842624 := by rw [HT2.out, if_neg (by intro h; rcases h with h | h; exact a1 h; exact a2 h), if_pos (.inl a3)]; decide
                  have HT3 := Aside0.mk ht3
                  clear ht3 a1 a2 a3 f1 f2 f3 f4
                  go_wp2
                  go_ret
                  exact ⟨by rw [HT3.out]; rfl, HB.out.alloc HB.out.size _⟩
                · have z4 : (l == (({ data := #[107, 109, 103, 116, 112, 101] } : ByteArray).extract 4 5 ++ { data := #[105] }).toList) = false := by rw [f3]; exact beq_eq_false_iff_ne.mpr a3
                  by_cases a4 : l = [112, 105, 98]
                  · have z5 : (l == (({ data := #[107, 109, 103, 116, 112, 101] } : ByteArray).extract 4 5 ++ { data := #[105, 98] }).toList) = true := by rw [f4]; exact beq_iff_eq.mpr a4
                    have ht3 : tmOf l = 1125899906842624 := by rw [HT2.out, if_neg (by intro h; rcases h with h | h; exact a1 h; exact a2 h), if_pos (.inr a4)]; decide
                    have HT3 := Aside0.mk ht3
                    clear ht3 a1 a2 a3 a4 f1 f2 f3 f4
                    go_wp2
                    go_ret
                    exact ⟨by rw [HT3.out]; rfl, HB.out.alloc HB.out.size _⟩
                  · have z5 : (l == (({ data := #[107, 109, 103, 116, 112, 101] } : ByteArray).extract 4 5 ++ { data := #[105, 98] }).toList) = false := by rw [f4]; exact beq_eq_false_iff_ne.mpr a4
                    have HA := Aside0.mk (And.intro a1 (And.intro a2 (And.intro a3 a4)))
                    clear a1 a2 a3 a4 f1 f2 f3 f4
                    go_wp2
                    go_roundg 1
                    case measure => omega
                    case rel => exact ⟨5, by first | rfl | (simp; done), ⟨by decide⟩, ⟨by decide⟩, ⟨by rw [HT2.out, if_neg (by intro h; rcases h with h | h; exact HA.out.1 h; exact HA.out.2.1 h), if_neg (by intro h; rcases h with h | h; exact HA.out.2.2.1 h; exact HA.out.2.2.2 h)]⟩, ⟨HB.out.alloc HB.out.size _⟩⟩
          · have hx : x = 3 := by have := HX.out; omega
            subst hx
            go_wp2
            refine wp_loop_rounds 5 ?_
            rw [rounds_succ]
            go_wp2
            rw [rounds_succ]
            go_wp2
            rw [rounds_succ]
            go_wp2
            rw [rounds_succ]
            go_wp2
            rw [rounds_succ]
            go_upto_region 12 with (fail)
            have ht : tmOf l = if l = [116] ∨ l = [116, 98] then 1000 ^ 4 else if l = [116, 105] ∨ l = [116, 105, 98] then 1024 ^ 4 else tmFrom 2 l := HT.out
            have HT2 := Aside0.mk ht
            clear ht
            have f1 : (({ data := #[107, 109, 103, 116, 112, 101] } : ByteArray).extract 3 4).toList = [116] := by kernel_rfl
            have f2 : (({ data := #[107, 109, 103, 116, 112, 101] } : ByteArray).extract 3 4 ++ { data := #[98] }).toList = [116, 98] := by kernel_rfl
            have f3 : (({ data := #[107, 109, 103, 116, 112, 101] } : ByteArray).extract 3 4 ++ { data := #[105] }).toList = [116, 105] := by kernel_rfl
            have f4 : (({ data := #[107, 109, 103, 116, 112, 101] } : ByteArray).extract 3 4 ++ { data := #[105, 98] }).toList = [116, 105, 98] := by kernel_rfl
            by_cases a1 : l = [116]
            · have z2 : (l == (({ data := #[107, 109, 103, 116, 112, 101] } : ByteArray).extract 3 4).toList) = true := by rw [f1]; exact beq_iff_eq.mpr a1
              have ht3 : tmOf l = 1000000000000 := by rw [HT2.out, if_pos (.inl a1)]; decide
              have HT3 := Aside0.mk ht3
              clear ht3 a1 f1 f2 f3 f4
              go_wp2
              go_ret
              exact ⟨by rw [HT3.out]; rfl, HB.out.alloc HB.out.size _⟩
            · have z2 : (l == (({ data := #[107, 109, 103, 116, 112, 101] } : ByteArray).extract 3 4).toList) = false := by rw [f1]; exact beq_eq_false_iff_ne.mpr a1
              by_cases a2 : l = [116, 98]
              · have z3 : (l == (({ data := #[107, 109, 103, 116, 112, 101] } : ByteArray).extract 3 4 ++ { data := #[98] }).toList) = true := by rw [f2]; exact beq_iff_eq.mpr a2
                have ht3 : tmOf l = 1000000000000 := by rw [HT2.out, if_pos (.inr a2)]; decide
                have HT3 := Aside0.mk ht3
                clear ht3 a1 a2 f1 f2 f3 f4
                go_wp2
                go_ret
                exact ⟨by rw [HT3.out]; rfl, HB.out.alloc HB.out.size _⟩
              · have z3 : (l == (({ data := #[107, 109, 103, 116, 112, 101] } : ByteArray).extract 3 4 ++ { data := #[98] }).toList) = false := by rw [f2]; exact beq_eq_false_iff_ne.mpr a2
                by_cases a3 : l = [116, 105]
                · have z4 : (l == (({ data := #[107, 109, 103, 116, 112, 101] } : ByteArray).extract 3 4 ++ { data := #[105] }).toList) = true := by rw [f3]; exact beq_iff_eq.mpr a3
                  have ht3 : tmOf l = 1099511627776 := by rw [HT2.out, if_neg (by intro h; rcases h with h | h; exact a1 h; exact a2 h), if_pos (.inl a3)]; decide
                  have HT3 := Aside0.mk ht3
                  clear ht3 a1 a2 a3 f1 f2 f3 f4
                  go_wp2
                  go_ret
                  exact ⟨by rw [HT3.out]; rfl, HB.out.alloc HB.out.size _⟩
                · have z4 : (l == (({ data := #[107, 109, 103, 116, 112, 101] } : ByteArray).extract 3 4 ++ { data := #[105] }).toList) = false := by rw [f3]; exact beq_eq_false_iff_ne.mpr a3
                  by_cases a4 : l = [116, 105, 98]
                  · have z5 : (l == (({ data := #[107, 109, 103, 116, 112, 101] } : ByteArray).extract 3 4 ++ { data := #[105, 98] }).toList) = true := by rw [f4]; exact beq_iff_eq.mpr a4
                    have ht3 : tmOf l = 1099511627776 := by rw [HT2.out, if_neg (by intro h; rcases h with h | h; exact a1 h; exact a2 h), if_pos (.inr a4)]; decide
                    have HT3 := Aside0.mk ht3
                    clear ht3 a1 a2 a3 a4 f1 f2 f3 f4
                    go_wp2
                    go_ret
                    exact ⟨by rw [HT3.out]; rfl, HB.out.alloc HB.out.size _⟩
                  · have z5 : (l == (({ data := #[107, 109, 103, 116, 112, 101] } : ByteArray).extract 3 4 ++ { data := #[105, 98] }).toList) = false := by rw [f4]; exact beq_eq_false_iff_ne.mpr a4
                    have HA := Aside0.mk (And.intro a1 (And.intro a2 (And.intro a3 a4)))
                    clear a1 a2 a3 a4 f1 f2 f3 f4
                    go_wp2
                    go_roundg 2
                    case measure => omega
                    case rel => exact ⟨4, by first | rfl | (simp; done), ⟨by decide⟩, ⟨by decide⟩, ⟨by rw [HT2.out, if_neg (by intro h; rcases h with h | h; exact HA.out.1 h; exact HA.out.2.1 h), if_neg (by intro h; rcases h with h | h; exact HA.out.2.2.1 h; exact HA.out.2.2.2 h)]⟩, ⟨HB.out.alloc HB.out.size _⟩⟩
          · have hx : x = 2 := by have := HX.out; omega
            subst hx
            go_wp2
            refine wp_loop_rounds 4 ?_
            rw [rounds_succ]
            go_wp2
            rw [rounds_succ]
            go_wp2
            rw [rounds_succ]
            go_wp2
            rw [rounds_succ]
            go_upto_region 12 with (fail)
            have ht : tmOf l = if l = [103] ∨ l = [103, 98] then 1000 ^ 3 else if l = [103, 105] ∨ l = [103, 105, 98] then 1024 ^ 3 else tmFrom 3 l := HT.out
            have HT2 := Aside0.mk ht
            clear ht
            have f1 : (({ data := #[107, 109, 103, 116, 112, 101] } : ByteArray).extract 2 3).toList = [103] := by kernel_rfl
            have f2 : (({ data := #[107, 109, 103, 116, 112, 101] } : ByteArray).extract 2 3 ++ { data := #[98] }).toList = [103, 98] := by kernel_rfl
            have f3 : (({ data := #[107, 109, 103, 116, 112, 101] } : ByteArray).extract 2 3 ++ { data := #[105] }).toList = [103, 105] := by kernel_rfl
            have f4 : (({ data := #[107, 109, 103, 116, 112, 101] } : ByteArray).extract 2 3 ++ { data := #[105, 98] }).toList = [103, 105, 98] := by kernel_rfl
            by_cases a1 : l = [103]
            · have z2 : (l == (({ data := #[107, 109, 103, 116, 112, 101] } : ByteArray).extract 2 3).toList) = true := by rw [f1]; exact beq_iff_eq.mpr a1
              have ht3 : tmOf l = 1000000000 := by rw [HT2.out, if_pos (.inl a1)]; decide
              have HT3 := Aside0.mk ht3
              clear ht3 a1 f1 f2 f3 f4
              go_wp2
              go_ret
              exact ⟨by rw [HT3.out]; rfl, HB.out.alloc HB.out.size _⟩
            · have z2 : (l == (({ data := #[107, 109, 103, 116, 112, 101] } : ByteArray).extract 2 3).toList) = false := by rw [f1]; exact beq_eq_false_iff_ne.mpr a1
              by_cases a2 : l = [103, 98]
              · have z3 : (l == (({ data := #[107, 109, 103, 116, 112, 101] } : ByteArray).extract 2 3 ++ { data := #[98] }).toList) = true := by rw [f2]; exact beq_iff_eq.mpr a2
                have ht3 : tmOf l = 1000000000 := by rw [HT2.out, if_pos (.inr a2)]; decide
                have HT3 := Aside0.mk ht3
                clear ht3 a1 a2 f1 f2 f3 f4
                go_wp2
                go_ret
                exact ⟨by rw [HT3.out]; rfl, HB.out.alloc HB.out.size _⟩
              · have z3 : (l == (({ data := #[107, 109, 103, 116, 112, 101] } : ByteArray).extract 2 3 ++ { data := #[98] }).toList) = false := by rw [f2]; exact beq_eq_false_iff_ne.mpr a2
                by_cases a3 : l = [103, 105]
                · have z4 : (l == (({ data := #[107, 109, 103, 116, 112, 101] } : ByteArray).extract 2 3 ++ { data := #[105] }).toList) = true := by rw [f3]; exact beq_iff_eq.mpr a3
                  have ht3 : tmOf l = 1073741824 := by rw [HT2.out, if_neg (by intro h; rcases h with h | h; exact a1 h; exact a2 h), if_pos (.inl a3)]; decide
                  have HT3 := Aside0.mk ht3
                  clear ht3 a1 a2 a3 f1 f2 f3 f4
                  go_wp2
                  go_ret
                  exact ⟨by rw [HT3.out]; rfl, HB.out.alloc HB.out.size _⟩
                · have z4 : (l == (({ data := #[107, 109, 103, 116, 112, 101] } : ByteArray).extract 2 3 ++ { data := #[105] }).toList) = false := by rw [f3]; exact beq_eq_false_iff_ne.mpr a3
                  by_cases a4 : l = [103, 105, 98]
                  · have z5 : (l == (({ data := #[107, 109, 103, 116, 112, 101] } : ByteArray).extract 2 3 ++ { data := #[105, 98] }).toList) = true := by rw [f4]; exact beq_iff_eq.mpr a4
                    have ht3 : tmOf l = 1073741824 := by rw [HT2.out, if_neg (by intro h; rcases h with h | h; exact a1 h; exact a2 h), if_pos (.inr a4)]; decide
                    have HT3 := Aside0.mk ht3
                    clear ht3 a1 a2 a3 a4 f1 f2 f3 f4
                    go_wp2
                    go_ret
                    exact ⟨by rw [HT3.out]; rfl, HB.out.alloc HB.out.size _⟩
                  · have z5 : (l == (({ data := #[107, 109, 103, 116, 112, 101] } : ByteArray).extract 2 3 ++ { data := #[105, 98] }).toList) = false := by rw [f4]; exact beq_eq_false_iff_ne.mpr a4
                    have HA := Aside0.mk (And.intro a1 (And.intro a2 (And.intro a3 a4)))
                    clear a1 a2 a3 a4 f1 f2 f3 f4
                    go_wp2
                    go_roundg 3
                    case measure => omega
                    case rel => exact ⟨3, by first | rfl | (simp; done), ⟨by decide⟩, ⟨by decide⟩, ⟨by rw [HT2.out, if_neg (by intro h; rcases h with h | h; exact HA.out.1 h; exact HA.out.2.1 h), if_neg (by intro h; rcases h with h | h; exact HA.out.2.2.1 h; exact HA.out.2.2.2 h)]⟩, ⟨HB.out.alloc HB.out.size _⟩⟩
          · have hx : x = 1 := by have := HX.out; omega
            subst hx
            go_wp2
            refine wp_loop_rounds 3 ?_
            rw [rounds_succ]
            go_wp2
            rw [rounds_succ]
            go_wp2
            rw [rounds_succ]
            go_upto_region 12 with (fail)
            have ht : tmOf l = if l = [109] ∨ l = [109, 98] then 1000 ^ 2 else if l = [109, 105] ∨ l = [109, 105, 98] then 1024 ^ 2 else tmFrom 4 l := HT.out
            have HT2 := Aside0.mk ht
            clear ht
            have f1 : (({ data := #[107, 109, 103, 116, 112, 101] } : ByteArray).extract 1 2).toList = [109] := by kernel_rfl
            have f2 : (({ data := #[107, 109, 103, 116, 112, 101] } : ByteArray).extract 1 2 ++ { data := #[98] }).toList = [109, 98] := by kernel_rfl
            have f3 : (({ data := #[107, 109, 103, 116, 112, 101] } : ByteArray).extract 1 2 ++ { data := #[105] }).toList = [109, 105] := by kernel_rfl
            have f4 : (({ data := #[107, 109, 103, 116, 112, 101] } : ByteArray).extract 1 2 ++ { data := #[105, 98] }).toList = [109, 105, 98] := by kernel_rfl
            by_cases a1 : l = [109]
            · have z2 : (l == (({ data := #[107, 109, 103, 116, 112, 101] } : ByteArray).extract 1 2).toList) = true := by rw [f1]; exact beq_iff_eq.mpr a1
              have ht3 : tmOf l = 1000000 := by rw [HT2.out, if_pos (.inl a1)]; decide
              have HT3 := Aside0.mk ht3
              clear ht3 a1 f1 f2 f3 f4
              go_wp2
              go_ret
              exact ⟨by rw [HT3.out]; rfl, HB.out.alloc HB.out.size _⟩
            · have z2 : (l == (({ data := #[107, 109, 103, 116, 112, 101] } : ByteArray).extract 1 2).toList) = false := by rw [f1]; exact beq_eq_false_iff_ne.mpr a1
              by_cases a2 : l = [109, 98]
              · have z3 : (l == (({ data := #[107, 109, 103, 116, 112, 101] } : ByteArray).extract 1 2 ++ { data := #[98] }).toList) = true := by rw [f2]; exact beq_iff_eq.mpr a2
                have ht3 : tmOf l = 1000000 := by rw [HT2.out, if_pos (.inr a2)]; decide
                have HT3 := Aside0.mk ht3
                clear ht3 a1 a2 f1 f2 f3 f4
                go_wp2
                go_ret
                exact ⟨by rw [HT3.out]; rfl, HB.out.alloc HB.out.size _⟩
              · have z3 : (l == (({ data := #[107, 109, 103, 116, 112, 101] } : ByteArray).extract 1 2 ++ { data := #[98] }).toList) = false := by rw [f2]; exact beq_eq_false_iff_ne.mpr a2
                by_cases a3 : l = [109, 105]
                · have z4 : (l == (({ data := #[107, 109, 103, 116, 112, 101] } : ByteArray).extract 1 2 ++ { data := #[105] }).toList) = true := by rw [f3]; exact beq_iff_eq.mpr a3
                  have ht3 : tmOf l = 1048576 := by rw [HT2.out, if_neg (by intro h; rcases h with h | h; exact a1 h; exact a2 h), if_pos (.inl a3)]; decide
                  have HT3 := Aside0.mk ht3
                  clear ht3 a1 a2 a3 f1 f2 f3 f4
                  go_wp2
                  go_ret
                  exact ⟨by rw [HT3.out]; rfl, HB.out.alloc HB.out.size _⟩
                · have z4 : (l == (({ data := #[107, 109, 103, 116, 112, 101] } : ByteArray).extract 1 2 ++ { data := #[105] }).toList) = false := by rw [f3]; exact beq_eq_false_iff_ne.mpr a3
                  by_cases a4 : l = [109, 105, 98]
                  · have z5 : (l == (({ data := #[107, 109, 103, 116, 112, 101] } : ByteArray).extract 1 2 ++ { data := #[105, 98] }).toList) = true := by rw [f4]; exact beq_iff_eq.mpr a4
                    have ht3 : tmOf l = 1048576 := by rw [HT2.out, if_neg (by intro h; rcases h with h | h; exact a1 h; exact a2 h), if_pos (.inr a4)]; decide
                    have HT3 := Aside0.mk ht3
                    clear ht3 a1 a2 a3 a4 f1 f2 f3 f4
                    go_wp2
                    go_ret
                    exact ⟨by rw [HT3.out]; rfl, HB.out.alloc HB.out.size _⟩
                  · have z5 : (l == (({ data := #[107, 109, 103, 116, 112, 101] } : ByteArray).extract 1 2 ++ { data := #[105, 98] }).toList) = false := by rw [f4]; exact beq_eq_false_iff_ne.mpr a4
                    have HA := Aside0.mk (And.intro a1 (And.intro a2 (And.intro a3 a4)))
                    clear a1 a2 a3 a4 f1 f2 f3 f4
                    go_wp2
                    go_roundg 4
                    case measure => omega
                    case rel => exact ⟨2, by first | rfl | (simp; done), ⟨by decide⟩, ⟨by decide⟩, ⟨by rw [HT2.out, if_neg (by intro h; rcases h with h | h; exact HA.out.1 h; exact HA.out.2.1 h), if_neg (by intro h; rcases h with h | h; exact HA.out.2.2.1 h; exact HA.out.2.2.2 h)]⟩, ⟨HB.out.alloc HB.out.size _⟩⟩
          · have hx : x = 0 := by have := HX.out; omega
            subst hx
            go_wp2
            refine wp_loop_rounds 2 ?_
            rw [rounds_succ]
            go_wp2
            rw [rounds_succ]
            go_upto_region 12 with (fail)
            have ht : tmOf l = if l = [107] ∨ l = [107, 98] then 1000 ^ 1 else if l = [107, 105] ∨ l = [107, 105, 98] then 1024 ^ 1 else tmFrom 5 l := HT.out
            have HT2 := Aside0.mk ht
            clear ht
            have f1 : (({ data := #[107, 109, 103, 116, 112, 101] } : ByteArray).extract 0 1).toList = [107] := by kernel_rfl
            have f2 : (({ data := #[107, 109, 103, 116, 112, 101] } : ByteArray).extract 0 1 ++ { data := #[98] }).toList = [107, 98] := by kernel_rfl
            have f3 : (({ data := #[107, 109, 103, 116, 112, 101] } : ByteArray).extract 0 1 ++ { data := #[105] }).toList = [107, 105] := by kernel_rfl
            have f4 : (({ data := #[107, 109, 103, 116, 112, 101] } : ByteArray).extract 0 1 ++ { data := #[105, 98] }).toList = [107, 105, 98] := by kernel_rfl
            by_cases a1 : l = [107]
            · have z2 : (l == (({ data := #[107, 109, 103, 116, 112, 101] } : ByteArray).extract 0 1).toList) = true := by rw [f1]; exact beq_iff_eq.mpr a1
              have ht3 : tmOf l = 1000 := by rw [HT2.out, if_pos (.inl a1)]; decide
              have HT3 := Aside0.mk ht3
              clear ht3 a1 f1 f2 f3 f4
              go_wp2
              go_ret
              exact ⟨by rw [HT3.out]; rfl, HB.out.alloc HB.out.size _⟩
            · have z2 : (l == (({ data := #[107, 109, 103, 116, 112, 101] } : ByteArray).extract 0 1).toList) = false := by rw [f1]; exact beq_eq_false_iff_ne.mpr a1
              by_cases a2 : l = [107, 98]
              · have z3 : (l == (({ data := #[107, 109, 103, 116, 112, 101] } : ByteArray).extract 0 1 ++ { data := #[98] }).toList) = true := by rw [f2]; exact beq_iff_eq.mpr a2
                have ht3 : tmOf l = 1000 := by rw [HT2.out, if_pos (.inr a2)]; decide
                have HT3 := Aside0.mk ht3
                clear ht3 a1 a2 f1 f2 f3 f4
                go_wp2
                go_ret
                exact ⟨by rw [HT3.out]; rfl, HB.out.alloc HB.out.size _⟩
              · have z3 : (l == (({ data := #[107, 109, 103, 116, 112, 101] } : ByteArray).extract 0 1 ++ { data := #[98] }).toList) = false := by rw [f2]; exact beq_eq_false_iff_ne.mpr a2
                by_cases a3 : l = [107, 105]
                · have z4 : (l == (({ data := #[107, 109, 103, 116, 112, 101] } : ByteArray).extract 0 1 ++ { data := #[105] }).toList) = true := by rw [f3]; exact beq_iff_eq.mpr a3
                  have ht3 : tmOf l = 1024 := by rw [HT2.out, if_neg (by intro h; rcases h with h | h; exact a1 h; exact a2 h), if_pos (.inl a3)]; decide
                  have HT3 := Aside0.mk ht3
                  clear ht3 a1 a2 a3 f1 f2 f3 f4
                  go_wp2
                  go_ret
                  exact ⟨by rw [HT3.out]; rfl, HB.out.alloc HB.out.size _⟩
                · have z4 : (l == (({ data := #[107, 109, 103, 116, 112, 101] } : ByteArray).extract 0 1 ++ { data := #[105] }).toList) = false := by rw [f3]; exact beq_eq_false_iff_ne.mpr a3
                  by_cases a4 : l = [107, 105, 98]
                  · have z5 : (l == (({ data := #[107, 109, 103, 116, 112, 101] } : ByteArray).extract 0 1 ++ { data := #[105, 98] }).toList) = true := by rw [f4]; exact beq_iff_eq.mpr a4
                    have ht3 : tmOf l = 1024 := by rw [HT2.out, if_neg (by intro h; rcases h with h | h; exact a1 h; exact a2 h), if_pos (.inr a4)]; decide
                    have HT3 := Aside0.mk ht3
                    clear ht3 a1 a2 a3 a4 f1 f2 f3 f4
                    go_wp2
                    go_ret
                    exact ⟨by rw [HT3.out]; rfl, HB.out.alloc HB.out.size _⟩
                  · have z5 : (l == (({ data := #[107, 109, 103, 116, 112, 101] } : ByteArray).extract 0 1 ++ { data := #[105, 98] }).toList) = false := by rw [f4]; exact beq_eq_false_iff_ne.mpr a4
                    have HA := Aside0.mk (And.intro a1 (And.intro a2 (And.intro a3 a4)))
                    clear a1 a2 a3 a4 f1 f2 f3 f4
                    go_wp2
                    go_roundg 5
                    case measure => omega
                    case rel => exact ⟨1, by first | rfl | (simp; done), ⟨by decide⟩, ⟨by decide⟩, ⟨by rw [HT2.out, if_neg (by intro h; rcases h with h | h; exact HA.out.1 h; exact HA.out.2.1 h), if_neg (by intro h; rcases h with h | h; exact HA.out.2.2.1 h; exact HA.out.2.2.2 h)]⟩, ⟨HB.out.alloc HB.out.size _⟩⟩
end Go.Proofs.YtnpkocpknmhngaaDoor.Pf
namespace Go.Proofs.YtnpkocpknmhngaaDoor.Pf
open Go.RowKit Go.Lib Go.Proofs.YtnpkocpknmhngaaDoorW.PrintWords Go.Proofs.YtnpkocpknmhngaaDoorW.PrintLast Go.Proofs.YtnpkocpknmhngaaDoor.PPb
/-- An error is told. -/
def ErrOnly (r : Ending) : Prop := ∃ (t : TypeId) (a : Addr), r = .returned (.iface t (.pointer (some a)))
set_option maxRecDepth 100000 in
theorem new_any (s : ByteArray) (w : World) :
    Calls Tryd.prog 20 #[.string s] w fun r w' => ErrOnly r ∧ Below w.heap.size w w' := by
  go_enter Tryd.func20, Tryd.ntmps20
  go_wp2
  go_ret
  exact ⟨⟨_, _, rfl⟩, (Below.refl _ _).alloc (Nat.le_refl _) _⟩
/-- What ParseBytes tells: a number, or an error. -/
def PbOut (v : Option Int) (r : Ending) : Prop := match v with
  | some n => r = .returned (.tuple #[.int .u64 n, .nilIface])
  | none => ∃ (t : TypeId) (a : Addr), r = .returned (.tuple #[.int .u64 0, .iface t (.pointer (some a))])
theorem mk_size (l : List UInt8) : (⟨l.toArray⟩ : ByteArray).size = l.length := by simp [ByteArray.size]
theorem mul_any (n m : Nat) (hn : n < 18446744073709551616) (hm : m < 18446744073709551616) : ∃ Q R : Int, (∀ W : World, Calls Tryd.prog 19 #[.int .u64 n, .int .u64 m] W fun e w' => e = .returned (.tuple #[.int .u64 Q, .int .u64 R]) ∧ w' = W) ∧ (n * m < 18446744073709551616 → Q = 0 ∧ R = ((n * m : Nat) : Int)) ∧ (¬ n * m < 18446744073709551616 → Q ≠ 0) := by
  refine ⟨_, _, fun W => Tryd.bits_Mul64 n m hn hm W, fun h => ⟨?_, ?_⟩, fun h => ?_⟩
  · rw [Nat.div_eq_of_lt h]; rfl
  · rw [Nat.mod_eq_of_lt h]
  · omega
theorem take_has (a : List UInt8) (p : Nat) (h : p < a.length) : (a.take (p + 1)).contains 44 = ((a.take p).contains 44 || (44 == a[p])) := by
  rw [List.take_add_one, List.getElem?_eq_getElem h]
  simp only [Option.toList_some, List.contains_eq_any_beq, List.any_append, List.any_cons, List.any_nil, Bool.or_false]
set_option maxRecDepth 100000 in
set_option maxHeartbeats 4000000 in
theorem bytes_any (a b : List UInt8) (ha : ∀ x ∈ a, x = 44 ∨ 48 ≤ x.toNat ∧ x.toNat ≤ 57) (hb : ∀ x ∈ b, x.toNat < 128) (hb0 : ∀ x, b.head? = some x → (x.toNat < 48 ∨ 57 < x.toNat) ∧ x.toNat ≠ 46 ∧ x.toNat ≠ 44) (hlen : a.length + b.length ≤ 1000)
    (D E : ByteArray) (n m k : Nat) (ok : Bool) (bp op bb o : Nat) (w : World)
    (hD : (a.contains 44 = true → humanize_zzWithout.f k ⟨a.toArray⟩ 44 = some D) ∧ (a.contains 44 = false → D = ⟨a.toArray⟩))
    (h0 : 0 < D.size) (hs : D.size ≤ 20) (hd : ∀ (i : Nat) (h : i < D.size), 48 ≤ (D[i]'h).toNat ∧ (D[i]'h).toNat ≤ 57) (hz : (D[0]'h0).toNat = 48 → D.size = 1)
    (hU : Lib.parseUintB 64 D.data.toList = .ok n) (hn : n < 18446744073709551616) (hm : m < 18446744073709551616)
    (hE : humanize_zzTrimmed.f k ⟨b.toArray⟩ = some E) (hEs : E.size ≤ 1000) (hM : humanize_bytesSizeTable.f (lowB E) = some ((m : Int), ok)) (hI : humanize_zzIndex.f k D 46 = some (-1))
    (hO : w.cell? ⟨6, 0, none⟩ = some (.bool true)) (hT : Tabs w w.heap.size bp op bb o) (hP : TenAt w) :
    Calls Tryd.prog 10 #[.string ⟨(a ++ b).toArray⟩] w fun r w' => PbOut (if ok = true then (if n * m < 18446744073709551616 then some ((n * m : Nat) : Int) else none) else none) r ∧ Below w.heap.size w w' := by
  generalize hv0 : (if ok = true then (if n * m < 18446744073709551616 then some ((n * m : Nat) : Int) else none) else none) = v
  have HV0 := Aside0.mk hv0
  clear hv0
  obtain ⟨Q, R, hQ1, hQ2, hQ3⟩ := mul_any n m hn hm
  have HQ1 := Aside0.mk hQ1
  have HQ2 := Aside0.mk hQ2
  have HQ3 := Aside0.mk hQ3
  clear hQ1 hQ2 hQ3
  have HD := Aside0.mk hD
  have HFL := Aside0.mk (And.intro hO (And.intro hT hP))
  have HFP := fun W hO hT hP => Aside0.mk (float_digits D h0 hs hd hz bp op bb o W hO hT hP)
  have HFF := Aside0.mk HFP
  have HU := Aside0.mk hU
  have HN := Aside0.mk hn
  have HMM := Aside0.mk hm
  have HE := Aside0.mk hE
  have HES := Aside0.mk hEs
  have HTB := Aside0.mk hM
  have HIX := Aside0.mk hI
  have HDS := Aside0.mk hs
  clear hD hO hT hP HFP hd hz hU hn hm hE hEs hM hI hs
  obtain ⟨t, ht⟩ : ∃ t, a ++ b = t := ⟨_, rfl⟩
  rw [ht]
  have HA := Aside0.mk ha
  have HBB := Aside0.mk hb
  have HB0 := Aside0.mk hb0
  have HL := Aside0.mk hlen
  have HT := Aside0.mk ht
  clear ha hb hb0 hlen ht
  go_enter Tryd.func10, Tryd.ntmps10
  go_upto_block 0 with (fail)
  go_cut [4, 5] (fun v4 v5 w' => v4 = .int .i64 a.length ∧ v5 = .bool (a.contains 44) ∧ Aside0 (Below w.heap.size w w'))
  case first =>
    have N0 : Aside0 ((w.iter ⟨t.toArray⟩ 0).heap[w.heap.size]? = some (.stringIter ⟨t.toArray⟩ 0)) := ⟨by (show (w.heap.push _)[w.heap.size]? = _); rw [Array.getElem?_push, if_pos rfl]⟩
    have M0 : Aside0 (Below w.heap.size w (w.iter ⟨t.toArray⟩ 0)) := ⟨(Below.refl _ _).alloc (Nat.le_refl _) _⟩
    generalize (w.iter ⟨t.toArray⟩ 0) = W at N0 M0 ⊢
    go_wp2
    go_loopg [4, 5] (a.length + 1) (fun kq v4 v5 w' => ∃ p : Nat, v4 = .int .i64 p ∧ v5 = .bool ((a.take p).contains 44) ∧ Aside0 (kq + p = a.length + 1 ∧ p ≤ a.length) ∧ Aside0 (w'.heap[w.heap.size]? = some (.stringIter ⟨t.toArray⟩ p)) ∧ Aside0 (Below w.heap.size w w'))
    case atStart => exact ⟨0, rfl, rfl, ⟨by omega⟩, N0, M0⟩
    case round =>
      clear N0 M0
      obtain ⟨p, rfl, rfl, HK, HN, HM⟩ := hrel
      have hta : t.length = a.length + b.length := by rw [← HT.out, List.length_append]
      by_cases hp : p < a.length
      · have hpt : p < t.length := by omega
        have hps : p < (⟨t.toArray⟩ : ByteArray).size := by rw [mk_size]; exact hpt
        have hgt : t[p] = a[p] := by simp only [← HT.out]; exact List.getElem_append_left hp
        have hch := HA.out a[p] (List.getElem_mem hp)
        have hth := take_has a p hp
        have h128 : a[p].toNat < 128 := by rcases hch with h | h; rw [h]; decide; omega
        have hnx : ∀ ty, (Instr.next (.pointer (some ⟨w.heap.size, 0, none⟩)) true ty).run Tryd.prog wr = .ok (.tuple #[.bool true, .int .i64 p, .int .i32 (t[p].toNat : Int)]) (wr.iterAt w.heap.size ⟨t.toArray⟩ (p + 1)) := fun ty => run_next_ascii_at wr _ _ p ty HN.out hps (by show t[p].toNat < 128; rw [hgt]; exact h128)
        rw [hgt] at hnx
        have N1 := Aside0.mk (below_iterAt HM.out (Nat.le_refl _) ⟨t.toArray⟩ (p + 1))
        have N2 := Aside0.mk (iterAt_heap wr w.heap.size ⟨t.toArray⟩ p (p + 1) HN.out)
        have e1 : wrap64 ((p : Int) + 1) = ((p + 1 : Nat) : Int) := by unfold wrap64; have := HL.out; omega
        obtain ⟨g1, rfl⟩ : ∃ g1, gk = g1 + 1 := ⟨gk - 1, by have := HK.out; omega⟩
        have HP := Aside0.mk hp
        have HTH := Aside0.mk hth
        clear HN HM hgt hps hpt h128 hta hth
        generalize wr.iterAt w.heap.size ⟨t.toArray⟩ (p + 1) = wn at *
        generalize a[p] = ch at *
        by_cases c44 : ch = 44
        · subst c44
          clear hch hp
          go_wp2
          repeat (go_quiet (fail); go_wp2)
          go_roundg g1
          case measure => omega
          case rel => exact ⟨p + 1, by first | rfl | rw [e1], by rw [HTH.out]; simp, ⟨by have := HK.out; have := HP.out; omega⟩, N2, N1⟩
        · have hd : 48 ≤ ch.toNat ∧ ch.toNat ≤ 57 := by rcases hch with h | h; exact absurd h c44; exact h
          have z1 : decide (48 ≤ (ch.toNat : Int)) = true := decide_eq_true (by omega)
          have z2 : decide ((ch.toNat : Int) ≤ 57) = true := decide_eq_true (by omega)
          have z3 : ((ch.toNat : Int) == 44) = false := beq_eq_false_iff_ne.mpr (by omega)
          have z4 : Aside0 ((44 == ch) = false) := ⟨beq_eq_false_iff_ne.mpr (fun h => c44 h.symm)⟩
          clear hch hd c44 hp
          go_wp2
          repeat (go_quiet (fail); go_wp2)
          go_roundg g1
          case measure => omega
          case rel => exact ⟨p + 1, by first | rfl | rw [e1], by rw [HTH.out, z4.out, Bool.or_false], ⟨by have := HK.out; have := HP.out; omega⟩, N2, N1⟩
      · have hpa : p = a.length := by have := HK.out; omega
        subst hpa
        cases hbl : b with
        | nil =>
          have hps : ¬ a.length < (⟨t.toArray⟩ : ByteArray).size := by rw [mk_size, hta, hbl]; simp
          have hnx : ∀ ty, (Instr.next (.pointer (some ⟨w.heap.size, 0, none⟩)) true ty).run Tryd.prog wr = .ok (.tuple #[.bool false]) wr := fun ty => run_next_end_at wr _ _ _ ty HN.out hps
          clear hp hta hbl
          go_wp2
          go_meet
          case rel => exact ⟨rfl, by rw [List.take_length], HM⟩
        | cons x bs =>
          have hpt : a.length < t.length := by rw [hta, hbl]; simp
          have hps : a.length < (⟨t.toArray⟩ : ByteArray).size := by rw [mk_size]; exact hpt
          have hgt : t[a.length] = x := by simp only [← HT.out, hbl]; rw [List.getElem_append_right (Nat.le_refl _)]; simp
          have h128 := HBB.out x (by rw [hbl]; exact List.mem_cons_self ..)
          have hx := HB0.out x (by rw [hbl]; rfl)
          have hnx : ∀ ty, (Instr.next (.pointer (some ⟨w.heap.size, 0, none⟩)) true ty).run Tryd.prog wr = .ok (.tuple #[.bool true, .int .i64 a.length, .int .i32 (t[a.length].toNat : Int)]) (wr.iterAt w.heap.size ⟨t.toArray⟩ (a.length + 1)) := fun ty => run_next_ascii_at wr _ _ a.length ty HN.out hps (by show t[a.length].toNat < 128; rw [hgt]; exact h128)
          rw [hgt] at hnx
          have N1 := Aside0.mk (below_iterAt HM.out (Nat.le_refl _) ⟨t.toArray⟩ (a.length + 1))
          have z3 : ((x.toNat : Int) == 44) = false := beq_eq_false_iff_ne.mpr (by omega)
          have z5 : ((x.toNat : Int) == 46) = false := beq_eq_false_iff_ne.mpr (by omega)
          clear HN HM hgt hps hpt h128 hta hbl hp
          generalize wr.iterAt w.heap.size ⟨t.toArray⟩ (a.length + 1) = wn at *
          by_cases h48 : (x.toNat : Int) < 48
          · have z1 : decide (48 ≤ (x.toNat : Int)) = false := decide_eq_false (by omega)
            clear h48 hx
            go_wp2
            repeat (go_quiet (fail); go_wp2)
            go_meet
            case rel => exact ⟨rfl, by rw [List.take_length], N1⟩
          · have z1 : decide (48 ≤ (x.toNat : Int)) = true := decide_eq_true (by omega)
            have z2 : decide ((x.toNat : Int) ≤ 57) = false := decide_eq_false (by omega)
            clear h48 hx
            go_wp2
            repeat (go_quiet (fail); go_wp2)
            go_meet
            case rel => exact ⟨rfl, by rw [List.take_length], N1⟩
  case rest =>
    obtain ⟨rfl, rfl, HM⟩ := hcut
    have hsz : (⟨t.toArray⟩ : ByteArray).size = a.length + b.length := by rw [mk_size, ← HT.out, List.length_append]
    have q1 := eq_true (show a.length ≤ a.length + b.length by omega)
    have q2 := eq_true (show (a.length : Int) ≤ ((⟨t.toArray⟩ : ByteArray).size : Int) by rw [hsz]; omega)
    have x1 : (⟨t.toArray⟩ : ByteArray).extract 0 a.length = ⟨a.toArray⟩ := by
      rw [← HT.out]
      apply ByteArray.ext
      simp
    have x2 : (⟨t.toArray⟩ : ByteArray).extract a.length (a.length + b.length) = ⟨b.toArray⟩ := by
      rw [← HT.out]
      apply ByteArray.ext
      simp
    go_upto_if 45 with (fail)
    go_cut [5, 8, 45] (fun _ v8 _ w' => v8 = .string D ∧ Aside0 (Below w.heap.size w w'))
    case first =>
      cases hc : a.contains 44
      · have HD2 := Aside0.mk (HD.out.2 hc)
        go_wp2
        go_meet
        case rel => exact ⟨by rw [HD2.out], HM⟩
      · have HD2 := Aside0.mk (HD.out.1 hc)
        go_wp2_with (go_at_call 12; refine (humanize_zzWithout.calls k _ 44 D _ HD2.out).mono ?_; rintro e w1 ⟨rfl, hB⟩; have HB := Aside0.mk hB; clear hB)
        go_meet
        case rel => exact ⟨rfl, ⟨HM.out.trans (HB.out.mono HM.out.size)⟩⟩
    case rest =>
      clear HM
      obtain ⟨rfl, HM⟩ := hcut
      have HFC := Aside0.mk (HFF.out _ ((HM.out.cell (by have := HFL.out.2.1.hg; show 6 < w.heap.size; omega)).trans HFL.out.1) ((HFL.out.2.1.below HM.out).mono HM.out.size) (HFL.out.2.2.below (by have := HFL.out.2.1.hg; omega) HM.out)).out
      have z9 : decide ((-1 : Int) < 0) = true := by decide
      cases ok
      · have hs3 : ((⟨#[117, 110, 104, 97, 110, 100, 108, 101, 100, 32, 115, 105, 122, 101, 32, 110, 97, 109, 101, 58, 32]⟩ : ByteArray).size + (lowB E).size ≤ 9223372036854775807) := by
          have h1 : (lowB E).size = E.size := by show (E.data.map lowU).size = E.data.size; simp
          rw [h1]; have := HES.out; show 21 + E.size ≤ _; omega
        go_wp2_with (first
        | (go_at_call 13; refine HFC.out.mono ?_; rintro e w1 ⟨⟨fv, rfl⟩, hB⟩; have HB1 := Aside0.mk (HM.out.trans (hB.mono HM.out.size)); clear hB)
        | (go_at_call 15; refine (humanize_zzTrimmed.calls k _ E _ HE.out).mono ?_; rintro e w2 ⟨rfl, ⟨n2, rfl⟩⟩)
        | (go_at_call 14; refine (lower_any E (by have := HES.out; omega) _).mono ?_; rintro e w3 ⟨rfl, hB⟩; have HB3 := Aside0.mk (HB1.out.trans (Below.trans (Below.drewN' (Below.refl _ _) _) hB |>.mono HB1.out.size)); clear hB)
        | (go_at_call 16; refine (humanize_bytesSizeTable.calls _ m _ _ HTB.out).mono ?_; rintro e w4 ⟨rfl, ⟨n4, rfl⟩⟩)
        | (go_at_call 17; refine (humanize_zzIndex.calls k D 46 (-1) _ HIX.out).mono ?_; rintro e w5 ⟨rfl, ⟨n5, rfl⟩⟩)
        | (go_at_call 18; go_loud (refine (Tryd.strconv_ParseUint_10_at64_ok D (by have := HDS.out; omega) n HU.out _).mono ?_; rintro e w6 ⟨rfl, hw⟩; have HB6 : Aside0 (Below w.heap.size w w6) := ⟨by rcases hw with rfl | rfl; exact Below.drewN' HB3.out _; exact (Below.drewN' HB3.out _).trans ((bytesWorld_below _ _ _).mono (Below.drewN' HB3.out _).size)⟩; clear hw))
        | (go_at_call 19; refine (HQ1.out _).mono ?_; rintro e w7 ⟨rfl, rfl⟩)
        | (go_at_call 20; refine (new_any _ _).mono ?_; rintro e w8 ⟨⟨et, ea, rfl⟩, hB⟩; have HB8 := Aside0.mk hB; clear hB))
        go_ret2
        exact ⟨by rw [← HV0.out]; exact ⟨_, _, rfl⟩, by first | exact Below.drewN' HB6.out _ | exact HB6.out | exact (Below.drewN' HB3.out _).trans (HB8.out.mono (Below.drewN' HB3.out _).size) | exact HB6.out.trans (HB8.out.mono HB6.out.size)⟩
      · by_cases hv : n * m < 18446744073709551616
        · have zq : (Q == 0) = true := beq_iff_eq.mpr (HQ2.out hv).1
          have HV := Aside0.mk hv
          clear hv
          go_wp2_with (first
          | (go_at_call 13; refine HFC.out.mono ?_; rintro e w1 ⟨⟨fv, rfl⟩, hB⟩; have HB1 := Aside0.mk (HM.out.trans (hB.mono HM.out.size)); clear hB)
          | (go_at_call 15; refine (humanize_zzTrimmed.calls k _ E _ HE.out).mono ?_; rintro e w2 ⟨rfl, ⟨n2, rfl⟩⟩)
          | (go_at_call 14; refine (lower_any E (by have := HES.out; omega) _).mono ?_; rintro e w3 ⟨rfl, hB⟩; have HB3 := Aside0.mk (HB1.out.trans (Below.trans (Below.drewN' (Below.refl _ _) _) hB |>.mono HB1.out.size)); clear hB)
          | (go_at_call 16; refine (humanize_bytesSizeTable.calls _ m _ _ HTB.out).mono ?_; rintro e w4 ⟨rfl, ⟨n4, rfl⟩⟩)
          | (go_at_call 17; refine (humanize_zzIndex.calls k D 46 (-1) _ HIX.out).mono ?_; rintro e w5 ⟨rfl, ⟨n5, rfl⟩⟩)
          | (go_at_call 18; go_loud (refine (Tryd.strconv_ParseUint_10_at64_ok D (by have := HDS.out; omega) n HU.out _).mono ?_; rintro e w6 ⟨rfl, hw⟩; have HB6 : Aside0 (Below w.heap.size w w6) := ⟨by rcases hw with rfl | rfl; exact Below.drewN' HB3.out _; exact (Below.drewN' HB3.out _).trans ((bytesWorld_below _ _ _).mono (Below.drewN' HB3.out _).size)⟩; clear hw))
          | (go_at_call 19; refine (HQ1.out _).mono ?_; rintro e w7 ⟨rfl, rfl⟩)
          | (go_at_call 20; refine (new_any _ _).mono ?_; rintro e w8 ⟨⟨et, ea, rfl⟩, hB⟩; have HB8 := Aside0.mk hB; clear hB))
          go_ret2
          exact ⟨by rw [← HV0.out, if_pos trivial, if_pos HV.out, ← (HQ2.out HV.out).2]; rfl, by first | exact Below.drewN' HB6.out _ | exact HB6.out | exact (Below.drewN' HB3.out _).trans (HB8.out.mono (Below.drewN' HB3.out _).size) | exact HB6.out.trans (HB8.out.mono HB6.out.size)⟩
        · have zq : (Q == 0) = false := beq_eq_false_iff_ne.mpr (HQ3.out hv)
          have HV := Aside0.mk hv
          have hs3 : ((⟨#[116, 111, 111, 32, 108, 97, 114, 103, 101, 58, 32]⟩ : ByteArray).size + (⟨t.toArray⟩ : ByteArray).size ≤ 9223372036854775807) := by
            rw [hsz]; have := HL.out; show 11 + _ ≤ _; omega
          clear hv
          go_wp2_with (first
          | (go_at_call 13; refine HFC.out.mono ?_; rintro e w1 ⟨⟨fv, rfl⟩, hB⟩; have HB1 := Aside0.mk (HM.out.trans (hB.mono HM.out.size)); clear hB)
          | (go_at_call 15; refine (humanize_zzTrimmed.calls k _ E _ HE.out).mono ?_; rintro e w2 ⟨rfl, ⟨n2, rfl⟩⟩)
          | (go_at_call 14; refine (lower_any E (by have := HES.out; omega) _).mono ?_; rintro e w3 ⟨rfl, hB⟩; have HB3 := Aside0.mk (HB1.out.trans (Below.trans (Below.drewN' (Below.refl _ _) _) hB |>.mono HB1.out.size)); clear hB)
          | (go_at_call 16; refine (humanize_bytesSizeTable.calls _ m _ _ HTB.out).mono ?_; rintro e w4 ⟨rfl, ⟨n4, rfl⟩⟩)
          | (go_at_call 17; refine (humanize_zzIndex.calls k D 46 (-1) _ HIX.out).mono ?_; rintro e w5 ⟨rfl, ⟨n5, rfl⟩⟩)
          | (go_at_call 18; go_loud (refine (Tryd.strconv_ParseUint_10_at64_ok D (by have := HDS.out; omega) n HU.out _).mono ?_; rintro e w6 ⟨rfl, hw⟩; have HB6 : Aside0 (Below w.heap.size w w6) := ⟨by rcases hw with rfl | rfl; exact Below.drewN' HB3.out _; exact (Below.drewN' HB3.out _).trans ((bytesWorld_below _ _ _).mono (Below.drewN' HB3.out _).size)⟩; clear hw))
          | (go_at_call 19; refine (HQ1.out _).mono ?_; rintro e w7 ⟨rfl, rfl⟩)
          | (go_at_call 20; refine (new_any _ _).mono ?_; rintro e w8 ⟨⟨et, ea, rfl⟩, hB⟩; have HB8 := Aside0.mk hB; clear hB))
          go_ret2
          exact ⟨by rw [← HV0.out, if_pos trivial, if_neg HV.out]; exact ⟨_, _, rfl⟩, by first | exact Below.drewN' HB6.out _ | exact HB6.out | exact (Below.drewN' HB3.out _).trans (HB8.out.mono (Below.drewN' HB3.out _).size) | exact HB6.out.trans (HB8.out.mono HB6.out.size)⟩
end Go.Proofs.YtnpkocpknmhngaaDoor.Pf
namespace Go.Proofs.YtnpkocpknmhngaaDoor.Pf
open Go.RowKit Go.Lib Go.Proofs.YtnpkocpknmhngaaDoorW.PrintWords Go.Proofs.YtnpkocpknmhngaaDoorW.PrintLast Go.Proofs.YtnpkocpknmhngaaDoor.PPb Go.Proofs.YtnpkocpknmhngaaDoor.PPi
theorem isText_l1 (s : ByteArray) (hs : s.size ≤ 200) (ha : ∀ i : Int, bt s i ≤ 127) : ∀ (n : Nat) (i : Int), 0 ≤ i → i + n = s.size → impl_isText.l1 (n + 2) true [s] s i [s] 1 0 = some true
  | 0, i, h0, h1 => by
    have e : i = s.size := by omega
    subst e
    have e1 : wrap64 (0 + 1) = 1 := by simp [wrap64]
    simp only [impl_isText.l1, impl_isText.l0, e1]
    rw [if_neg (by omega), if_neg (by omega), if_neg (by omega)]
    simp
  | n + 1, i, h0, h1 => by
    have e1 : wrap64 (i + 1) = i + 1 := by unfold wrap64; omega
    rw [show n + 1 + 2 = (n + 2) + 1 by omega, impl_isText.l1]
    rw [if_pos (by omega), if_pos rfl, if_pos h0, if_neg (by have := ha i; omega), e1]
    exact isText_l1 s hs ha n (i + 1) (by omega) (by omega)
theorem isText_ok (s : ByteArray) (hs : s.size ≤ 200) (ha : ∀ i : Int, bt s i ≤ 127) : ∃ k, impl_isText.f k true [s] = some true := by
  refine ⟨s.size + 2 + 1, ?_⟩
  simp only [impl_isText.f]
  rw [impl_isText.l0]
  rw [if_pos (by simp), if_pos (by omega), if_pos (by simp)]
  exact isText_l1 s hs ha s.size 0 (by omega) (by omega)
theorem one_text (w : World) (s : ByteArray) : Kd.C Kd.string (w.alloc (.cells #[.string s] 9)) (some ⟨w.heap.size, 0, none⟩) [s].length [s] := by
  refine ⟨rfl, by simp, fun _ => ⟨_, rfl, fun j p hj => ?_⟩⟩
  match j, hj with
  | 0, hj =>
    obtain rfl : s = p := by simpa using hj
    refine ⟨[.string s], rfl, rfl, fun i u hi => ?_⟩
    match i, hi with
    | 0, hi =>
      obtain rfl : Value.string s = u := by simpa using hi
      show (w.alloc _).cell? ⟨w.heap.size, 0, none⟩ = _
      rw [World.cell?_alloc_new]
      rfl
/-- What impl.ParseBytes tells. -/
def ImplOut (v : Option Int) (r : Ending) : Prop := r = .returned (.tuple #[.int .u64 (v.getD 0), .bool v.isSome])
set_option maxRecDepth 100000 in
set_option maxHeartbeats 4000000 in
theorem impl_any (s : ByteArray) (hs : s.size ≤ 200) (ha : ∀ i : Int, bt s i ≤ 127) (v : Option Int) (w : World)
    (H : ∀ W, Below w.heap.size w W → Calls Tryd.prog 10 #[.string s] W fun r w' => PbOut v r ∧ Below W.heap.size W w') :
    Calls Tryd.prog 6 #[.string s] w fun r w' => ImplOut v r ∧ Below w.heap.size w w' := by
  obtain ⟨k, hk⟩ := isText_ok s hs ha
  have HK := Aside0.mk hk
  have HH := Aside0.mk H
  clear H hk hs ha
  go_enter Tryd.func6, Tryd.ntmps6
  cases v with
  | none =>
    go_wp2_with (first | (go_at_call 9; refine (impl_isText.calls k true _ 1 [s] true _ (one_text w s) (by simp) HK.out).mono ?_; rintro e w1 ⟨rfl, ⟨nd, rfl⟩⟩) | (go_at_call 10; refine (HH.out _ (Below.drewN' ((Below.refl _ _).alloc (Nat.le_refl _) _) _)).mono ?_; rintro e w2 ⟨⟨t, a, rfl⟩, hB⟩; have HB := Aside0.mk hB; clear hB))
    go_ret2
    exact ⟨rfl, (Below.drewN' ((Below.refl _ _).alloc (Nat.le_refl _) _) _).trans (HB.out.mono (Below.drewN' ((Below.refl _ _).alloc (Nat.le_refl _) _) _).size)⟩
  | some n =>
    go_wp2_with (first | (go_at_call 9; refine (impl_isText.calls k true _ 1 [s] true _ (one_text w s) (by simp) HK.out).mono ?_; rintro e w1 ⟨rfl, ⟨nd, rfl⟩⟩) | (go_at_call 10; refine (HH.out _ (Below.drewN' ((Below.refl _ _).alloc (Nat.le_refl _) _) _)).mono ?_; rintro e w2 ⟨hr, hB⟩; (have hr2 : e = .returned (.tuple #[.int .u64 n, .nilIface]) := hr); subst hr2; have HB := Aside0.mk hB; clear hB hr))
    go_ret2
    exact ⟨rfl, (Below.drewN' ((Below.refl _ _).alloc (Nat.le_refl _) _) _).trans (HB.out.mono (Below.drewN' ((Below.refl _ _).alloc (Nat.le_refl _) _) _).size)⟩
end Go.Proofs.YtnpkocpknmhngaaDoor.Pf
