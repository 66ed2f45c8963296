/- humanize.CustomRelTime and what it calls, walked. -/
import Derived.Test.YtmdgbbiipjmenaaDoorPureComma
import Derived.Test.YtmdgbbiipjmenaaDoorOrdLaw
import Derived.Lib.AtoiErrMem
import Derived.Lib.OthersKept
import Derived.Test.YtmdgbbiipjmenaaDoorRelPlain
namespace Go.Proofs.YtmdgbbiipjmenaaDoor.Rel
open Go.RowKit Go.Lib Go.Sort Go.Proofs.YtmdgbbiipjmenaaDoor.PAll Go.Proofs.YtmdgbbiipjmenaaDoorW.PrintWords Go.Proofs.YtmdgbbiipjmenaaDoorW.PrintLast Go.Proofs.YtmdgbbiipjmenaaDoor.PlainDec Go.Proofs.YtmdgbbiipjmenaaDoor.Ord Go.Proofs.YtmdgbbiipjmenaaDoor.OrdLaw Go.Proofs.YtmdgbbiipjmenaaDoor.RelPlain

theorem number_any (n : Int) (h0 : -9223372036854775808 ≤ n) (h1 : n ≤ 9223372036854775807) (w : World) (htab : Tab w) :
    Calls Tryd.prog 32 #[.int .i64 n] w fun e w' => e = .returned (.string (decB n)) ∧ Below w.heap.size w w' := by
  have HT := Lib.hid htab
  have H0 := Lib.hid h0
  have H1 := Lib.hid h1
  clear htab h0 h1
  go_enter Tryd.func32, Tryd.ntmps32
  go_wp2_with (go_at_call 38; refine (Tryd.strconv_FormatInt_10 n H0.out H1.out _ HT.out).mono ?_; rintro e w' ⟨rfl, ⟨k, os, rfl⟩⟩)
  go_ret
  exact ⟨rfl, below_grow w k os⟩
set_option maxHeartbeats 1000000 in
theorem less_any (i : Int) (m d : Nat) (A : Option Addr) (c : Nat) (xs : List S47) (df : Int) (w : World) (hr : Kd.C k47 w A xs.length xs) (hm : w.cell? ⟨m, 0, none⟩ = some (.slice A xs.length c)) (hd : w.cell? ⟨d, 0, none⟩ = some (.int .i64 df))
    (h0 : 0 ≤ i) (h1 : i < xs.length) :
    Calls Tryd.prog 31 #[.int .i64 i, .pointer (some ⟨m, 0, none⟩), .pointer (some ⟨d, 0, none⟩)] w fun e w' => e = .returned (.bool (decide ((rd_T47 xs i).f0 > df))) ∧ Drawn0 w w' := by
  obtain ⟨ad, e, hc0, hc1, hc2⟩ := at_T47 hr i h0 h1
  cases e
  replace h0 := eq_true h0
  replace h1 := eq_true h1
  clear hr hc1 hc2
  have hu47 := Tryd.underlying47
  go_enter Tryd.func31, Tryd.ntmps31
  go_wp2
  go_region
  go_wp2
  go_ret
  exact ⟨rfl, ⟨1, rfl⟩⟩
def zs (P : Int → Bool) : Nat → Int → Int → Option Int
  | 0, _, _ => none
  | k + 1, i, j => if i < j then (if P ((i + j) / 2) = true then zs P k i ((i + j) / 2) else zs P k ((i + j) / 2 + 1) j) else some i
set_option maxHeartbeats 1000000 in
theorem search_any (P : Int → Bool) (k : Nat) (n r : Int) (hn : 0 ≤ n ∧ n ≤ 1000) (m d : Nat) (w : World)
    (hf : ∀ (i : Int) (q : Nat), 0 ≤ i → i < n → Calls Tryd.prog 31 #[.int .i64 i, .pointer (some ⟨m, 0, none⟩), .pointer (some ⟨d, 0, none⟩)] (w.drewN q) fun e w' => e = .returned (.bool (P i)) ∧ Drawn0 (w.drewN q) w')
    (h : zs P k 0 n = some r) :
    Calls Tryd.prog 30 #[.int .i64 n, .func (.func 31) #[] #[.pointer (some ⟨m, 0, none⟩), .pointer (some ⟨d, 0, none⟩)]] w fun e w' => e = .returned (.int .i64 r) ∧ Drawn0 w w' := by
  have HF := Aside0.mk hf
  have H' := Aside0.mk h
  have HN := Aside0.mk hn
  clear h hf hn
  go_enter Tryd.func30, Tryd.ntmps30
  go_wp2
  go_loopg [5, 6] k (fun kq v3 v4 w' => ∃ (x3 x4 : Int), v3 = .int .i64 x3 ∧ v4 = .int .i64 x4 ∧ Aside0 (zs P kq x3 x4 = some r) ∧ Aside0 (0 ≤ x3 ∧ x3 ≤ x4 + 1 ∧ x4 ≤ n) ∧ Aside0 (kq ≤ k) ∧ Drawn0 w w')
  case atStart => exact ⟨0, n, rfl, rfl, H', ⟨by omega, by have := HN.out.1; omega, by omega⟩, ⟨Nat.le_refl _⟩, Drawn0.refl _⟩
  case round =>
    clear H'
    obtain ⟨x3, x4, rfl, rfl, HA, HB, HK, ⟨m1, rfl⟩⟩ := hrel
    cases gk with
    | zero => exact absurd HA.out (by simp [zs])
    | succ k1 =>
      have H := HA.out
      clear HA
      simp only [zs] at H
      obtain ⟨b0, b1, b2⟩ := HB.out
      have hn := HN.out
      by_cases c : x3 < x4
      · rw [if_pos c] at H
        have cb : decide (x3 < x4) = true := decide_eq_true c
        have e1 : wrap64 (x3 + x4) = x3 + x4 := PlainDec.wr _ (by omega) (by omega)
        have e2 : IntKind.u64.wrap (x3 + x4) = x3 + x4 := by
          show Int.emod _ _ = _
          exact Int.emod_eq_of_lt (by omega) (by show _ < (18446744073709551616 : Int); omega)
        have e3 : wrap64 ((x3 + x4) / 2) = (x3 + x4) / 2 := PlainDec.wr _ (by omega) (by omega)
        have e4 : wrap64 ((x3 + x4) / 2 + 1) = (x3 + x4) / 2 + 1 := PlainDec.wr _ (by omega) (by omega)
        have hf := HF.out ((x3 + x4) / 2) m1 (by omega) (by omega)
        have g0 : 0 ≤ (x3 + x4) / 2 := by omega
        have g1 : (x3 + x4) / 2 < x4 := by omega
        have g2 : x3 ≤ (x3 + x4) / 2 := by omega
        have G0 := Aside0.mk (And.intro b0 b2)
        clear hn b0 b1 b2 c HN HB
        have HF' := Aside0.mk hf
        clear hf
        generalize hh : (x3 + x4) / 2 = hx at *
        by_cases p : P hx = true
        · rw [if_pos p] at H
          have H' := Aside0.mk H
          clear H
          have G := Aside0.mk (And.intro g0 (And.intro g1 g2))
          clear g0 g1 g2
          go_wp2_with (go_at_call 31; refine HF'.out.mono ?_; rintro e w2 ⟨rfl, ⟨nd, rfl⟩⟩)
          go_roundg k1
          case measure => have := HK.out; omega
          case rel => exact ⟨x3, hx, rfl, rfl, H', ⟨by have := G.out; have := G0.out; omega⟩, ⟨by have := HK.out; omega⟩, by repeat (first | exact Drawn0.refl _ | apply Drawn0.step)⟩
        · have p' : P hx = false := by simpa using p
          rw [if_neg p] at H
          have H' := Aside0.mk H
          clear H
          have G := Aside0.mk (And.intro g0 (And.intro g1 g2))
          clear g0 g1 g2
          go_wp2_with (go_at_call 31; refine HF'.out.mono ?_; rintro e w2 ⟨rfl, ⟨nd, rfl⟩⟩)
          go_roundg k1
          case measure => have := HK.out; omega
          case rel => exact ⟨hx + 1, x4, by rw [e4], rfl, H', ⟨by have := G.out; have := G0.out; omega⟩, ⟨by have := HK.out; omega⟩, by repeat (first | exact Drawn0.refl _ | apply Drawn0.step)⟩
      · rw [if_neg c] at H
        obtain rfl := Option.some.inj H
        have cb : decide (x3 < x4) = false := decide_eq_false c
        go_wp2
        go_ret
        exact ⟨rfl, by repeat (first | exact Drawn0.refl _ | apply Drawn0.step)⟩
theorem rel_world (w : World) (A : Option Addr) (c : Nat) (xs : List S47) (df : Int) (nd : Nat) :
    Below w.heap.size w (((w.alloc (.cells #[.slice A xs.length c] 43)).alloc (.cells #[.int .i64 df] 45)).drewN nd) :=
  below_drewN (Below.alloc (Below.alloc (Below.refl _ _) (Nat.le_refl _) _) (by simp) _) nd
theorem rel_less (w : World) (A : Option Addr) (c : Nat) (xs : List S47) (df : Int) (hr : Kd.C k47 w A xs.length xs) (i : Int) (q : Nat) (h0 : 0 ≤ i) (h1 : i < xs.length) :
    Calls Tryd.prog 31 #[.int .i64 i, .pointer (some ⟨w.heap.size, 0, none⟩), .pointer (some ⟨w.heap.size + 1, 0, none⟩)] (((w.alloc (.cells #[.slice A xs.length c] 43)).alloc (.cells #[.int .i64 df] 45)).drewN q) fun e w' => e = .returned (.bool (decide ((rd_T47 xs i).f0 > df))) ∧ Drawn0 (((w.alloc (.cells #[.slice A xs.length c] 43)).alloc (.cells #[.int .i64 df] 45)).drewN q) w' := by
  refine less_any i _ _ A c xs df _ (Kd.C_below hr (rel_world w A c xs df q)) ?_ ?_ h0 h1
  · simp
  · simp
theorem start_w (w : World) (A : Option Addr) (c : Nat) (xs : List S47) (df d v : Int) (f : ByteArray) (nd : Nat) :
    let W := ((((w.alloc (.cells #[.slice A xs.length c] 43)).alloc (.cells #[.int .i64 df] 45)).drewN nd).alloc (.cells #[.int .i64 d, .string f, .int .i64 v] 47)).iter f 0
    Below w.heap.size w W ∧ W.heap[w.heap.size + 1 + 1 + 1]? = some (.stringIter f 0) ∧ W.cell? ⟨w.heap.size + 1, 0, none⟩ = some (.int .i64 df) ∧ W.cell? ⟨w.heap.size + 1 + 1, 2, none⟩ = some (.int .i64 v) := by
  refine ⟨?_, ?_, ?_, ?_⟩
  · unfold World.iter
    exact Below.alloc (Below.alloc (rel_world w A c xs df nd) (by simp; omega) _) (by simp; omega) _
  · show ((((w.heap.push _).push _).push _).push _)[w.heap.size + 1 + 1 + 1]? = _
    rw [Array.getElem?_push, if_pos (by simp)]
  · have e : ((((w.heap.push (.cells #[.slice A xs.length c] 43)).push (.cells #[.int .i64 df] 45)).push (.cells #[.int .i64 d, .string f, .int .i64 v] 47)).push (.stringIter f 0))[w.heap.size + 1]? = some (.cells #[.int .i64 df] 45) := by
      rw [Array.getElem?_push, if_neg (by simp), Array.getElem?_push, if_neg (by simp), Array.getElem?_push, if_pos (by simp)]
    show (match ((((w.heap.push _).push _).push _).push _)[w.heap.size + 1]? with | some (.cells c _ _) => c[0]? | _ => none) = _
    rw [e]
    rfl
  · have e : ((((w.heap.push (.cells #[.slice A xs.length c] 43)).push (.cells #[.int .i64 df] 45)).push (.cells #[.int .i64 d, .string f, .int .i64 v] 47)).push (.stringIter f 0))[w.heap.size + 1 + 1]? = some (.cells #[.int .i64 d, .string f, .int .i64 v] 47) := by
      rw [Array.getElem?_push, if_neg (by simp), Array.getElem?_push, if_pos (by simp)]
    show (match ((((w.heap.push _).push _).push _).push _)[w.heap.size + 1 + 1]? with | some (.cells c _ _) => c[2]? | _ => none) = _
    rw [e]
    rfl
theorem iter_cell (w : World) (k : Nat) (s : ByteArray) (p : Nat) (b o : Nat) (h : b ≠ k) : (w.iterAt k s p).cell? ⟨b, o, none⟩ = w.cell? ⟨b, o, none⟩ := by
  unfold World.cell?
  rw [show (w.iterAt k s p).heap[b]? = w.heap[b]? from iterAt_other w k b s p h]
theorem below_tab {w w' : World} (h : Below w.heap.size w w') (ht : Tab w) : Tab w' := by
  unfold Tab Lib.TabIs World.var? at *
  cases hg : Tryd.prog.globalNamed "internal/strconv.uint64pow10" with
  | none => rw [hg] at ht; cases ht
  | some g =>
    rw [hg] at ht
    simp only [Option.bind_some] at ht ⊢
    have hlt : g < w.heap.size := by
      rcases Nat.lt_or_ge g w.heap.size with h | h
      · exact h
      · rw [Array.getElem?_eq_none h] at ht; cases ht
    rw [h.block g hlt]
    exact ht
theorem three_le {a b : ByteArray} (h : a.size + b.size ≤ 9223372036854775807) : (a.size + b.size ≤ 9223372036854775807) = True ∧ decide (a.size + b.size ≤ 9223372036854775807) = true ∧ (9223372036854775807 < a.size + b.size) = False :=
  ⟨eq_true h, decide_eq_true h, eq_false (Nat.not_lt.2 h)⟩
set_option maxRecDepth 100000 in
set_option maxHeartbeats 8000000 in
theorem custom_any (n : Int) (h0 : -9223372036854775808 < n) (h1 : n ≤ 9223372036854775807) (al bl : ByteArray) (A : Option Addr) (c : Nat) (xs : List S47) (w : World) (hr : Kd.C k47 w A xs.length xs) (htab : Tab w)
    (k : Nat) (r q df dv : Int) (lb l T : List UInt8) (R : ByteArray) (hlb : (⟨lb.toArray⟩ : ByteArray) = if 0 > n then bl else al) (hdf : df = if 0 > n then -n else n)
    (hz : zs (fun i => decide ((rd_T47 xs i).f0 > df)) k 0 xs.length = some r) (hlen : xs.length ≤ 1000) (hq : q = if (xs.length : Int) ≤ r then (xs.length : Int) - 1 else r) (hq0 : 0 ≤ q) (hq1 : q < xs.length)
    (hf : (rd_T47 xs q).f1 = ⟨l.toArray⟩) (hl : ∀ b ∈ l, b.toNat < 128) (hdv : (rd_T47 xs q).f2 = dv) (hdv0 : 0 < dv) (hT : fillL lb (itoa (df.tdiv dv)) false l = T) (hTl : T.length ≤ 1000000000)
    (hR : (lb = [] → humanize_zzRight.f k ⟨T.toArray⟩ = some R) ∧ (lb ≠ [] → R = ⟨T.toArray⟩)) :
    Calls Tryd.prog 21 #[.int .i64 0, .int .i64 n, .string al, .string bl, .slice A xs.length c] w fun e w' => e = .returned (.string R) ∧ Below w.heap.size w w' := by
  have hmf : ∀ (fn : Fn) (first cap : Array Value) (w : World), (Instr.makeFunc fn first cap).run Tryd.prog w = .ok (.func fn first cap) w := fun _ _ _ _ => rfl
  have HL := Aside0.mk hlen
  have HT := Aside0.mk htab
  have HR := Aside0.mk hr
  have HZ := Aside0.mk hz
  have HQ0 := Aside0.mk hq0
  have HQ1 := Aside0.mk hq1
  have HQ := Aside0.mk hq
  have HLB := Aside0.mk hlb
  have HDB : Aside0 (0 ≤ df ∧ df ≤ 9223372036854775807) := ⟨by rw [hdf]; split <;> omega⟩
  have HDF := Aside0.mk hdf
  have HF := Aside0.mk hf
  have HLA := Aside0.mk hl
  have HDV := Aside0.mk (And.intro hdv hdv0)
  have HTT := Aside0.mk (And.intro hT hTl)
  have HRR := Aside0.mk hR
  have H0 := Aside0.mk (And.intro h0 h1)
  have hu47 := Tryd.underlying47
  obtain ⟨ad, e0, -⟩ := at_T47 hr q hq0 hq1
  cases e0
  clear hlen htab hr hz hq0 hq1 hq hlb hdf hf hl hdv hdv0 hT hTl hR
  generalize hLB : (⟨lb.toArray⟩ : ByteArray) = LB at *
  have key : (decide (n < 0) = true ∧ LB = bl ∧ -n = df) ∨ (decide (n < 0) = false ∧ LB = al ∧ df = n) := by
    have e1 := HLB.out
    have e2 := HDF.out
    by_cases hn : 0 > n
    · rw [if_pos hn] at e1 e2
      exact .inl ⟨decide_eq_true hn, e1, e2.symm⟩
    · rw [if_neg hn] at e1 e2
      exact .inr ⟨decide_eq_false hn, e1, e2⟩
  have key2 : (decide ((xs.length : Int) ≤ r) = true ∧ (xs.length : Int) - 1 = q) ∨ (decide ((xs.length : Int) ≤ r) = false ∧ q = r) := by
    have e1 := HQ.out
    by_cases hn : (xs.length : Int) ≤ r
    · rw [if_pos hn] at e1
      exact .inl ⟨decide_eq_true hn, e1.symm⟩
    · rw [if_neg hn] at e1
      exact .inr ⟨decide_eq_false hn, e1⟩
  clear HLB HDF HQ
  have hq0' := eq_true HQ0.out
  have hwq : wrap64 q = q := PlainDec.wr _ (by have := HQ0.out; omega) (by have := HQ1.out; have := HL.out; omega)
  have hq1' := eq_true HQ1.out
  rcases key with ⟨hn', rfl, e2⟩ | ⟨hn', rfl, rfl⟩
  all_goals rcases key2 with ⟨hq', e3⟩ | ⟨hq', rfl⟩
  all_goals go_enter Tryd.func21, Tryd.ntmps21
  all_goals go_wp2_with (first | (go_at_call 28; go_in) | (go_at_call 29; go_in) | (go_at_call 30; go_loud (refine (search_any (fun i => decide ((rd_T47 xs i).f0 > df)) k _ _ ⟨by omega, by have := HL.out; omega⟩ _ _ _ (fun i q a b => rel_less w _ c xs df HR.out i _ a b) HZ.out).mono ?_; rintro e w2 ⟨rfl, ⟨nd, rfl⟩⟩; obtain ⟨ad', e', hc0, hc1, hc2⟩ := at_T47 (Kd.C_below HR.out (rel_world w (some ad) c xs df nd)) q HQ0.out HQ1.out; cases e')))
  all_goals
    have hs := start_w w (some ad) c xs df (rd_T47 xs q).f0 (rd_T47 xs q).f2 (rd_T47 xs q).f1 nd
    clear hwq
    revert hs
    generalize ((((w.alloc (.cells #[.slice (some ad) xs.length c] 43)).alloc (.cells #[.int .i64 df] 45)).drewN nd).alloc (.cells #[.int .i64 (rd_T47 xs q).f0, .string (rd_T47 xs q).f1, .int .i64 (rd_T47 xs q).f2] 47)).iter (rd_T47 xs q).f1 0 = W
    rintro ⟨HW1, HW2, HW3, HW4⟩
    rw [HF.out] at HW2
    rw [HDV.out.1] at HW4
    go_loopg [15, 16] l.length (fun kq v15 v16 w' => ∃ (out : List UInt8) (esc : Bool) (p : Nat), v15 = .string ⟨out.toArray⟩ ∧ v16 = .bool esc ∧ Aside0 (out ++ fillL lb (itoa (df.tdiv dv)) esc (l.drop p) = T) ∧ Aside0 (kq + p = l.length) ∧ Aside0 (w'.heap[w.heap.size + 1 + 1 + 1]? = some (.stringIter ⟨l.toArray⟩ p)) ∧ Aside0 (w'.cell? ⟨w.heap.size + 1, 0, none⟩ = some (.int .i64 df)) ∧ Aside0 (w'.cell? ⟨w.heap.size + 1 + 1, 2, none⟩ = some (.int .i64 dv)) ∧ Aside0 (Below w.heap.size w w'))
    case atStart => exact ⟨[], false, 0, rfl, rfl, ⟨HTT.out.1⟩, ⟨by omega⟩, ⟨HW2⟩, ⟨HW3⟩, ⟨HW4⟩, ⟨HW1⟩⟩
    case round =>
      clear HW1 HW2 HW3 HW4 hc0 hc1 hc2
      obtain ⟨out, esc, p, rfl, rfl, HA, HK, HW2, HW3, HW4, HW1⟩ := hrel
      have hTl := HTT.out.2
      have hqn : 0 ≤ df.tdiv dv ∧ df.tdiv dv ≤ df := ⟨Int.tdiv_nonneg HDB.out.1 (by have := HDV.out.2; omega), by
        rw [Int.tdiv_eq_ediv_of_nonneg HDB.out.1]
        exact Int.ediv_le_self _ HDB.out.1⟩
      have hqw : wrap64 (df.tdiv dv) = df.tdiv dv := PlainDec.wr _ (by omega) (by have := HDB.out.2; omega)
      have HQN := Aside0.mk hqn
      have hdz : (dv == 0) = false := beq_eq_false_iff_ne.mpr (by have := HDV.out.2; omega)
      have hdz' : ¬ dv = 0 := by have := HDV.out.2; omega
      clear hqn
      by_cases hp : p < l.length
      · have hps : p < (⟨l.toArray⟩ : ByteArray).size := by rw [mk_size]; exact hp
        have hch := HLA.out l[p] (List.getElem_mem hp)
        have hnx : ∀ ty, (Instr.next (.pointer (some ⟨w.heap.size + 1 + 1 + 1, 0, none⟩)) true ty).run Tryd.prog wr = .ok (.tuple #[.bool true, .int .i64 p, .int .i32 (l[p].toNat : Int)]) (wr.iterAt (w.heap.size + 1 + 1 + 1) ⟨l.toArray⟩ (p + 1)) := fun ty => run_next_ascii_at wr _ _ p ty HW2.out hps hch
        have hA := HA.out
        rw [List.drop_eq_getElem_cons hp] at hA
        have N1 : Below w.heap.size w (wr.iterAt (w.heap.size + 1 + 1 + 1) ⟨l.toArray⟩ (p + 1)) := below_iterAt HW1.out (by omega) _ _
        have N2 := iterAt_heap wr (w.heap.size + 1 + 1 + 1) ⟨l.toArray⟩ p (p + 1) HW2.out
        have N3 := (iter_cell wr (w.heap.size + 1 + 1 + 1) ⟨l.toArray⟩ (p + 1) (w.heap.size + 1) 0 (by omega)).trans HW3.out
        have N4 := (iter_cell wr (w.heap.size + 1 + 1 + 1) ⟨l.toArray⟩ (p + 1) (w.heap.size + 1 + 1) 2 (by omega)).trans HW4.out
        have he : Utf8.encode (l[p].toNat : Int) = ⟨[l[p]].toArray⟩ := by
          rw [enc_ascii _ (by omega) (by omega)]
          simp
        clear HA HW1 HW2 HW3 HW4
        have HK' : Aside0 (gk = (gk - 1) + 1 ∧ gk - 1 + (p + 1) = l.length) := ⟨by have := HK.out; omega⟩
        clear HK
        generalize gk - 1 = g1 at *
        obtain ⟨rfl⟩ : gk = g1 + 1 := HK'.out.1
        generalize wr.iterAt (w.heap.size + 1 + 1 + 1) ⟨l.toArray⟩ (p + 1) = wn at *
        generalize l[p] = ch at *
        clear hp hps
        have M1 := Aside0.mk N1
        have M2 := Aside0.mk N2
        clear N1 N2
        generalize hout : (⟨out.toArray⟩ : ByteArray) = a at *
        cases esc
        · by_cases c37 : ch = 37
          · subst c37
            have hA' := Aside0.mk (show out ++ fillL lb (itoa (df.tdiv dv)) true (List.drop (p + 1) l) = T from hA)
            clear hA hch he
            go_wp2
            go_roundg g1
            case measure => omega
            case rel => exact ⟨out, true, p + 1, by rw [hout], rfl, hA', ⟨HK'.out.2⟩, M2, ⟨N3⟩, ⟨N4⟩, M1⟩
          · have c37b : ((ch.toNat : Int) == 37) = false := beq_eq_false_iff_ne.mpr (fun h => c37 (UInt8.toNat_inj.mp (by simpa using Int.ofNat_inj.mp h)))
            have hA' := Aside0.mk (show (out ++ [ch]) ++ fillL lb (itoa (df.tdiv dv)) false (List.drop (p + 1) l) = T by
              rw [fillL, if_neg c37] at hA
              rw [← hA]
              simp)
            clear hA hch c37
            have hsz : a.size + (Utf8.encode (ch.toNat : Int)).size ≤ 9223372036854775807 := by
              have := congrArg List.length hA'.out
              rw [he, ← hout, mk_size, mk_size]
              simp only [List.length_append] at this
              omega
            have HE := Aside0.mk he
            clear he
            generalize heb : Utf8.encode (ch.toNat : Int) = eb at *
            obtain ⟨s1, s2, s3⟩ := three_le hsz
            clear hsz
            go_wp2
            go_roundg g1
            case measure => omega
            case rel => exact ⟨out ++ [ch], false, p + 1, by rw [← mk_app, hout, HE.out], rfl, hA', ⟨HK'.out.2⟩, M2, ⟨N3⟩, ⟨N4⟩, M1⟩
        · by_cases c115 : ch = 115
          · subst c115
            have hA' := Aside0.mk (show (out ++ lb) ++ fillL lb (itoa (df.tdiv dv)) false (List.drop (p + 1) l) = T by
              rw [fillL, if_pos rfl] at hA
              rw [← hA]
              simp)
            clear hA hch he
            have hsz : a.size + LB.size ≤ 9223372036854775807 := by
              have := congrArg List.length hA'.out
              rw [← hLB, ← hout, mk_size, mk_size]
              simp only [List.length_append] at this
              omega
            obtain ⟨s1, s2, s3⟩ := three_le hsz
            clear hsz
            go_wp2
            go_roundg g1
            case measure => omega
            case rel => exact ⟨out ++ lb, false, p + 1, by rw [← mk_app, hout, hLB], rfl, hA', ⟨HK'.out.2⟩, M2, ⟨N3⟩, ⟨N4⟩, M1⟩
          · have c115b : ((ch.toNat : Int) == 115) = false := beq_eq_false_iff_ne.mpr (fun h => c115 (UInt8.toNat_inj.mp (by simpa using Int.ofNat_inj.mp h)))
            by_cases c100 : ch = 100
            · subst c100
              have hA' := Aside0.mk (show (out ++ itoa (df.tdiv dv)) ++ fillL lb (itoa (df.tdiv dv)) false (List.drop (p + 1) l) = T by
                rw [fillL, if_neg (by decide), if_pos rfl] at hA
                rw [← hA]
                simp)
              clear hA hch he c115 c115b
              have hsz : a.size + (decB (df.tdiv dv)).size ≤ 9223372036854775807 := by
                have := congrArg List.length hA'.out
                unfold decB
                rw [← hout, mk_size, mk_size]
                simp only [List.length_append] at this
                omega
              have hcall : Hid (Calls Tryd.prog 32 #[.int .i64 (df.tdiv dv)] wn fun e w' => e = .returned (.string (decB (df.tdiv dv))) ∧ Below wn.heap.size wn w') :=
                Lib.hid (number_any (df.tdiv dv) (by have := HQN.out; omega) (by have := HQN.out; have := HDB.out; omega) wn (below_tab M1.out HT.out))
              have hsb : w.heap.size + 1 + 1 + 1 < wn.heap.size := (Array.getElem?_eq_some_iff.1 M2.out).1
              have HSB := Aside0.mk hsb
              clear hsb
              generalize hNB : decB (df.tdiv dv) = NB at *
              obtain ⟨s1, s2, s3⟩ := three_le hsz
              clear hsz
              go_wp2_with (go_at_call 32; refine hcall.out.mono ?_; rintro e w5 ⟨rfl, hb5⟩; have HB5 := Aside0.mk hb5; clear hb5)
              go_roundg g1
              case measure => omega
              case rel => exact ⟨out ++ itoa (df.tdiv dv), false, p + 1, by rw [← mk_app, hout, ← hNB]; rfl, rfl, hA', ⟨HK'.out.2⟩, ⟨by rw [HB5.out.block _ HSB.out]; exact M2.out⟩, ⟨by rw [HB5.out.cell (by have := HSB.out; show w.heap.size + 1 < _; omega)]; exact N3⟩, ⟨by rw [HB5.out.cell (by have := HSB.out; show w.heap.size + 1 + 1 < _; omega)]; exact N4⟩, ⟨M1.out.trans (HB5.out.mono M1.out.size)⟩⟩
            · have c100b : ((ch.toNat : Int) == 100) = false := beq_eq_false_iff_ne.mpr (fun h => c100 (UInt8.toNat_inj.mp (by simpa using Int.ofNat_inj.mp h)))
              have hA' := Aside0.mk (show (out ++ [ch]) ++ fillL lb (itoa (df.tdiv dv)) false (List.drop (p + 1) l) = T by
                rw [fillL, if_neg c115, if_neg c100] at hA
                rw [← hA]
                simp)
              clear hA hch c115 c100
              have hsz : a.size + (Utf8.encode (ch.toNat : Int)).size ≤ 9223372036854775807 := by
                have := congrArg List.length hA'.out
                rw [he, ← hout, mk_size, mk_size]
                simp only [List.length_append] at this
                omega
              have HE := Aside0.mk he
              clear he
              generalize heb : Utf8.encode (ch.toNat : Int) = eb at *
              obtain ⟨s1, s2, s3⟩ := three_le hsz
              clear hsz
              go_wp2
              go_roundg g1
              case measure => omega
              case rel => exact ⟨out ++ [ch], false, p + 1, by rw [← mk_app, hout, HE.out], rfl, hA', ⟨HK'.out.2⟩, M2, ⟨N3⟩, ⟨N4⟩, M1⟩
      · have hps : ¬ p < (⟨l.toArray⟩ : ByteArray).size := by rw [mk_size]; exact hp
        have hnx : ∀ ty, (Instr.next (.pointer (some ⟨w.heap.size + 1 + 1 + 1, 0, none⟩)) true ty).run Tryd.prog wr = .ok (.tuple #[.bool false]) wr := fun ty => run_next_end_at wr _ _ p ty HW2.out hps
        have hA := HA.out
        rw [List.drop_of_length_le (by omega)] at hA
        have hA : out = T := by
          cases esc <;> simpa [fillL] using hA
        subst hA
        clear HW2 HW3 HW4 hp hps HA HK
        by_cases hlb : lb = []
        · have hz := HRR.out.1 hlb
          subst hlb
          subst hLB
          generalize (⟨out.toArray⟩ : ByteArray) = a at *
          have HZZ := Lib.hid hz
          clear hz
          go_wp2_with (go_at_call 33; refine (humanize_zzRight.calls k a R _ HZZ.out).mono ?_; rintro e w5 ⟨rfl, ⟨nq, rfl⟩⟩)
          go_ret
          exact ⟨rfl, below_drewN HW1.out nq⟩
        · have hz := HRR.out.2 hlb
          have hbe : (LB.toList == []) = false := by
            rw [← hLB]
            simpa using hlb
          subst hz
          go_wp2
          go_ret
          exact ⟨rfl, HW1.out⟩
end Go.Proofs.YtmdgbbiipjmenaaDoor.Rel
