/- spec.Long, walked. Printed by wip/genlong.py. -/
import Derived.Test.YtmdgbbiipjmenaaDoorRel
import Derived.Test.YtmdgbbiipjmenaaDoorPureDec
namespace Go.Proofs.YtmdgbbiipjmenaaDoor.Long
open Go.RowKit Go.Lib Go.Sort Go.Proofs.YtmdgbbiipjmenaaDoor.PAll Go.Proofs.YtmdgbbiipjmenaaDoorW.PrintWords Go.Proofs.YtmdgbbiipjmenaaDoorW.PrintLast Go.Proofs.YtmdgbbiipjmenaaDoor.PlainDec Go.Proofs.YtmdgbbiipjmenaaDoor.PureDec Go.Proofs.YtmdgbbiipjmenaaDoor.Ord Go.Proofs.YtmdgbbiipjmenaaDoor.OrdLaw Go.Proofs.YtmdgbbiipjmenaaDoor.Rel
set_option linter.unusedVariables false
def longL (n : Int) (lb : List UInt8) : List UInt8 :=
  if n < 1000000000 then ([110, 111, 119] : List UInt8) else
  if n < 2000000000 then [49, 32, 115, 101, 99, 111, 110, 100, 32] ++ lb else
  if n < 60000000000 then itoa (n.tdiv 1000000000) ++ (32 :: [115, 101, 99, 111, 110, 100, 115] ++ 32 :: lb) else
  if n < 120000000000 then [49, 32, 109, 105, 110, 117, 116, 101, 32] ++ lb else
  if n < 3600000000000 then itoa (n.tdiv 60000000000) ++ (32 :: [109, 105, 110, 117, 116, 101, 115] ++ 32 :: lb) else
  if n < 7200000000000 then [49, 32, 104, 111, 117, 114, 32] ++ lb else
  if n < 86400000000000 then itoa (n.tdiv 3600000000000) ++ (32 :: [104, 111, 117, 114, 115] ++ 32 :: lb) else
  if n < 172800000000000 then [49, 32, 100, 97, 121, 32] ++ lb else
  if n < 604800000000000 then itoa (n.tdiv 86400000000000) ++ (32 :: [100, 97, 121, 115] ++ 32 :: lb) else
  if n < 1209600000000000 then [49, 32, 119, 101, 101, 107, 32] ++ lb else
  if n < 2592000000000000 then itoa (n.tdiv 604800000000000) ++ (32 :: [119, 101, 101, 107, 115] ++ 32 :: lb) else
  if n < 5184000000000000 then [49, 32, 109, 111, 110, 116, 104, 32] ++ lb else
  if n < 31104000000000000 then itoa (n.tdiv 2592000000000000) ++ (32 :: [109, 111, 110, 116, 104, 115] ++ 32 :: lb) else
  if n < 46656000000000000 then [49, 32, 121, 101, 97, 114, 32] ++ lb else
  if n < 62208000000000000 then [50, 32, 121, 101, 97, 114, 115, 32] ++ lb else
  if n < 1150848000000000000 then itoa (n.tdiv 31104000000000000) ++ (32 :: [121, 101, 97, 114, 115] ++ 32 :: lb) else
  [97, 32, 108, 111, 110, 103, 32, 119, 104, 105, 108, 101, 32] ++ lb
set_option maxHeartbeats 1000000 in
theorem many_any (by_ n : Int) (wd lb : ByteArray) (hn : 0 ≤ n) (hn1 : n ≤ 9223372036854775807) (hb : 0 < by_) (hw : wd.size ≤ 1000) (hl : lb.size ≤ 1000) (b1 b2 : Nat) (w : World) (h1 : w.cell? ⟨b1, 0, none⟩ = some (.int .i64 n)) (h2 : w.cell? ⟨b2, 0, none⟩ = some (.string lb)) :
    Calls Tryd.prog 23 #[.int .i64 by_, .string wd, .pointer (some ⟨b1, 0, none⟩), .pointer (some ⟨b2, 0, none⟩)] w fun e w' => e = .returned (.string (decB (n.tdiv by_) ++ (⟨#[32]⟩ : ByteArray) ++ wd ++ (⟨#[32]⟩ : ByteArray) ++ lb)) ∧ Below w.heap.size w w' := by
  have hq : 0 ≤ n.tdiv by_ ∧ n.tdiv by_ ≤ n := ⟨Int.tdiv_nonneg hn (by omega), by
    rw [Int.tdiv_eq_ediv_of_nonneg hn]
    exact Int.ediv_le_self _ hn⟩
  have hqw : wrap64 (n.tdiv by_) = n.tdiv by_ := wr _ (by omega) (by omega)
  have hd := Lib.hid (decimal_ok (n.tdiv by_) (by omega) (by omega) 20 (by omega))
  have hz : (by_ == 0) = false := beq_eq_false_iff_ne.mpr (by omega)
  have hz' : ¬ by_ = 0 := by omega
  have hsz : (decB (n.tdiv by_)).size ≤ 100 := by
    have := itoa_len (n.tdiv by_) (by omega) (by omega)
    unfold decB
    rw [mk_size]
    omega
  generalize hnq : n.tdiv by_ = q at *
  generalize hdq : decB q = s at *
  have t1 : s.size + 1 + wd.size + 1 + lb.size ≤ 9223372036854775807 := by omega
  have u1 : (9223372036854775807 < s.size + 1) = False := eq_false (by omega)
  have u2 : (9223372036854775807 < s.size + 1 + wd.size) = False := eq_false (by omega)
  have u3 : (9223372036854775807 < s.size + 1 + wd.size + 1) = False := eq_false (by omega)
  have u4 : (9223372036854775807 < s.size + 1 + wd.size + 1 + lb.size) = False := eq_false (by omega)
  have v1 : s.size + 1 ≤ 9223372036854775807 := by omega
  have v2 : s.size + 1 + wd.size ≤ 9223372036854775807 := by omega
  have v3 : s.size + 1 + wd.size + 1 ≤ 9223372036854775807 := by omega
  clear hn hn1 hb hw hl hq hsz
  go_enter Tryd.func23, Tryd.ntmps23
  go_wp2
  go_quiet (first | (go_at_call 18; refine (spec_Decimal.calls 20 q s _ hd.out).mono ?_; rintro e w' ⟨rfl, ⟨nd, rfl⟩⟩; first | exact ⟨rfl, _, World.drewN_drewN _ _ _⟩ | exact ⟨rfl, _, Eq.trans (World.drewN_drewN _ _ _) (congrArg (World.drewN _) (Nat.add_assoc _ _ _))⟩))
  go_wp2
  go_ret
  exact ⟨rfl, below_drewN (Below.refl _ _) _⟩
set_option maxHeartbeats 1000000 in
theorem long_0 (n : Int) (h0 : 0 ≤ n) (h1 : n ≤ 9223372036854775807) (lb : List UInt8) (hl : lb.length ≤ 1000) (g0 : n < 1000000000) (w : World) :
    Calls Tryd.prog 13 #[.int .i64 n, .string ⟨lb.toArray⟩] w fun e w' => e = .returned (.string ⟨(([110, 111, 119] : List UInt8)).toArray⟩) ∧ Below w.heap.size w w' := by
  generalize hB : (⟨lb.toArray⟩ : ByteArray) = lbB
  have hl2 : lbB.size ≤ 1000 := by rw [← hB, mk_size]; exact hl
  have f0 : decide (n < 1000000000) = true := decide_eq_true g0
  have hmf : ∀ (fn : Fn) (first cap : Array Value) (w : World), (Instr.makeFunc fn first cap).run Tryd.prog w = .ok (.func fn first cap) w := fun _ _ _ _ => rfl
  go_enter Tryd.func13, Tryd.ntmps13
  have HH : Below w.heap.size w ((w.alloc (.cells #[.int .i64 n] 2)).alloc (.cells #[.string lbB] 9)) := Below.alloc (Below.alloc (Below.refl _ _) (Nat.le_refl _) _) (by simp) _
  go_wp2
  go_ret
  exact ⟨rfl, HH⟩
set_option maxHeartbeats 1000000 in
theorem long_1 (n : Int) (h0 : 0 ≤ n) (h1 : n ≤ 9223372036854775807) (lb : List UInt8) (hl : lb.length ≤ 1000) (g0 : ¬ n < 1000000000) (g1 : n < 2000000000) (w : World) :
    Calls Tryd.prog 13 #[.int .i64 n, .string ⟨lb.toArray⟩] w fun e w' => e = .returned (.string ⟨([49, 32, 115, 101, 99, 111, 110, 100, 32] ++ lb).toArray⟩) ∧ Below w.heap.size w w' := by
  generalize hB : (⟨lb.toArray⟩ : ByteArray) = lbB
  have hl2 : lbB.size ≤ 1000 := by rw [← hB, mk_size]; exact hl
  have f0 : decide (n < 1000000000) = false := decide_eq_false (by omega)
  have f1 : decide (n < 2000000000) = true := decide_eq_true g1
  have u1 : (9223372036854775807 < 9 + lbB.size) = False := eq_false (by omega)
  have v1 : 9 + lbB.size ≤ 9223372036854775807 := by omega
  have hmf : ∀ (fn : Fn) (first cap : Array Value) (w : World), (Instr.makeFunc fn first cap).run Tryd.prog w = .ok (.func fn first cap) w := fun _ _ _ _ => rfl
  go_enter Tryd.func13, Tryd.ntmps13
  have HH : Below w.heap.size w ((w.alloc (.cells #[.int .i64 n] 2)).alloc (.cells #[.string lbB] 9)) := Below.alloc (Below.alloc (Below.refl _ _) (Nat.le_refl _) _) (by simp) _
  go_wp2
  go_ret
  exact ⟨by rw [← hB, show (⟨#[49, 32, 115, 101, 99, 111, 110, 100, 32]⟩ : ByteArray) = ⟨([49, 32, 115, 101, 99, 111, 110, 100, 32] : List UInt8).toArray⟩ from rfl, mk_app]; rfl, HH⟩
set_option maxHeartbeats 1000000 in
theorem long_2 (n : Int) (h0 : 0 ≤ n) (h1 : n ≤ 9223372036854775807) (lb : List UInt8) (hl : lb.length ≤ 1000) (g1 : ¬ n < 2000000000) (g2 : n < 60000000000) (w : World) :
    Calls Tryd.prog 13 #[.int .i64 n, .string ⟨lb.toArray⟩] w fun e w' => e = .returned (.string ⟨(itoa (n.tdiv 1000000000) ++ (32 :: [115, 101, 99, 111, 110, 100, 115] ++ 32 :: lb)).toArray⟩) ∧ Below w.heap.size w w' := by
  generalize hB : (⟨lb.toArray⟩ : ByteArray) = lbB
  have hl2 : lbB.size ≤ 1000 := by rw [← hB, mk_size]; exact hl
  have f0 : decide (n < 1000000000) = false := decide_eq_false (by omega)
  have f1 : decide (n < 2000000000) = false := decide_eq_false (by omega)
  have f2 : decide (n < 60000000000) = true := decide_eq_true g2
  have hmf : ∀ (fn : Fn) (first cap : Array Value) (w : World), (Instr.makeFunc fn first cap).run Tryd.prog w = .ok (.func fn first cap) w := fun _ _ _ _ => rfl
  go_enter Tryd.func13, Tryd.ntmps13
  have HH : Below w.heap.size w ((w.alloc (.cells #[.int .i64 n] 2)).alloc (.cells #[.string lbB] 9)) := Below.alloc (Below.alloc (Below.refl _ _) (Nat.le_refl _) _) (by simp) _
  go_wp2_with (first | (go_at_call 23; refine (many_any 1000000000 n (⟨#[115, 101, 99, 111, 110, 100, 115]⟩ : ByteArray) lbB h0 h1 (by omega) (by decide) hl2 _ _ _ (by simp) (by simp)).mono ?_; rintro e w2 ⟨rfl, hb⟩))
  go_ret
  exact ⟨by rw [← hB, show (⟨#[32]⟩ : ByteArray) = ⟨([32] : List UInt8).toArray⟩ from rfl, show (⟨#[115, 101, 99, 111, 110, 100, 115]⟩ : ByteArray) = ⟨([115, 101, 99, 111, 110, 100, 115] : List UInt8).toArray⟩ from rfl, decB, mk_app, mk_app, mk_app, mk_app]; simp, HH.trans (hb.mono HH.size)⟩
set_option maxHeartbeats 1000000 in
theorem long_3 (n : Int) (h0 : 0 ≤ n) (h1 : n ≤ 9223372036854775807) (lb : List UInt8) (hl : lb.length ≤ 1000) (g2 : ¬ n < 60000000000) (g3 : n < 120000000000) (w : World) :
    Calls Tryd.prog 13 #[.int .i64 n, .string ⟨lb.toArray⟩] w fun e w' => e = .returned (.string ⟨([49, 32, 109, 105, 110, 117, 116, 101, 32] ++ lb).toArray⟩) ∧ Below w.heap.size w w' := by
  generalize hB : (⟨lb.toArray⟩ : ByteArray) = lbB
  have hl2 : lbB.size ≤ 1000 := by rw [← hB, mk_size]; exact hl
  have f0 : decide (n < 1000000000) = false := decide_eq_false (by omega)
  have f1 : decide (n < 2000000000) = false := decide_eq_false (by omega)
  have f2 : decide (n < 60000000000) = false := decide_eq_false (by omega)
  have f3 : decide (n < 120000000000) = true := decide_eq_true g3
  have u1 : (9223372036854775807 < 9 + lbB.size) = False := eq_false (by omega)
  have v1 : 9 + lbB.size ≤ 9223372036854775807 := by omega
  have hmf : ∀ (fn : Fn) (first cap : Array Value) (w : World), (Instr.makeFunc fn first cap).run Tryd.prog w = .ok (.func fn first cap) w := fun _ _ _ _ => rfl
  go_enter Tryd.func13, Tryd.ntmps13
  have HH : Below w.heap.size w ((w.alloc (.cells #[.int .i64 n] 2)).alloc (.cells #[.string lbB] 9)) := Below.alloc (Below.alloc (Below.refl _ _) (Nat.le_refl _) _) (by simp) _
  go_wp2
  go_ret
  exact ⟨by rw [← hB, show (⟨#[49, 32, 109, 105, 110, 117, 116, 101, 32]⟩ : ByteArray) = ⟨([49, 32, 109, 105, 110, 117, 116, 101, 32] : List UInt8).toArray⟩ from rfl, mk_app]; rfl, HH⟩
set_option maxHeartbeats 1000000 in
theorem long_4 (n : Int) (h0 : 0 ≤ n) (h1 : n ≤ 9223372036854775807) (lb : List UInt8) (hl : lb.length ≤ 1000) (g3 : ¬ n < 120000000000) (g4 : n < 3600000000000) (w : World) :
    Calls Tryd.prog 13 #[.int .i64 n, .string ⟨lb.toArray⟩] w fun e w' => e = .returned (.string ⟨(itoa (n.tdiv 60000000000) ++ (32 :: [109, 105, 110, 117, 116, 101, 115] ++ 32 :: lb)).toArray⟩) ∧ Below w.heap.size w w' := by
  generalize hB : (⟨lb.toArray⟩ : ByteArray) = lbB
  have hl2 : lbB.size ≤ 1000 := by rw [← hB, mk_size]; exact hl
  have f0 : decide (n < 1000000000) = false := decide_eq_false (by omega)
  have f1 : decide (n < 2000000000) = false := decide_eq_false (by omega)
  have f2 : decide (n < 60000000000) = false := decide_eq_false (by omega)
  have f3 : decide (n < 120000000000) = false := decide_eq_false (by omega)
  have f4 : decide (n < 3600000000000) = true := decide_eq_true g4
  have hmf : ∀ (fn : Fn) (first cap : Array Value) (w : World), (Instr.makeFunc fn first cap).run Tryd.prog w = .ok (.func fn first cap) w := fun _ _ _ _ => rfl
  go_enter Tryd.func13, Tryd.ntmps13
  have HH : Below w.heap.size w ((w.alloc (.cells #[.int .i64 n] 2)).alloc (.cells #[.string lbB] 9)) := Below.alloc (Below.alloc (Below.refl _ _) (Nat.le_refl _) _) (by simp) _
  go_wp2_with (first | (go_at_call 23; refine (many_any 60000000000 n (⟨#[109, 105, 110, 117, 116, 101, 115]⟩ : ByteArray) lbB h0 h1 (by omega) (by decide) hl2 _ _ _ (by simp) (by simp)).mono ?_; rintro e w2 ⟨rfl, hb⟩))
  go_ret
  exact ⟨by rw [← hB, show (⟨#[32]⟩ : ByteArray) = ⟨([32] : List UInt8).toArray⟩ from rfl, show (⟨#[109, 105, 110, 117, 116, 101, 115]⟩ : ByteArray) = ⟨([109, 105, 110, 117, 116, 101, 115] : List UInt8).toArray⟩ from rfl, decB, mk_app, mk_app, mk_app, mk_app]; simp, HH.trans (hb.mono HH.size)⟩
set_option maxHeartbeats 1000000 in
theorem long_5 (n : Int) (h0 : 0 ≤ n) (h1 : n ≤ 9223372036854775807) (lb : List UInt8) (hl : lb.length ≤ 1000) (g4 : ¬ n < 3600000000000) (g5 : n < 7200000000000) (w : World) :
    Calls Tryd.prog 13 #[.int .i64 n, .string ⟨lb.toArray⟩] w fun e w' => e = .returned (.string ⟨([49, 32, 104, 111, 117, 114, 32] ++ lb).toArray⟩) ∧ Below w.heap.size w w' := by
  generalize hB : (⟨lb.toArray⟩ : ByteArray) = lbB
  have hl2 : lbB.size ≤ 1000 := by rw [← hB, mk_size]; exact hl
  have f0 : decide (n < 1000000000) = false := decide_eq_false (by omega)
  have f1 : decide (n < 2000000000) = false := decide_eq_false (by omega)
  have f2 : decide (n < 60000000000) = false := decide_eq_false (by omega)
  have f3 : decide (n < 120000000000) = false := decide_eq_false (by omega)
  have f4 : decide (n < 3600000000000) = false := decide_eq_false (by omega)
  have f5 : decide (n < 7200000000000) = true := decide_eq_true g5
  have u1 : (9223372036854775807 < 7 + lbB.size) = False := eq_false (by omega)
  have v1 : 7 + lbB.size ≤ 9223372036854775807 := by omega
  have hmf : ∀ (fn : Fn) (first cap : Array Value) (w : World), (Instr.makeFunc fn first cap).run Tryd.prog w = .ok (.func fn first cap) w := fun _ _ _ _ => rfl
  go_enter Tryd.func13, Tryd.ntmps13
  have HH : Below w.heap.size w ((w.alloc (.cells #[.int .i64 n] 2)).alloc (.cells #[.string lbB] 9)) := Below.alloc (Below.alloc (Below.refl _ _) (Nat.le_refl _) _) (by simp) _
  go_wp2
  go_ret
  exact ⟨by rw [← hB, show (⟨#[49, 32, 104, 111, 117, 114, 32]⟩ : ByteArray) = ⟨([49, 32, 104, 111, 117, 114, 32] : List UInt8).toArray⟩ from rfl, mk_app]; rfl, HH⟩
set_option maxHeartbeats 1000000 in
theorem long_6 (n : Int) (h0 : 0 ≤ n) (h1 : n ≤ 9223372036854775807) (lb : List UInt8) (hl : lb.length ≤ 1000) (g5 : ¬ n < 7200000000000) (g6 : n < 86400000000000) (w : World) :
    Calls Tryd.prog 13 #[.int .i64 n, .string ⟨lb.toArray⟩] w fun e w' => e = .returned (.string ⟨(itoa (n.tdiv 3600000000000) ++ (32 :: [104, 111, 117, 114, 115] ++ 32 :: lb)).toArray⟩) ∧ Below w.heap.size w w' := by
  generalize hB : (⟨lb.toArray⟩ : ByteArray) = lbB
  have hl2 : lbB.size ≤ 1000 := by rw [← hB, mk_size]; exact hl
  have f0 : decide (n < 1000000000) = false := decide_eq_false (by omega)
  have f1 : decide (n < 2000000000) = false := decide_eq_false (by omega)
  have f2 : decide (n < 60000000000) = false := decide_eq_false (by omega)
  have f3 : decide (n < 120000000000) = false := decide_eq_false (by omega)
  have f4 : decide (n < 3600000000000) = false := decide_eq_false (by omega)
  have f5 : decide (n < 7200000000000) = false := decide_eq_false (by omega)
  have f6 : decide (n < 86400000000000) = true := decide_eq_true g6
  have hmf : ∀ (fn : Fn) (first cap : Array Value) (w : World), (Instr.makeFunc fn first cap).run Tryd.prog w = .ok (.func fn first cap) w := fun _ _ _ _ => rfl
  go_enter Tryd.func13, Tryd.ntmps13
  have HH : Below w.heap.size w ((w.alloc (.cells #[.int .i64 n] 2)).alloc (.cells #[.string lbB] 9)) := Below.alloc (Below.alloc (Below.refl _ _) (Nat.le_refl _) _) (by simp) _
  go_wp2_with (first | (go_at_call 23; refine (many_any 3600000000000 n (⟨#[104, 111, 117, 114, 115]⟩ : ByteArray) lbB h0 h1 (by omega) (by decide) hl2 _ _ _ (by simp) (by simp)).mono ?_; rintro e w2 ⟨rfl, hb⟩))
  go_ret
  exact ⟨by rw [← hB, show (⟨#[32]⟩ : ByteArray) = ⟨([32] : List UInt8).toArray⟩ from rfl, show (⟨#[104, 111, 117, 114, 115]⟩ : ByteArray) = ⟨([104, 111, 117, 114, 115] : List UInt8).toArray⟩ from rfl, decB, mk_app, mk_app, mk_app, mk_app]; simp, HH.trans (hb.mono HH.size)⟩
set_option maxHeartbeats 1000000 in
theorem long_7 (n : Int) (h0 : 0 ≤ n) (h1 : n ≤ 9223372036854775807) (lb : List UInt8) (hl : lb.length ≤ 1000) (g6 : ¬ n < 86400000000000) (g7 : n < 172800000000000) (w : World) :
    Calls Tryd.prog 13 #[.int .i64 n, .string ⟨lb.toArray⟩] w fun e w' => e = .returned (.string ⟨([49, 32, 100, 97, 121, 32] ++ lb).toArray⟩) ∧ Below w.heap.size w w' := by
  generalize hB : (⟨lb.toArray⟩ : ByteArray) = lbB
  have hl2 : lbB.size ≤ 1000 := by rw [← hB, mk_size]; exact hl
  have f0 : decide (n < 1000000000) = false := decide_eq_false (by omega)
  have f1 : decide (n < 2000000000) = false := decide_eq_false (by omega)
  have f2 : decide (n < 60000000000) = false := decide_eq_false (by omega)
  have f3 : decide (n < 120000000000) = false := decide_eq_false (by omega)
  have f4 : decide (n < 3600000000000) = false := decide_eq_false (by omega)
  have f5 : decide (n < 7200000000000) = false := decide_eq_false (by omega)
  have f6 : decide (n < 86400000000000) = false := decide_eq_false (by omega)
  have f7 : decide (n < 172800000000000) = true := decide_eq_true g7
  have u1 : (9223372036854775807 < 6 + lbB.size) = False := eq_false (by omega)
  have v1 : 6 + lbB.size ≤ 9223372036854775807 := by omega
  have hmf : ∀ (fn : Fn) (first cap : Array Value) (w : World), (Instr.makeFunc fn first cap).run Tryd.prog w = .ok (.func fn first cap) w := fun _ _ _ _ => rfl
  go_enter Tryd.func13, Tryd.ntmps13
  have HH : Below w.heap.size w ((w.alloc (.cells #[.int .i64 n] 2)).alloc (.cells #[.string lbB] 9)) := Below.alloc (Below.alloc (Below.refl _ _) (Nat.le_refl _) _) (by simp) _
  go_wp2
  go_ret
  exact ⟨by rw [← hB, show (⟨#[49, 32, 100, 97, 121, 32]⟩ : ByteArray) = ⟨([49, 32, 100, 97, 121, 32] : List UInt8).toArray⟩ from rfl, mk_app]; rfl, HH⟩
set_option maxHeartbeats 1000000 in
theorem long_8 (n : Int) (h0 : 0 ≤ n) (h1 : n ≤ 9223372036854775807) (lb : List UInt8) (hl : lb.length ≤ 1000) (g7 : ¬ n < 172800000000000) (g8 : n < 604800000000000) (w : World) :
    Calls Tryd.prog 13 #[.int .i64 n, .string ⟨lb.toArray⟩] w fun e w' => e = .returned (.string ⟨(itoa (n.tdiv 86400000000000) ++ (32 :: [100, 97, 121, 115] ++ 32 :: lb)).toArray⟩) ∧ Below w.heap.size w w' := by
  generalize hB : (⟨lb.toArray⟩ : ByteArray) = lbB
  have hl2 : lbB.size ≤ 1000 := by rw [← hB, mk_size]; exact hl
  have f0 : decide (n < 1000000000) = false := decide_eq_false (by omega)
  have f1 : decide (n < 2000000000) = false := decide_eq_false (by omega)
  have f2 : decide (n < 60000000000) = false := decide_eq_false (by omega)
  have f3 : decide (n < 120000000000) = false := decide_eq_false (by omega)
  have f4 : decide (n < 3600000000000) = false := decide_eq_false (by omega)
  have f5 : decide (n < 7200000000000) = false := decide_eq_false (by omega)
  have f6 : decide (n < 86400000000000) = false := decide_eq_false (by omega)
  have f7 : decide (n < 172800000000000) = false := decide_eq_false (by omega)
  have f8 : decide (n < 604800000000000) = true := decide_eq_true g8
  have hmf : ∀ (fn : Fn) (first cap : Array Value) (w : World), (Instr.makeFunc fn first cap).run Tryd.prog w = .ok (.func fn first cap) w := fun _ _ _ _ => rfl
  go_enter Tryd.func13, Tryd.ntmps13
  have HH : Below w.heap.size w ((w.alloc (.cells #[.int .i64 n] 2)).alloc (.cells #[.string lbB] 9)) := Below.alloc (Below.alloc (Below.refl _ _) (Nat.le_refl _) _) (by simp) _
  go_wp2_with (first | (go_at_call 23; refine (many_any 86400000000000 n (⟨#[100, 97, 121, 115]⟩ : ByteArray) lbB h0 h1 (by omega) (by decide) hl2 _ _ _ (by simp) (by simp)).mono ?_; rintro e w2 ⟨rfl, hb⟩))
  go_ret
  exact ⟨by rw [← hB, show (⟨#[32]⟩ : ByteArray) = ⟨([32] : List UInt8).toArray⟩ from rfl, show (⟨#[100, 97, 121, 115]⟩ : ByteArray) = ⟨([100, 97, 121, 115] : List UInt8).toArray⟩ from rfl, decB, mk_app, mk_app, mk_app, mk_app]; simp, HH.trans (hb.mono HH.size)⟩
set_option maxHeartbeats 1000000 in
theorem long_9 (n : Int) (h0 : 0 ≤ n) (h1 : n ≤ 9223372036854775807) (lb : List UInt8) (hl : lb.length ≤ 1000) (g8 : ¬ n < 604800000000000) (g9 : n < 1209600000000000) (w : World) :
    Calls Tryd.prog 13 #[.int .i64 n, .string ⟨lb.toArray⟩] w fun e w' => e = .returned (.string ⟨([49, 32, 119, 101, 101, 107, 32] ++ lb).toArray⟩) ∧ Below w.heap.size w w' := by
  generalize hB : (⟨lb.toArray⟩ : ByteArray) = lbB
  have hl2 : lbB.size ≤ 1000 := by rw [← hB, mk_size]; exact hl
  have f0 : decide (n < 1000000000) = false := decide_eq_false (by omega)
  have f1 : decide (n < 2000000000) = false := decide_eq_false (by omega)
  have f2 : decide (n < 60000000000) = false := decide_eq_false (by omega)
  have f3 : decide (n < 120000000000) = false := decide_eq_false (by omega)
  have f4 : decide (n < 3600000000000) = false := decide_eq_false (by omega)
  have f5 : decide (n < 7200000000000) = false := decide_eq_false (by omega)
  have f6 : decide (n < 86400000000000) = false := decide_eq_false (by omega)
  have f7 : decide (n < 172800000000000) = false := decide_eq_false (by omega)
  have f8 : decide (n < 604800000000000) = false := decide_eq_false (by omega)
  have f9 : decide (n < 1209600000000000) = true := decide_eq_true g9
  have u1 : (9223372036854775807 < 7 + lbB.size) = False := eq_false (by omega)
  have v1 : 7 + lbB.size ≤ 9223372036854775807 := by omega
  have hmf : ∀ (fn : Fn) (first cap : Array Value) (w : World), (Instr.makeFunc fn first cap).run Tryd.prog w = .ok (.func fn first cap) w := fun _ _ _ _ => rfl
  go_enter Tryd.func13, Tryd.ntmps13
  have HH : Below w.heap.size w ((w.alloc (.cells #[.int .i64 n] 2)).alloc (.cells #[.string lbB] 9)) := Below.alloc (Below.alloc (Below.refl _ _) (Nat.le_refl _) _) (by simp) _
  go_wp2
  go_ret
  exact ⟨by rw [← hB, show (⟨#[49, 32, 119, 101, 101, 107, 32]⟩ : ByteArray) = ⟨([49, 32, 119, 101, 101, 107, 32] : List UInt8).toArray⟩ from rfl, mk_app]; rfl, HH⟩
set_option maxHeartbeats 1000000 in
theorem long_10 (n : Int) (h0 : 0 ≤ n) (h1 : n ≤ 9223372036854775807) (lb : List UInt8) (hl : lb.length ≤ 1000) (g9 : ¬ n < 1209600000000000) (g10 : n < 2592000000000000) (w : World) :
    Calls Tryd.prog 13 #[.int .i64 n, .string ⟨lb.toArray⟩] w fun e w' => e = .returned (.string ⟨(itoa (n.tdiv 604800000000000) ++ (32 :: [119, 101, 101, 107, 115] ++ 32 :: lb)).toArray⟩) ∧ Below w.heap.size w w' := by
  generalize hB : (⟨lb.toArray⟩ : ByteArray) = lbB
  have hl2 : lbB.size ≤ 1000 := by rw [← hB, mk_size]; exact hl
  have f0 : decide (n < 1000000000) = false := decide_eq_false (by omega)
  have f1 : decide (n < 2000000000) = false := decide_eq_false (by omega)
  have f2 : decide (n < 60000000000) = false := decide_eq_false (by omega)
  have f3 : decide (n < 120000000000) = false := decide_eq_false (by omega)
  have f4 : decide (n < 3600000000000) = false := decide_eq_false (by omega)
  have f5 : decide (n < 7200000000000) = false := decide_eq_false (by omega)
  have f6 : decide (n < 86400000000000) = false := decide_eq_false (by omega)
  have f7 : decide (n < 172800000000000) = false := decide_eq_false (by omega)
  have f8 : decide (n < 604800000000000) = false := decide_eq_false (by omega)
  have f9 : decide (n < 1209600000000000) = false := decide_eq_false (by omega)
  have f10 : decide (n < 2592000000000000) = true := decide_eq_true g10
  have hmf : ∀ (fn : Fn) (first cap : Array Value) (w : World), (Instr.makeFunc fn first cap).run Tryd.prog w = .ok (.func fn first cap) w := fun _ _ _ _ => rfl
  go_enter Tryd.func13, Tryd.ntmps13
  have HH : Below w.heap.size w ((w.alloc (.cells #[.int .i64 n] 2)).alloc (.cells #[.string lbB] 9)) := Below.alloc (Below.alloc (Below.refl _ _) (Nat.le_refl _) _) (by simp) _
  go_wp2_with (first | (go_at_call 23; refine (many_any 604800000000000 n (⟨#[119, 101, 101, 107, 115]⟩ : ByteArray) lbB h0 h1 (by omega) (by decide) hl2 _ _ _ (by simp) (by simp)).mono ?_; rintro e w2 ⟨rfl, hb⟩))
  go_ret
  exact ⟨by rw [← hB, show (⟨#[32]⟩ : ByteArray) = ⟨([32] : List UInt8).toArray⟩ from rfl, show (⟨#[119, 101, 101, 107, 115]⟩ : ByteArray) = ⟨([119, 101, 101, 107, 115] : List UInt8).toArray⟩ from rfl, decB, mk_app, mk_app, mk_app, mk_app]; simp, HH.trans (hb.mono HH.size)⟩
set_option maxHeartbeats 1000000 in
theorem long_11 (n : Int) (h0 : 0 ≤ n) (h1 : n ≤ 9223372036854775807) (lb : List UInt8) (hl : lb.length ≤ 1000) (g10 : ¬ n < 2592000000000000) (g11 : n < 5184000000000000) (w : World) :
    Calls Tryd.prog 13 #[.int .i64 n, .string ⟨lb.toArray⟩] w fun e w' => e = .returned (.string ⟨([49, 32, 109, 111, 110, 116, 104, 32] ++ lb).toArray⟩) ∧ Below w.heap.size w w' := by
  generalize hB : (⟨lb.toArray⟩ : ByteArray) = lbB
  have hl2 : lbB.size ≤ 1000 := by rw [← hB, mk_size]; exact hl
  have f0 : decide (n < 1000000000) = false := decide_eq_false (by omega)
  have f1 : decide (n < 2000000000) = false := decide_eq_false (by omega)
  have f2 : decide (n < 60000000000) = false := decide_eq_false (by omega)
  have f3 : decide (n < 120000000000) = false := decide_eq_false (by omega)
  have f4 : decide (n < 3600000000000) = false := decide_eq_false (by omega)
  have f5 : decide (n < 7200000000000) = false := decide_eq_false (by omega)
  have f6 : decide (n < 86400000000000) = false := decide_eq_false (by omega)
  have f7 : decide (n < 172800000000000) = false := decide_eq_false (by omega)
  have f8 : decide (n < 604800000000000) = false := decide_eq_false (by omega)
  have f9 : decide (n < 1209600000000000) = false := decide_eq_false (by omega)
  have f10 : decide (n < 2592000000000000) = false := decide_eq_false (by omega)
  have f11 : decide (n < 5184000000000000) = true := decide_eq_true g11
  have u1 : (9223372036854775807 < 8 + lbB.size) = False := eq_false (by omega)
  have v1 : 8 + lbB.size ≤ 9223372036854775807 := by omega
  have hmf : ∀ (fn : Fn) (first cap : Array Value) (w : World), (Instr.makeFunc fn first cap).run Tryd.prog w = .ok (.func fn first cap) w := fun _ _ _ _ => rfl
  go_enter Tryd.func13, Tryd.ntmps13
  have HH : Below w.heap.size w ((w.alloc (.cells #[.int .i64 n] 2)).alloc (.cells #[.string lbB] 9)) := Below.alloc (Below.alloc (Below.refl _ _) (Nat.le_refl _) _) (by simp) _
  go_wp2
  go_ret
  exact ⟨by rw [← hB, show (⟨#[49, 32, 109, 111, 110, 116, 104, 32]⟩ : ByteArray) = ⟨([49, 32, 109, 111, 110, 116, 104, 32] : List UInt8).toArray⟩ from rfl, mk_app]; rfl, HH⟩
set_option maxHeartbeats 1000000 in
theorem long_12 (n : Int) (h0 : 0 ≤ n) (h1 : n ≤ 9223372036854775807) (lb : List UInt8) (hl : lb.length ≤ 1000) (g11 : ¬ n < 5184000000000000) (g12 : n < 31104000000000000) (w : World) :
    Calls Tryd.prog 13 #[.int .i64 n, .string ⟨lb.toArray⟩] w fun e w' => e = .returned (.string ⟨(itoa (n.tdiv 2592000000000000) ++ (32 :: [109, 111, 110, 116, 104, 115] ++ 32 :: lb)).toArray⟩) ∧ Below w.heap.size w w' := by
  generalize hB : (⟨lb.toArray⟩ : ByteArray) = lbB
  have hl2 : lbB.size ≤ 1000 := by rw [← hB, mk_size]; exact hl
  have f0 : decide (n < 1000000000) = false := decide_eq_false (by omega)
  have f1 : decide (n < 2000000000) = false := decide_eq_false (by omega)
  have f2 : decide (n < 60000000000) = false := decide_eq_false (by omega)
  have f3 : decide (n < 120000000000) = false := decide_eq_false (by omega)
  have f4 : decide (n < 3600000000000) = false := decide_eq_false (by omega)
  have f5 : decide (n < 7200000000000) = false := decide_eq_false (by omega)
  have f6 : decide (n < 86400000000000) = false := decide_eq_false (by omega)
  have f7 : decide (n < 172800000000000) = false := decide_eq_false (by omega)
  have f8 : decide (n < 604800000000000) = false := decide_eq_false (by omega)
  have f9 : decide (n < 1209600000000000) = false := decide_eq_false (by omega)
  have f10 : decide (n < 2592000000000000) = false := decide_eq_false (by omega)
  have f11 : decide (n < 5184000000000000) = false := decide_eq_false (by omega)
  have f12 : decide (n < 31104000000000000) = true := decide_eq_true g12
  have hmf : ∀ (fn : Fn) (first cap : Array Value) (w : World), (Instr.makeFunc fn first cap).run Tryd.prog w = .ok (.func fn first cap) w := fun _ _ _ _ => rfl
  go_enter Tryd.func13, Tryd.ntmps13
  have HH : Below w.heap.size w ((w.alloc (.cells #[.int .i64 n] 2)).alloc (.cells #[.string lbB] 9)) := Below.alloc (Below.alloc (Below.refl _ _) (Nat.le_refl _) _) (by simp) _
  go_wp2_with (first | (go_at_call 23; refine (many_any 2592000000000000 n (⟨#[109, 111, 110, 116, 104, 115]⟩ : ByteArray) lbB h0 h1 (by omega) (by decide) hl2 _ _ _ (by simp) (by simp)).mono ?_; rintro e w2 ⟨rfl, hb⟩))
  go_ret
  exact ⟨by rw [← hB, show (⟨#[32]⟩ : ByteArray) = ⟨([32] : List UInt8).toArray⟩ from rfl, show (⟨#[109, 111, 110, 116, 104, 115]⟩ : ByteArray) = ⟨([109, 111, 110, 116, 104, 115] : List UInt8).toArray⟩ from rfl, decB, mk_app, mk_app, mk_app, mk_app]; simp, HH.trans (hb.mono HH.size)⟩
set_option maxHeartbeats 1000000 in
theorem long_13 (n : Int) (h0 : 0 ≤ n) (h1 : n ≤ 9223372036854775807) (lb : List UInt8) (hl : lb.length ≤ 1000) (g12 : ¬ n < 31104000000000000) (g13 : n < 46656000000000000) (w : World) :
    Calls Tryd.prog 13 #[.int .i64 n, .string ⟨lb.toArray⟩] w fun e w' => e = .returned (.string ⟨([49, 32, 121, 101, 97, 114, 32] ++ lb).toArray⟩) ∧ Below w.heap.size w w' := by
  generalize hB : (⟨lb.toArray⟩ : ByteArray) = lbB
  have hl2 : lbB.size ≤ 1000 := by rw [← hB, mk_size]; exact hl
  have f0 : decide (n < 1000000000) = false := decide_eq_false (by omega)
  have f1 : decide (n < 2000000000) = false := decide_eq_false (by omega)
  have f2 : decide (n < 60000000000) = false := decide_eq_false (by omega)
  have f3 : decide (n < 120000000000) = false := decide_eq_false (by omega)
  have f4 : decide (n < 3600000000000) = false := decide_eq_false (by omega)
  have f5 : decide (n < 7200000000000) = false := decide_eq_false (by omega)
  have f6 : decide (n < 86400000000000) = false := decide_eq_false (by omega)
  have f7 : decide (n < 172800000000000) = false := decide_eq_false (by omega)
  have f8 : decide (n < 604800000000000) = false := decide_eq_false (by omega)
  have f9 : decide (n < 1209600000000000) = false := decide_eq_false (by omega)
  have f10 : decide (n < 2592000000000000) = false := decide_eq_false (by omega)
  have f11 : decide (n < 5184000000000000) = false := decide_eq_false (by omega)
  have f12 : decide (n < 31104000000000000) = false := decide_eq_false (by omega)
  have f13 : decide (n < 46656000000000000) = true := decide_eq_true g13
  have u1 : (9223372036854775807 < 7 + lbB.size) = False := eq_false (by omega)
  have v1 : 7 + lbB.size ≤ 9223372036854775807 := by omega
  have hmf : ∀ (fn : Fn) (first cap : Array Value) (w : World), (Instr.makeFunc fn first cap).run Tryd.prog w = .ok (.func fn first cap) w := fun _ _ _ _ => rfl
  go_enter Tryd.func13, Tryd.ntmps13
  have HH : Below w.heap.size w ((w.alloc (.cells #[.int .i64 n] 2)).alloc (.cells #[.string lbB] 9)) := Below.alloc (Below.alloc (Below.refl _ _) (Nat.le_refl _) _) (by simp) _
  go_wp2
  go_ret
  exact ⟨by rw [← hB, show (⟨#[49, 32, 121, 101, 97, 114, 32]⟩ : ByteArray) = ⟨([49, 32, 121, 101, 97, 114, 32] : List UInt8).toArray⟩ from rfl, mk_app]; rfl, HH⟩
set_option maxHeartbeats 1000000 in
theorem long_14 (n : Int) (h0 : 0 ≤ n) (h1 : n ≤ 9223372036854775807) (lb : List UInt8) (hl : lb.length ≤ 1000) (g13 : ¬ n < 46656000000000000) (g14 : n < 62208000000000000) (w : World) :
    Calls Tryd.prog 13 #[.int .i64 n, .string ⟨lb.toArray⟩] w fun e w' => e = .returned (.string ⟨([50, 32, 121, 101, 97, 114, 115, 32] ++ lb).toArray⟩) ∧ Below w.heap.size w w' := by
  generalize hB : (⟨lb.toArray⟩ : ByteArray) = lbB
  have hl2 : lbB.size ≤ 1000 := by rw [← hB, mk_size]; exact hl
  have f0 : decide (n < 1000000000) = false := decide_eq_false (by omega)
  have f1 : decide (n < 2000000000) = false := decide_eq_false (by omega)
  have f2 : decide (n < 60000000000) = false := decide_eq_false (by omega)
  have f3 : decide (n < 120000000000) = false := decide_eq_false (by omega)
  have f4 : decide (n < 3600000000000) = false := decide_eq_false (by omega)
  have f5 : decide (n < 7200000000000) = false := decide_eq_false (by omega)
  have f6 : decide (n < 86400000000000) = false := decide_eq_false (by omega)
  have f7 : decide (n < 172800000000000) = false := decide_eq_false (by omega)
  have f8 : decide (n < 604800000000000) = false := decide_eq_false (by omega)
  have f9 : decide (n < 1209600000000000) = false := decide_eq_false (by omega)
  have f10 : decide (n < 2592000000000000) = false := decide_eq_false (by omega)
  have f11 : decide (n < 5184000000000000) = false := decide_eq_false (by omega)
  have f12 : decide (n < 31104000000000000) = false := decide_eq_false (by omega)
  have f13 : decide (n < 46656000000000000) = false := decide_eq_false (by omega)
  have f14 : decide (n < 62208000000000000) = true := decide_eq_true g14
  have u1 : (9223372036854775807 < 8 + lbB.size) = False := eq_false (by omega)
  have v1 : 8 + lbB.size ≤ 9223372036854775807 := by omega
  have hmf : ∀ (fn : Fn) (first cap : Array Value) (w : World), (Instr.makeFunc fn first cap).run Tryd.prog w = .ok (.func fn first cap) w := fun _ _ _ _ => rfl
  go_enter Tryd.func13, Tryd.ntmps13
  have HH : Below w.heap.size w ((w.alloc (.cells #[.int .i64 n] 2)).alloc (.cells #[.string lbB] 9)) := Below.alloc (Below.alloc (Below.refl _ _) (Nat.le_refl _) _) (by simp) _
  go_wp2
  go_ret
  exact ⟨by rw [← hB, show (⟨#[50, 32, 121, 101, 97, 114, 115, 32]⟩ : ByteArray) = ⟨([50, 32, 121, 101, 97, 114, 115, 32] : List UInt8).toArray⟩ from rfl, mk_app]; rfl, HH⟩
set_option maxHeartbeats 1000000 in
theorem long_15 (n : Int) (h0 : 0 ≤ n) (h1 : n ≤ 9223372036854775807) (lb : List UInt8) (hl : lb.length ≤ 1000) (g14 : ¬ n < 62208000000000000) (g15 : n < 1150848000000000000) (w : World) :
    Calls Tryd.prog 13 #[.int .i64 n, .string ⟨lb.toArray⟩] w fun e w' => e = .returned (.string ⟨(itoa (n.tdiv 31104000000000000) ++ (32 :: [121, 101, 97, 114, 115] ++ 32 :: lb)).toArray⟩) ∧ Below w.heap.size w w' := by
  generalize hB : (⟨lb.toArray⟩ : ByteArray) = lbB
  have hl2 : lbB.size ≤ 1000 := by rw [← hB, mk_size]; exact hl
  have f0 : decide (n < 1000000000) = false := decide_eq_false (by omega)
  have f1 : decide (n < 2000000000) = false := decide_eq_false (by omega)
  have f2 : decide (n < 60000000000) = false := decide_eq_false (by omega)
  have f3 : decide (n < 120000000000) = false := decide_eq_false (by omega)
  have f4 : decide (n < 3600000000000) = false := decide_eq_false (by omega)
  have f5 : decide (n < 7200000000000) = false := decide_eq_false (by omega)
  have f6 : decide (n < 86400000000000) = false := decide_eq_false (by omega)
  have f7 : decide (n < 172800000000000) = false := decide_eq_false (by omega)
  have f8 : decide (n < 604800000000000) = false := decide_eq_false (by omega)
  have f9 : decide (n < 1209600000000000) = false := decide_eq_false (by omega)
  have f10 : decide (n < 2592000000000000) = false := decide_eq_false (by omega)
  have f11 : decide (n < 5184000000000000) = false := decide_eq_false (by omega)
  have f12 : decide (n < 31104000000000000) = false := decide_eq_false (by omega)
  have f13 : decide (n < 46656000000000000) = false := decide_eq_false (by omega)
  have f14 : decide (n < 62208000000000000) = false := decide_eq_false (by omega)
  have f15 : decide (n < 1150848000000000000) = true := decide_eq_true g15
  have hmf : ∀ (fn : Fn) (first cap : Array Value) (w : World), (Instr.makeFunc fn first cap).run Tryd.prog w = .ok (.func fn first cap) w := fun _ _ _ _ => rfl
  go_enter Tryd.func13, Tryd.ntmps13
  have HH : Below w.heap.size w ((w.alloc (.cells #[.int .i64 n] 2)).alloc (.cells #[.string lbB] 9)) := Below.alloc (Below.alloc (Below.refl _ _) (Nat.le_refl _) _) (by simp) _
  go_wp2_with (first | (go_at_call 23; refine (many_any 31104000000000000 n (⟨#[121, 101, 97, 114, 115]⟩ : ByteArray) lbB h0 h1 (by omega) (by decide) hl2 _ _ _ (by simp) (by simp)).mono ?_; rintro e w2 ⟨rfl, hb⟩))
  go_ret
  exact ⟨by rw [← hB, show (⟨#[32]⟩ : ByteArray) = ⟨([32] : List UInt8).toArray⟩ from rfl, show (⟨#[121, 101, 97, 114, 115]⟩ : ByteArray) = ⟨([121, 101, 97, 114, 115] : List UInt8).toArray⟩ from rfl, decB, mk_app, mk_app, mk_app, mk_app]; simp, HH.trans (hb.mono HH.size)⟩
set_option maxHeartbeats 1000000 in
theorem long_16 (n : Int) (h0 : 0 ≤ n) (h1 : n ≤ 9223372036854775807) (lb : List UInt8) (hl : lb.length ≤ 1000) (g15 : ¬ n < 1150848000000000000) (w : World) :
    Calls Tryd.prog 13 #[.int .i64 n, .string ⟨lb.toArray⟩] w fun e w' => e = .returned (.string ⟨([97, 32, 108, 111, 110, 103, 32, 119, 104, 105, 108, 101, 32] ++ lb).toArray⟩) ∧ Below w.heap.size w w' := by
  generalize hB : (⟨lb.toArray⟩ : ByteArray) = lbB
  have hl2 : lbB.size ≤ 1000 := by rw [← hB, mk_size]; exact hl
  have f0 : decide (n < 1000000000) = false := decide_eq_false (by omega)
  have f1 : decide (n < 2000000000) = false := decide_eq_false (by omega)
  have f2 : decide (n < 60000000000) = false := decide_eq_false (by omega)
  have f3 : decide (n < 120000000000) = false := decide_eq_false (by omega)
  have f4 : decide (n < 3600000000000) = false := decide_eq_false (by omega)
  have f5 : decide (n < 7200000000000) = false := decide_eq_false (by omega)
  have f6 : decide (n < 86400000000000) = false := decide_eq_false (by omega)
  have f7 : decide (n < 172800000000000) = false := decide_eq_false (by omega)
  have f8 : decide (n < 604800000000000) = false := decide_eq_false (by omega)
  have f9 : decide (n < 1209600000000000) = false := decide_eq_false (by omega)
  have f10 : decide (n < 2592000000000000) = false := decide_eq_false (by omega)
  have f11 : decide (n < 5184000000000000) = false := decide_eq_false (by omega)
  have f12 : decide (n < 31104000000000000) = false := decide_eq_false (by omega)
  have f13 : decide (n < 46656000000000000) = false := decide_eq_false (by omega)
  have f14 : decide (n < 62208000000000000) = false := decide_eq_false (by omega)
  have f15 : decide (n < 1150848000000000000) = false := decide_eq_false (by omega)
  have u1 : (9223372036854775807 < 13 + lbB.size) = False := eq_false (by omega)
  have v1 : 13 + lbB.size ≤ 9223372036854775807 := by omega
  have hmf : ∀ (fn : Fn) (first cap : Array Value) (w : World), (Instr.makeFunc fn first cap).run Tryd.prog w = .ok (.func fn first cap) w := fun _ _ _ _ => rfl
  go_enter Tryd.func13, Tryd.ntmps13
  have HH : Below w.heap.size w ((w.alloc (.cells #[.int .i64 n] 2)).alloc (.cells #[.string lbB] 9)) := Below.alloc (Below.alloc (Below.refl _ _) (Nat.le_refl _) _) (by simp) _
  go_wp2
  go_ret
  exact ⟨by rw [← hB, show (⟨#[97, 32, 108, 111, 110, 103, 32, 119, 104, 105, 108, 101, 32]⟩ : ByteArray) = ⟨([97, 32, 108, 111, 110, 103, 32, 119, 104, 105, 108, 101, 32] : List UInt8).toArray⟩ from rfl, mk_app]; rfl, HH⟩
theorem long_any (n : Int) (h0 : 0 ≤ n) (h1 : n ≤ 9223372036854775807) (lb : List UInt8) (hl : lb.length ≤ 1000) (w : World) :
    Calls Tryd.prog 13 #[.int .i64 n, .string ⟨lb.toArray⟩] w fun e w' => e = .returned (.string ⟨(longL n lb).toArray⟩) ∧ Below w.heap.size w w' := by
  unfold longL
  by_cases g0 : n < 1000000000
  · rw [if_pos g0]; exact long_0 n h0 h1 lb hl g0 w
  rw [if_neg g0]
  by_cases g1 : n < 2000000000
  · rw [if_pos g1]; exact long_1 n h0 h1 lb hl g0 g1 w
  rw [if_neg g1]
  by_cases g2 : n < 60000000000
  · rw [if_pos g2]; exact long_2 n h0 h1 lb hl g1 g2 w
  rw [if_neg g2]
  by_cases g3 : n < 120000000000
  · rw [if_pos g3]; exact long_3 n h0 h1 lb hl g2 g3 w
  rw [if_neg g3]
  by_cases g4 : n < 3600000000000
  · rw [if_pos g4]; exact long_4 n h0 h1 lb hl g3 g4 w
  rw [if_neg g4]
  by_cases g5 : n < 7200000000000
  · rw [if_pos g5]; exact long_5 n h0 h1 lb hl g4 g5 w
  rw [if_neg g5]
  by_cases g6 : n < 86400000000000
  · rw [if_pos g6]; exact long_6 n h0 h1 lb hl g5 g6 w
  rw [if_neg g6]
  by_cases g7 : n < 172800000000000
  · rw [if_pos g7]; exact long_7 n h0 h1 lb hl g6 g7 w
  rw [if_neg g7]
  by_cases g8 : n < 604800000000000
  · rw [if_pos g8]; exact long_8 n h0 h1 lb hl g7 g8 w
  rw [if_neg g8]
  by_cases g9 : n < 1209600000000000
  · rw [if_pos g9]; exact long_9 n h0 h1 lb hl g8 g9 w
  rw [if_neg g9]
  by_cases g10 : n < 2592000000000000
  · rw [if_pos g10]; exact long_10 n h0 h1 lb hl g9 g10 w
  rw [if_neg g10]
  by_cases g11 : n < 5184000000000000
  · rw [if_pos g11]; exact long_11 n h0 h1 lb hl g10 g11 w
  rw [if_neg g11]
  by_cases g12 : n < 31104000000000000
  · rw [if_pos g12]; exact long_12 n h0 h1 lb hl g11 g12 w
  rw [if_neg g12]
  by_cases g13 : n < 46656000000000000
  · rw [if_pos g13]; exact long_13 n h0 h1 lb hl g12 g13 w
  rw [if_neg g13]
  by_cases g14 : n < 62208000000000000
  · rw [if_pos g14]; exact long_14 n h0 h1 lb hl g13 g14 w
  rw [if_neg g14]
  by_cases g15 : n < 1150848000000000000
  · rw [if_pos g15]; exact long_15 n h0 h1 lb hl g14 g15 w
  rw [if_neg g15]
  exact long_16 n h0 h1 lb hl g15 w
end Go.Proofs.YtmdgbbiipjmenaaDoor.Long
