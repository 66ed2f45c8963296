/- The law FnComma, walked: for every int64 it returns true (nothing asked but the world). -/
import Derived.Test.YtmdgbbiipjmenaaDoorPureComma
import Derived.Test.YtmdgbbiipjmenaaDoorOrdLaw
import Derived.Lib.AtoiErrMem
namespace Go.Proofs.YtmdgbbiipjmenaaDoor.CommaLaw
open Go.RowKit Go.Lib Go.Sort Go.Proofs.YtmdgbbiipjmenaaDoor.PAll Go.Proofs.YtmdgbbiipjmenaaDoorW.PrintWords Go.Proofs.YtmdgbbiipjmenaaDoorW.PrintLast Go.Proofs.YtmdgbbiipjmenaaDoor.PlainDec Go.Proofs.YtmdgbbiipjmenaaDoor.PureDec Go.Proofs.YtmdgbbiipjmenaaDoor.PureComma Go.Proofs.YtmdgbbiipjmenaaDoor.Ord Go.Proofs.YtmdgbbiipjmenaaDoor.OrdLaw

set_option maxHeartbeats 1000000 in
theorem parse_any (l : List UInt8) (hl : l.length ≤ 100000) (n : Int) (hp : parseIntB 64 (l.filter (· != 44)) = .ok n) (w : World) :
    Calls Tryd.prog 25 #[.string ⟨l.toArray⟩] w fun e w' => e = .returned (.tuple #[.int .i64 n, .nilIface]) ∧ Below w.heap.size w w' := by
  have HZ := Lib.hid (zz_ok l hl (l.length + 1) (by omega))
  have hsz : (⟨(l.filter (· != 44)).toArray⟩ : ByteArray).size ≤ 9223372036854775806 := by
    rw [mk_size]
    have := List.length_filter_le (· != 44) l
    omega
  have HS := Lib.hid hsz
  have HP := Lib.hid hp
  clear hp hsz hl
  generalize hf : (⟨(l.filter (· != 44)).toArray⟩ : ByteArray) = t at *
  have HP' : Hid (parseIntB 64 t.data.toList = .ok n) := Lib.hid (by rw [← hf]; simpa using HP.out)
  clear HP hf
  generalize (⟨l.toArray⟩ : ByteArray) = s at *
  go_enter Tryd.func25, Tryd.ntmps25
  go_wp2_with (first | (go_at_call 35; refine (humanize_zzWithout.calls _ s 44 t _ HZ.out).mono ?_; rintro e w1 ⟨rfl, hb⟩) | (go_at_call 36; refine (Tryd.strconv_ParseInt_10_at64_ok t HS.out n HP'.out _).mono ?_; rintro e w2 ⟨rfl, hw⟩))
  go_ret2
  refine ⟨rfl, hb.trans ?_⟩
  rcases hw with rfl | ⟨t', rfl⟩
  · exact Below.refl _ _
  · exact (bytesWorld_below _ _ _).mono hb.size
theorem one_text (w : World) (s : ByteArray) : Kd.C Kd.string (w.alloc (.cells #[.string s] 9)) (some ⟨w.heap.size, 0, none⟩) [s].length [s] := by
  refine ⟨rfl, by simp, fun _ => ⟨_, rfl, fun j p hj => ?_⟩⟩
  match j, hj with
  | 0, hj =>
    obtain rfl : s = p := by simpa using hj
    refine ⟨[.string s], rfl, rfl, fun i u hi => ?_⟩
    match i, hi with
    | 0, hi =>
      obtain rfl : Value.string s = u := by simpa using hi
      show (w.alloc _).cell? ⟨w.heap.size, 0, none⟩ = _
      rw [World.cell?_alloc_new]
      rfl
set_option maxHeartbeats 1000000 in
theorem implParse_any (l : List UInt8) (hl : l.length ≤ 200) (ha : ∀ b ∈ l, b.toNat ≤ 127) (n : Int) (hp : parseIntB 64 (l.filter (· != 44)) = .ok n) (w : World) :
    Calls Tryd.prog 15 #[.string ⟨l.toArray⟩] w fun e w' => e = .returned (.tuple #[.int .i64 n, .bool true]) ∧ Below w.heap.size w w' := by
  have HT := Lib.hid (text_ok true l hl (fun _ => ha) 203 (by omega))
  have HP := Lib.hid (parse_any l (by omega) n hp)
  clear hp ha hl
  generalize (⟨l.toArray⟩ : ByteArray) = s at *
  go_enter Tryd.func15, Tryd.ntmps15
  go_wp2_with (first | (go_at_call 19; refine (impl_isText.calls 203 true _ 1 [s] true _ (one_text w s) (by simp) HT.out).mono ?_; rintro e w1 ⟨rfl, ⟨nd, rfl⟩⟩) | (go_at_call 25; refine (HP.out _).mono ?_; rintro e w2 ⟨rfl, hb⟩))
  go_ret2
  have H : Below w.heap.size w ((w.alloc (.cells #[.string s] 9)).drewN nd) := below_drewN (Below.alloc (Below.refl w.heap.size w) (Nat.le_refl _) _) nd
  exact ⟨rfl, H.trans (hb.mono H.size)⟩
set_option maxHeartbeats 1000000 in
theorem law_any (n : Int) (h0 : -9223372036854775808 ≤ n) (h1 : n ≤ 9223372036854775807) (w : World) :
    Calls Tryd.prog 6 #[.int .i64 n] w fun e w' => e = .returned (.bool true) ∧ Below w.heap.size w w' := by
  have hlen := commaL_len n h0 h1
  have HC : Hid (impl_Comma.f 101 n = some (comma n)) := Lib.hid (by
    unfold impl_Comma.f
    rw [humComma_ok n h0 h1 101 (by omega)]
    rfl)
  have HS := Lib.hid (specComma_ok n h0 h1 101 (by omega))
  have HP := Lib.hid (fun w => implParse_any (commaL n) (by omega) (comma_ascii n) n (by rw [comma_filter]; exact parse_itoa n h0 h1) w)
  clear h0 h1 hlen
  change Hid (∀ w, Calls Tryd.prog 15 #[.string (comma n)] w _) at HP
  generalize comma n = s at *
  go_enter Tryd.func6, Tryd.ntmps6
  go_wp2_with (first | (go_at_call 14; refine (impl_Comma.calls 101 n s _ HC.out).mono ?_; rintro e w1 ⟨rfl, hb1⟩) | (go_at_call 15; refine (HP.out _).mono ?_; rintro e w2 ⟨rfl, hb2⟩) | (go_at_call 16; refine (spec_Comma.calls 101 n s _ HS.out).mono ?_; rintro e w3 ⟨rfl, ⟨nd, rfl⟩⟩))
  go_ret
  exact ⟨rfl, hb1.trans ((below_drewN hb2 nd).mono hb1.size)⟩
end Go.Proofs.YtmdgbbiipjmenaaDoor.CommaLaw
