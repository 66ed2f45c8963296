/- humanize.CustomRelTime as a plain function, where its label isn't empty; that it answers so. -/
import Derived.Test.YtmdgbbiipjmenaaDoorRelRow
namespace Go.Proofs.YtmdgbbiipjmenaaDoor.CustomPure
open Go.RowKit Go.Lib Go.Sort Go.Proofs.YtmdgbbiipjmenaaDoor.PAll Go.Proofs.YtmdgbbiipjmenaaDoorW.PrintWords Go.Proofs.YtmdgbbiipjmenaaDoorW.PrintLast Go.Proofs.YtmdgbbiipjmenaaDoor.PlainDec Go.Proofs.YtmdgbbiipjmenaaDoor.Ord Go.Proofs.YtmdgbbiipjmenaaDoor.Rel Go.Proofs.YtmdgbbiipjmenaaDoor.RelPlain
def dfOf (n : Int) : Int := if 0 > n then -n else n
def lbOf (n : Int) (a b : ByteArray) : List UInt8 := (if 0 > n then b else a).data.toList
def qOf (len r : Int) : Int := if len ≤ r then len - 1 else r
def txt (n : Int) (a b : ByteArray) (x : S47) : List UInt8 := fillL (lbOf n a b) (itoa ((dfOf n).tdiv x.f2)) false x.f1.data.toList
def customF (a0 a1 : Int) (a2 a3 : ByteArray) (l : List S47) : Option ByteArray :=
  if a0 = 0 ∧ -9223372036854775808 < a1 ∧ a1 ≤ 9223372036854775807 ∧ l.length ≤ 1000 then
    (zs (fun i => decide ((rd_T47 l i).f0 > dfOf a1)) 2000 0 l.length).bind fun r =>
      if 0 ≤ qOf l.length r ∧ qOf l.length r < l.length ∧ (∀ b ∈ (rd_T47 l (qOf l.length r)).f1.data.toList, b.toNat < 128) ∧ 0 < (rd_T47 l (qOf l.length r)).f2 ∧ (txt a1 a2 a3 (rd_T47 l (qOf l.length r))).length ≤ 1000000000 ∧ lbOf a1 a2 a3 ≠ []
      then some ⟨(txt a1 a2 a3 (rd_T47 l (qOf l.length r))).toArray⟩ else none
  else none
theorem eta (x : ByteArray) : (⟨x.data.toList.toArray⟩ : ByteArray) = x := by
  cases x; simp
theorem custom_calls (a0 a1 : Int) (a2 a3 : ByteArray) (A : Option Addr) (c : Nat) (l : List S47) (r : ByteArray) (w : World) (hr : Kd.C k47 w A l.length l) (h : customF a0 a1 a2 a3 l = some r) (ht : Tab w) :
    Calls Tryd.prog 21 #[.int .i64 a0, .int .i64 a1, .string a2, .string a3, .slice A l.length c] w fun e w' => e = .returned (.string r) ∧ Below w.heap.size w w' := by
  unfold customF at h
  split at h
  · rename_i g
    obtain ⟨rfl, g1, g2, g3⟩ := g
    obtain ⟨q, hq, h⟩ := Option.bind_eq_some_iff.mp h
    split at h
    · rename_i k
      obtain ⟨k1, k2, k3, k4, k5, k6⟩ := k
      obtain rfl := Option.some.inj h
      exact custom_any a1 g1 g2 a2 a3 A c l w hr ht 2000 q (qOf l.length q) (dfOf a1) (rd_T47 l (qOf l.length q)).f2 (lbOf a1 a2 a3) (rd_T47 l (qOf l.length q)).f1.data.toList (txt a1 a2 a3 (rd_T47 l (qOf l.length q))) _ (eta _) rfl hq g3 rfl k1 k2 (eta _).symm k3 rfl k4 rfl k5 ⟨fun e => absurd e k6, fun _ => rfl⟩
    · cases h
  · cases h
end Go.Proofs.YtmdgbbiipjmenaaDoor.CustomPure
