/- A start at which the listed tables and errors read as the program's text lays them, and what a walk takes from the row's list: that strconv's table of powers of ten reads so. -/
import Derived.Test.YtmdgbbiipjmenaaDoorRows
import Derived.LaidLaws
import Derived.LaidSub
import Derived.Lib.LaidTab
import Derived.Lib.ItoaNum
import Derived.JoinedAt
namespace Go.Proofs.YtmdgbbiipjmenaaDoor.Laid
open Go.Lib
def cellsOf : DataW Unit → Array Value
  | .agg l => (l.map fun x => match x with | .lit (.int k z) => .int k z | _ => .nilIface).toArray
  | _ => #[]
abbrev synS : ByteArray := { data := #[105, 110, 118, 97, 108, 105, 100, 32, 115, 121, 110, 116, 97, 120] }
abbrev rngS : ByteArray := { data := #[118, 97, 108, 117, 101, 32, 111, 117, 116, 32, 111, 102, 32, 114, 97, 110, 103, 101] }
noncomputable def low : Nat := (World.holding Tryd.prog default ⟨#[], #[], []⟩).heap.size
def put (w : World) (g : Nat) (c : Array Value) : World := { w with heap := w.heap.modify g fun
      | .cells _ t frozen => .cells c t frozen
      | o => o }
noncomputable def laidWorld (os : Os) : World :=
  let w0 := World.holding Tryd.prog os ⟨#[.cells #[.string synS] 90, .cells #[.string rngS] 90], #[], []⟩
  put (put (put (put (put w0 0 #[.iface 88 (.pointer (some ⟨low, 0, none⟩))]) 1 #[.iface 88 (.pointer (some ⟨low + 1, 0, none⟩))])
    2 (cellsOf Rows.laid_internal_strconv_uint64pow10)) 3 (cellsOf Rows.laid_math_bits_deBruijn32tab)) 4 (cellsOf Rows.laid_math_bits_deBruijn64tab)
abbrev three : List (String × DataW Unit) := [("math/bits.deBruijn32tab", Rows.laid_math_bits_deBruijn32tab), ("math/bits.deBruijn64tab", Rows.laid_math_bits_deBruijn64tab), ("internal/strconv.uint64pow10", Rows.laid_internal_strconv_uint64pow10)]
abbrev five : List (String × DataW Unit) := [("math/bits.deBruijn32tab", Rows.laid_math_bits_deBruijn32tab), ("math/bits.deBruijn64tab", Rows.laid_math_bits_deBruijn64tab), ("internal/strconv.uint64pow10", Rows.laid_internal_strconv_uint64pow10), ("strconv.ErrRange", Rows.laid_strconv_ErrRange), ("strconv.ErrSyntax", Rows.laid_strconv_ErrSyntax)]
theorem met3 (os : Os) (args : Array Value) : laidMet Tryd.prog three ((laidWorld os).forCall (fun _ _ => 0) ⟨#[], args, []⟩).memory :=
  laidMet_of_run' 8 (by kernel_rfl) (by kernel_rfl)
theorem met5 (os : Os) (args : Array Value) : laidMet Tryd.prog five ((laidWorld os).forCall (fun _ _ => 0) ⟨#[], args, []⟩).memory :=
  laidMet_of_run' 8 (by kernel_rfl) (by kernel_rfl)
theorem pow_data : (Rows.laid_internal_strconv_uint64pow10 : DataW Unit) = tabData .u64 pow10Tab := by kernel_rfl
theorem filt3 : three.filter (fun x => x.1 == "internal/strconv.uint64pow10") = [("internal/strconv.uint64pow10", Rows.laid_internal_strconv_uint64pow10)] := by kernel_rfl
theorem filt5 : five.filter (fun x => x.1 == "internal/strconv.uint64pow10") = [("internal/strconv.uint64pow10", Rows.laid_internal_strconv_uint64pow10)] := by kernel_rfl
theorem tab_one {W : World} (h : laidMet Tryd.prog [("internal/strconv.uint64pow10", Rows.laid_internal_strconv_uint64pow10)] W) : TabIs Tryd.prog W "internal/strconv.uint64pow10" .u64 pow10Tab :=
  tabIs_of_head (rest := []) (g := 2) (t := 84) (e := 67) (n := 20) (by kernel_rfl) (by kernel_rfl) Tryd.underlying84 Tryd.underlying67 (by kernel_rfl) (by kernel_rfl) (by rw [pow_data] at h; exact h)
theorem tab3 {W : World} (h : laidMet Tryd.prog three W) : TabIs Tryd.prog W "internal/strconv.uint64pow10" .u64 pow10Tab := by
  have := h.filter (fun x => x.1 == "internal/strconv.uint64pow10")
  rw [filt3] at this
  exact tab_one this
theorem tab5 {W : World} (h : laidMet Tryd.prog five W) : TabIs Tryd.prog W "internal/strconv.uint64pow10" .u64 pow10Tab := by
  have := h.filter (fun x => x.1 == "internal/strconv.uint64pow10")
  rw [filt5] at this
  exact tab_one this
end Go.Proofs.YtmdgbbiipjmenaaDoor.Laid
