/- Formats of %d, %s, %% and plain letters. -/
import Derived.Test.YtmdgbbiipjmenaaDoorRelPlain
import Derived.Test.YtmdgbbiipjmenaaDoorPlainDec
namespace Go.Proofs.YtmdgbbiipjmenaaDoor.CusPlain
open Go.Proofs.YtmdgbbiipjmenaaDoor.RelPlain Go.Proofs.YtmdgbbiipjmenaaDoor.PlainDec
/-- Behind each % stands s, d or %. -/
inductive F : List UInt8 → Prop
  | nil : F []
  | plain (c : UInt8) (t : List UInt8) : c ≠ 37 → c.toNat < 128 → F t → F (c :: t)
  | esc (c : UInt8) (t : List UInt8) : (c = 115 ∨ c = 100 ∨ c = 37) → F t → F (37 :: c :: t)
theorem F.ascii {l : List UInt8} (h : F l) : ∀ b ∈ l, b.toNat < 128 := by
  induction h with
  | nil => intro b hb; cases hb
  | plain c t _ hc _ ih =>
    intro b hb
    rcases List.mem_cons.1 hb with rfl | hb
    · exact hc
    · exact ih b hb
  | esc c t hc _ ih =>
    intro b hb
    rcases List.mem_cons.1 hb with rfl | hb
    · decide
    · rcases List.mem_cons.1 hb with rfl | hb
      · rcases hc with rfl | rfl | rfl <;> decide
      · exact ih b hb
def P6 : List (List UInt8) := [[37, 100], [37, 115], [37, 37], [32, 120], [121, 32], [122]]
theorem F.piece {p t : List UInt8} (hp : p ∈ P6) (h : F t) : F (p ++ t) := by
  simp only [P6, List.mem_cons, List.not_mem_nil, or_false] at hp
  rcases hp with rfl | rfl | rfl | rfl | rfl | rfl
  · exact F.esc _ _ (.inr (.inl rfl)) h
  · exact F.esc _ _ (.inl rfl) h
  · exact F.esc _ _ (.inr (.inr rfl)) h
  · exact F.plain _ _ (by decide) (by decide) (F.plain _ _ (by decide) (by decide) h)
  · exact F.plain _ _ (by decide) (by decide) (F.plain _ _ (by decide) (by decide) h)
  · exact F.plain _ _ (by decide) (by decide) h
theorem P6_len {p : List UInt8} (hp : p ∈ P6) : p.length ≤ 2 := by
  simp only [P6, List.mem_cons, List.not_mem_nil, or_false] at hp
  rcases hp with rfl | rfl | rfl | rfl | rfl | rfl <;> decide
theorem F.four {a b c d : List UInt8} (ha : a ∈ P6) (hb : b ∈ P6) (hc : c ∈ P6) (hd : d ∈ P6) : F (a ++ b ++ c ++ d) ∧ (a ++ b ++ c ++ d).length ≤ 8 := by
  constructor
  · have := F.piece ha (F.piece hb (F.piece hc (F.piece hd F.nil)))
    simpa using this
  · have := P6_len ha
    have := P6_len hb
    have := P6_len hc
    have := P6_len hd
    simp only [List.length_append]
    omega
theorem fill_len {l : List UInt8} (h : F l) (lb num : List UInt8) (h1 : lb.length ≤ 200) (h2 : num.length ≤ 200) : (fillL lb num false l).length ≤ 200 * l.length := by
  induction h with
  | nil => simp [fillL]
  | plain c t hc _ _ ih =>
    rw [fillL, if_neg hc]
    simp only [List.length_cons]
    omega
  | esc c t hc _ ih =>
    rw [fillL, if_pos rfl, fillL, List.length_append]
    simp only [List.length_cons]
    split
    · omega
    · split
      · omega
      · simp only [List.length_cons, List.length_nil]; omega
end Go.Proofs.YtmdgbbiipjmenaaDoor.CusPlain
