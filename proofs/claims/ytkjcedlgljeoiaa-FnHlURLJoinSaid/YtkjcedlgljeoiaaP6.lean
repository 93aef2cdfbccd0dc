/- Contracts: transform, ZzTransform, Transform. -/
import Derived.Test.YtkjcedlgljeoiaaP5
import Derived.Test.YtkjcedlgljeoiaaBy
namespace Go.Proofs.Ytkjcedlgljeoiaa
open Go.RowKit Go.Lib

abbrev markS : ByteArray := ⟨#[60, 67, 72, 65, 82, 84, 78, 65, 77, 69, 62]⟩
theorem replF_size (s old new : ByteArray) (hm : 1 ≤ old.size) : (replF s old new).size ≤ s.size + (s.size + 1) * new.size := by
  have h1 := joinF_size new (splitF old (s.size + 1) s)
  have h2 := splitF_sum old (s.size + 1) s
  have h3 : (splitF old (s.size + 1) s).length * new.size ≤ (s.size + 1) * new.size := Nat.mul_le_mul_right _ (splitF_len old hm _ _)
  unfold replF
  omega
end Go.Proofs.Ytkjcedlgljeoiaa
