/- The plain law of addInt64: no Go in sight. -/
import Derived.Test.Qxb6614458aAdd
namespace Go.Proofs.Qxb6614458a.AddI64
open Go.RowKit

theorem tuck {p : Prop} (h : p) : Hid p := h

theorem ovf_iff (a b : Int) (ha : -9223372036854775808 ≤ a ∧ a ≤ 9223372036854775807) (hb : -9223372036854775808 ≤ b ∧ b ≤ 9223372036854775807) :
    ovf a b = true ↔ (9223372036854775807 < a + b ∨ a + b < -9223372036854775808) := by
  unfold ovf wrap64
  by_cases h1 : a < (a + b + 9223372036854775808) % 18446744073709551616 - 9223372036854775808 <;> by_cases h2 : 0 < b <;> simp [h1, h2] <;> omega

theorem ovf_eq (a b : Int) (o : Bool) (ha : -9223372036854775808 ≤ a ∧ a ≤ 9223372036854775807) (hb : -9223372036854775808 ≤ b ∧ b ≤ 9223372036854775807)
    (h : o = true ↔ (9223372036854775807 < a + b ∨ a + b < -9223372036854775808)) : o = ovf a b := by
  rw [Bool.eq_iff_iff, ovf_iff a b ha hb]
  exact h

theorem bd (a : Int) (h : (Lit.int .i64 a).wf = true) : -9223372036854775808 ≤ a ∧ a ≤ 9223372036854775807 := by
  simpa [Lit.wf, IntKind.min, IntKind.max, IntKind.signed, IntKind.bits] using h

theorem wbd (a : Int) : -9223372036854775808 ≤ wrap64 a ∧ wrap64 a ≤ 9223372036854775807 := by
  unfold wrap64
  omega

end Go.Proofs.Qxb6614458a.AddI64
