/- The contract of addInt64 and of its shim ZZaddInt64. Shared by both laws of this seat. -/
import Derived.Test.Qxb6614458aRows
import Derived.WalkKit
namespace Go.Proofs.Qxb6614458a.AddI64
open Go.RowKit

/-- What addInt64 answers in its second place. -/
def ovf (a b : Int) : Bool := decide (a < wrap64 (a + b)) != decide (0 < b)

theorem add_any (a b : Int) (w : World) :
    Calls Try.prog 14 #[.int .i64 a, .int .i64 b] w fun e w' => e = .returned (.tuple #[.int .i64 (wrap64 (a + b)), .bool (ovf a b)]) ∧ w' = w := by
  go_enter Try.func14, Try.ntmps14
  go_wp2
  go_ret2
  exact ⟨rfl, rfl⟩

/-- ZZaddInt64, its two answers under names of the caller's. -/
theorem zz_any (a b c : Int) (o : Bool) (hc : Hid (c = wrap64 (a + b))) (ho : Hid (o = ovf a b)) (w : World) :
    Calls Try.prog 7 #[.int .i64 a, .int .i64 b] w fun e w' => e = .returned (.tuple #[.int .i64 c, .bool o]) ∧ w' = w := by
  have h := hc.out
  have h' := ho.out
  clear hc ho
  subst h h'
  go_enter Try.func7, Try.ntmps7
  go_wp2_with fail
  refine (add_any a b _).mono ?_
  rintro e w' ⟨rfl, rfl⟩
  go_wp2
  go_ret2
  exact ⟨rfl, rfl⟩

end Go.Proofs.Qxb6614458a.AddI64
