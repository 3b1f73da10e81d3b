/- the ways on which the law 'only its field counts' says true at once. -/
import Derived.Test.Qxb6614596aOuts
namespace Go.Proofs.Qxb6614596a.HasParts
open Go.RowKit
set_option linter.unusedVariables false

set_option maxRecDepth 20000 in
set_option maxHeartbeats 1000000 in
theorem only_nm (nm : ByteArray) (fa sa ea : Option Addr) (fl fc sl sc el ec : Nat) (need j : Int) (w : World) (h1 : 65536 < nm.size) :
    Calls Try.prog 3 #[.string nm, .slice fa fl fc, .int .i64 need, .slice sa sl sc, .int .i64 j, .slice ea el ec] w fun e w' => e = .returned (.bool true) ∧ Below w.heap.size w w' := by
  go_enter Try.func3, Try.ntmps3
  go_wp2_with fail
  refine (bytes6_any _ _ _ _ _ _ _ _ _ _ _ _ _).mono ?_
  rintro e w' ⟨rfl | ⟨rfl, _⟩, rfl⟩
  all_goals
    go_wp2
    go_ret
    exact ⟨rfl, Below.refl _ _⟩

set_option maxRecDepth 20000 in
set_option maxHeartbeats 1000000 in
theorem only_fl (nm : ByteArray) (fa sa ea : Option Addr) (fl fc sl sc el ec : Nat) (need j : Int) (w : World) (h1 : nm.size ≤ 65536) (h2 : 8192 < fl) :
    Calls Try.prog 3 #[.string nm, .slice fa fl fc, .int .i64 need, .slice sa sl sc, .int .i64 j, .slice ea el ec] w fun e w' => e = .returned (.bool true) ∧ Below w.heap.size w w' := by
  go_enter Try.func3, Try.ntmps3
  go_wp2_with fail
  refine (bytes6_any _ _ _ _ _ _ _ _ _ _ _ _ _).mono ?_
  rintro e w' ⟨rfl | ⟨rfl, _⟩, rfl⟩
  all_goals
    go_wp2
    go_ret
    exact ⟨rfl, Below.refl _ _⟩

set_option maxRecDepth 20000 in
set_option maxHeartbeats 1000000 in
theorem only_sl (nm : ByteArray) (fa sa ea : Option Addr) (fl fc sl sc el ec : Nat) (need j : Int) (w : World) (h1 : nm.size ≤ 65536) (h2 : fl ≤ 8192) (h3 : 16384 < sl) :
    Calls Try.prog 3 #[.string nm, .slice fa fl fc, .int .i64 need, .slice sa sl sc, .int .i64 j, .slice ea el ec] w fun e w' => e = .returned (.bool true) ∧ Below w.heap.size w w' := by
  go_enter Try.func3, Try.ntmps3
  go_wp2_with fail
  refine (bytes6_any _ _ _ _ _ _ _ _ _ _ _ _ _).mono ?_
  rintro e w' ⟨rfl | ⟨rfl, _⟩, rfl⟩
  all_goals
    go_wp2
    go_ret
    exact ⟨rfl, Below.refl _ _⟩

set_option maxRecDepth 20000 in
set_option maxHeartbeats 1000000 in
theorem only_el (nm : ByteArray) (fa sa ea : Option Addr) (fl fc sl sc el ec : Nat) (need j : Int) (w : World) (h1 : nm.size ≤ 65536) (h2 : fl ≤ 8192) (h3 : sl ≤ 16384) (h4 : 16384 < el) :
    Calls Try.prog 3 #[.string nm, .slice fa fl fc, .int .i64 need, .slice sa sl sc, .int .i64 j, .slice ea el ec] w fun e w' => e = .returned (.bool true) ∧ Below w.heap.size w w' := by
  go_enter Try.func3, Try.ntmps3
  go_wp2_with fail
  refine (bytes6_any _ _ _ _ _ _ _ _ _ _ _ _ _).mono ?_
  rintro e w' ⟨rfl | ⟨rfl, _⟩, rfl⟩
  all_goals
    go_wp2
    go_ret
    exact ⟨rfl, Below.refl _ _⟩

set_option maxRecDepth 20000 in
set_option maxHeartbeats 1000000 in
theorem only_neg (nm : ByteArray) (fa sa ea : Option Addr) (fl fc sl sc el ec : Nat) (need j : Int) (w : World) (h1 : nm.size ≤ 65536) (h2 : fl ≤ 8192) (h3 : sl ≤ 16384) (h4 : el ≤ 16384) (h5 : need < 0) :
    Calls Try.prog 3 #[.string nm, .slice fa fl fc, .int .i64 need, .slice sa sl sc, .int .i64 j, .slice ea el ec] w fun e w' => e = .returned (.bool true) ∧ Below w.heap.size w w' := by
  go_enter Try.func3, Try.ntmps3
  go_wp2_with fail
  refine (bytes6_small _ _ _ _ _ _ _ _ _ _ _ _ _ (by omega)).mono ?_
  rintro e w' ⟨rfl, rfl⟩
  go_wp2
  go_ret
  exact ⟨rfl, Below.refl _ _⟩

set_option maxRecDepth 20000 in
set_option maxHeartbeats 1000000 in
theorem only_far (nm : ByteArray) (fa sa ea : Option Addr) (fl fc sl sc el ec : Nat) (need j : Int) (w : World) (h1 : nm.size ≤ 65536) (h2 : fl ≤ 8192) (h3 : sl ≤ 16384) (h4 : el ≤ 16384) (h5 : 0 < need) (h6 : (sl : Int) / 2 ≤ need) :
    Calls Try.prog 3 #[.string nm, .slice fa fl fc, .int .i64 need, .slice sa sl sc, .int .i64 j, .slice ea el ec] w fun e w' => e = .returned (.bool true) ∧ Below w.heap.size w w' := by
  go_enter Try.func3, Try.ntmps3
  go_wp2_with fail
  refine (bytes6_small _ _ _ _ _ _ _ _ _ _ _ _ _ (by omega)).mono ?_
  rintro e w' ⟨rfl, rfl⟩
  go_wp2
  go_ret
  exact ⟨rfl, Below.refl _ _⟩

set_option maxRecDepth 20000 in
set_option maxHeartbeats 1000000 in
theorem only_jnegz (nm : ByteArray) (fa sa ea : Option Addr) (fl fc sl sc el ec : Nat) (j : Int) (w : World) (h1 : nm.size ≤ 65536) (h2 : fl ≤ 8192) (h3 : sl ≤ 16384) (h4 : el ≤ 16384) (h7 : j < 0) :
    Calls Try.prog 3 #[.string nm, .slice fa fl fc, .int .i64 0, .slice sa sl sc, .int .i64 j, .slice ea el ec] w fun e w' => e = .returned (.bool true) ∧ Below w.heap.size w w' := by
  go_enter Try.func3, Try.ntmps3
  go_wp2_with fail
  refine (bytes6_small _ _ _ _ _ _ _ _ _ _ _ _ _ (by omega)).mono ?_
  rintro e w' ⟨rfl, rfl⟩
  go_wp2
  go_ret
  exact ⟨rfl, Below.refl _ _⟩

set_option maxRecDepth 20000 in
set_option maxHeartbeats 1000000 in
theorem only_jfarz (nm : ByteArray) (fa sa ea : Option Addr) (fl fc sl sc el ec : Nat) (j : Int) (w : World) (h1 : nm.size ≤ 65536) (h2 : fl ≤ 8192) (h3 : sl ≤ 16384) (h4 : el ≤ 16384) (h7 : ¬ j < 0) (h8 : (sl : Int) ≤ j) :
    Calls Try.prog 3 #[.string nm, .slice fa fl fc, .int .i64 0, .slice sa sl sc, .int .i64 j, .slice ea el ec] w fun e w' => e = .returned (.bool true) ∧ Below w.heap.size w w' := by
  go_enter Try.func3, Try.ntmps3
  go_wp2_with fail
  refine (bytes6_small _ _ _ _ _ _ _ _ _ _ _ _ _ (by omega)).mono ?_
  rintro e w' ⟨rfl, rfl⟩
  go_wp2
  go_ret
  exact ⟨rfl, Below.refl _ _⟩

set_option maxRecDepth 20000 in
set_option maxHeartbeats 1000000 in
theorem only_jnegp (nm : ByteArray) (fa sa ea : Option Addr) (fl fc sl sc el ec : Nat) (need j : Int) (w : World) (h1 : nm.size ≤ 65536) (h2 : fl ≤ 8192) (h3 : sl ≤ 16384) (h4 : el ≤ 16384) (h5 : 0 < need) (h6 : need < (sl : Int) / 2) (h7 : j < 0) :
    Calls Try.prog 3 #[.string nm, .slice fa fl fc, .int .i64 need, .slice sa sl sc, .int .i64 j, .slice ea el ec] w fun e w' => e = .returned (.bool true) ∧ Below w.heap.size w w' := by
  go_enter Try.func3, Try.ntmps3
  go_wp2_with fail
  refine (bytes6_small _ _ _ _ _ _ _ _ _ _ _ _ _ (by omega)).mono ?_
  rintro e w' ⟨rfl, rfl⟩
  go_wp2
  go_ret
  exact ⟨rfl, Below.refl _ _⟩

set_option maxRecDepth 20000 in
set_option maxHeartbeats 1000000 in
theorem only_jfarp (nm : ByteArray) (fa sa ea : Option Addr) (fl fc sl sc el ec : Nat) (need j : Int) (w : World) (h1 : nm.size ≤ 65536) (h2 : fl ≤ 8192) (h3 : sl ≤ 16384) (h4 : el ≤ 16384) (h5 : 0 < need) (h6 : need < (sl : Int) / 2) (h7 : ¬ j < 0) (h8 : (sl : Int) ≤ j) :
    Calls Try.prog 3 #[.string nm, .slice fa fl fc, .int .i64 need, .slice sa sl sc, .int .i64 j, .slice ea el ec] w fun e w' => e = .returned (.bool true) ∧ Below w.heap.size w w' := by
  go_enter Try.func3, Try.ntmps3
  go_wp2_with fail
  refine (bytes6_small _ _ _ _ _ _ _ _ _ _ _ _ _ (by omega)).mono ?_
  rintro e w' ⟨rfl, rfl⟩
  go_wp2
  go_ret
  exact ⟨rfl, Below.refl _ _⟩

set_option maxRecDepth 20000 in
set_option maxHeartbeats 1000000 in
theorem only_jin (nm : ByteArray) (fa sa ea : Option Addr) (fl fc sl sc el ec : Nat) (need j : Int) (w : World) (h1 : nm.size ≤ 65536) (h2 : fl ≤ 8192) (h3 : sl ≤ 16384) (h4 : el ≤ 16384) (h5 : 0 < need) (h6 : need < (sl : Int) / 2) (h7 : 0 ≤ j) (h8 : j < (sl : Int)) (h9 : (j / 2 == need) = true) :
    Calls Try.prog 3 #[.string nm, .slice fa fl fc, .int .i64 need, .slice sa sl sc, .int .i64 j, .slice ea el ec] w fun e w' => e = .returned (.bool true) ∧ Below w.heap.size w w' := by
  go_enter Try.func3, Try.ntmps3
  go_wp2_with fail
  refine (bytes6_small _ _ _ _ _ _ _ _ _ _ _ _ _ (by omega)).mono ?_
  rintro e w' ⟨rfl, rfl⟩
  go_wp2
  go_ret
  exact ⟨rfl, Below.refl _ _⟩

end Go.Proofs.Qxb6614596a.HasParts
