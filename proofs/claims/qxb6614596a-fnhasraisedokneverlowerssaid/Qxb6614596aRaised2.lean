/- the ways on which the law 'a raised ok never lowers' says true at once. -/
import Derived.Test.Qxb6614596aRaised
namespace Go.Proofs.Qxb6614596a.HasParts
open Go.RowKit
set_option linter.unusedVariables false

set_option maxRecDepth 20000 in
set_option maxHeartbeats 1000000 in
theorem raised_nm (nm : ByteArray) (fa sa : Option Addr) (fl fc sl sc : Nat) (need j : Int) (w : World) (h1 : 65536 < nm.size) :
    Calls Try.prog 4 #[.string nm, .slice fa fl fc, .int .i64 need, .slice sa sl sc, .int .i64 j] w fun e w' => e = .returned (.bool true) ∧ Below w.heap.size w w' := by
  go_enter Try.func4, Try.ntmps4
  go_wp2_with fail
  refine (bytes9_any _ _ _ _ _ _ _ _ _ _).mono ?_
  rintro e w' ⟨rfl | ⟨rfl, _⟩, rfl⟩
  all_goals
    go_wp2
    go_ret
    exact ⟨rfl, Below.refl _ _⟩

set_option maxRecDepth 20000 in
set_option maxHeartbeats 1000000 in
theorem raised_fl (nm : ByteArray) (fa sa : Option Addr) (fl fc sl sc : Nat) (need j : Int) (w : World) (h1 : nm.size ≤ 65536) (h2 : 8192 < fl) :
    Calls Try.prog 4 #[.string nm, .slice fa fl fc, .int .i64 need, .slice sa sl sc, .int .i64 j] w fun e w' => e = .returned (.bool true) ∧ Below w.heap.size w w' := by
  go_enter Try.func4, Try.ntmps4
  go_wp2_with fail
  refine (bytes9_any _ _ _ _ _ _ _ _ _ _).mono ?_
  rintro e w' ⟨rfl | ⟨rfl, _⟩, rfl⟩
  all_goals
    go_wp2
    go_ret
    exact ⟨rfl, Below.refl _ _⟩

set_option maxRecDepth 20000 in
set_option maxHeartbeats 1000000 in
theorem raised_sl (nm : ByteArray) (fa sa : Option Addr) (fl fc sl sc : Nat) (need j : Int) (w : World) (h1 : nm.size ≤ 65536) (h2 : fl ≤ 8192) (h3 : 16384 < sl) :
    Calls Try.prog 4 #[.string nm, .slice fa fl fc, .int .i64 need, .slice sa sl sc, .int .i64 j] w fun e w' => e = .returned (.bool true) ∧ Below w.heap.size w w' := by
  go_enter Try.func4, Try.ntmps4
  go_wp2_with fail
  refine (bytes9_any _ _ _ _ _ _ _ _ _ _).mono ?_
  rintro e w' ⟨rfl | ⟨rfl, _⟩, rfl⟩
  all_goals
    go_wp2
    go_ret
    exact ⟨rfl, Below.refl _ _⟩

set_option maxRecDepth 20000 in
set_option maxHeartbeats 1000000 in
theorem raised_neg (nm : ByteArray) (fa sa : Option Addr) (fl fc sl sc : Nat) (need j : Int) (w : World) (h1 : nm.size ≤ 65536) (h2 : fl ≤ 8192) (h3 : sl ≤ 16384) (h5 : need < 0) :
    Calls Try.prog 4 #[.string nm, .slice fa fl fc, .int .i64 need, .slice sa sl sc, .int .i64 j] w fun e w' => e = .returned (.bool true) ∧ Below w.heap.size w w' := by
  go_enter Try.func4, Try.ntmps4
  go_wp2_with fail
  refine (bytes9_small _ _ _ _ _ _ _ _ _ _ (by omega)).mono ?_
  rintro e w' ⟨rfl, rfl⟩
  go_wp2
  go_ret
  exact ⟨rfl, Below.refl _ _⟩

set_option maxRecDepth 20000 in
set_option maxHeartbeats 1000000 in
theorem raised_far (nm : ByteArray) (fa sa : Option Addr) (fl fc sl sc : Nat) (need j : Int) (w : World) (h1 : nm.size ≤ 65536) (h2 : fl ≤ 8192) (h3 : sl ≤ 16384) (h5 : 0 < need) (h6 : (sl : Int) / 2 ≤ need) :
    Calls Try.prog 4 #[.string nm, .slice fa fl fc, .int .i64 need, .slice sa sl sc, .int .i64 j] w fun e w' => e = .returned (.bool true) ∧ Below w.heap.size w w' := by
  go_enter Try.func4, Try.ntmps4
  go_wp2_with fail
  refine (bytes9_small _ _ _ _ _ _ _ _ _ _ (by omega)).mono ?_
  rintro e w' ⟨rfl, rfl⟩
  go_wp2
  go_ret
  exact ⟨rfl, Below.refl _ _⟩

set_option maxRecDepth 20000 in
set_option maxHeartbeats 1000000 in
theorem raised_jnegz (nm : ByteArray) (fa sa : Option Addr) (fl fc sl sc : Nat) (j : Int) (w : World) (h1 : nm.size ≤ 65536) (h2 : fl ≤ 8192) (h3 : sl ≤ 16384) (h7 : j < 0) :
    Calls Try.prog 4 #[.string nm, .slice fa fl fc, .int .i64 0, .slice sa sl sc, .int .i64 j] w fun e w' => e = .returned (.bool true) ∧ Below w.heap.size w w' := by
  go_enter Try.func4, Try.ntmps4
  go_wp2_with fail
  refine (bytes9_small _ _ _ _ _ _ _ _ _ _ (by omega)).mono ?_
  rintro e w' ⟨rfl, rfl⟩
  go_wp2
  go_ret
  exact ⟨rfl, Below.refl _ _⟩

set_option maxRecDepth 20000 in
set_option maxHeartbeats 1000000 in
theorem raised_jfarz (nm : ByteArray) (fa sa : Option Addr) (fl fc sl sc : Nat) (j : Int) (w : World) (h1 : nm.size ≤ 65536) (h2 : fl ≤ 8192) (h3 : sl ≤ 16384) (h7 : ¬ j < 0) (h8 : (sl : Int) ≤ j) :
    Calls Try.prog 4 #[.string nm, .slice fa fl fc, .int .i64 0, .slice sa sl sc, .int .i64 j] w fun e w' => e = .returned (.bool true) ∧ Below w.heap.size w w' := by
  go_enter Try.func4, Try.ntmps4
  go_wp2_with fail
  refine (bytes9_small _ _ _ _ _ _ _ _ _ _ (by omega)).mono ?_
  rintro e w' ⟨rfl, rfl⟩
  go_wp2
  go_ret
  exact ⟨rfl, Below.refl _ _⟩

set_option maxRecDepth 20000 in
set_option maxHeartbeats 1000000 in
theorem raised_jnegp (nm : ByteArray) (fa sa : Option Addr) (fl fc sl sc : Nat) (need j : Int) (w : World) (h1 : nm.size ≤ 65536) (h2 : fl ≤ 8192) (h3 : sl ≤ 16384) (h5 : 0 < need) (h6 : need < (sl : Int) / 2) (h7 : j < 0) :
    Calls Try.prog 4 #[.string nm, .slice fa fl fc, .int .i64 need, .slice sa sl sc, .int .i64 j] w fun e w' => e = .returned (.bool true) ∧ Below w.heap.size w w' := by
  go_enter Try.func4, Try.ntmps4
  go_wp2_with fail
  refine (bytes9_small _ _ _ _ _ _ _ _ _ _ (by omega)).mono ?_
  rintro e w' ⟨rfl, rfl⟩
  go_wp2
  go_ret
  exact ⟨rfl, Below.refl _ _⟩

set_option maxRecDepth 20000 in
set_option maxHeartbeats 1000000 in
theorem raised_jfarp (nm : ByteArray) (fa sa : Option Addr) (fl fc sl sc : Nat) (need j : Int) (w : World) (h1 : nm.size ≤ 65536) (h2 : fl ≤ 8192) (h3 : sl ≤ 16384) (h5 : 0 < need) (h6 : need < (sl : Int) / 2) (h7 : ¬ j < 0) (h8 : (sl : Int) ≤ j) :
    Calls Try.prog 4 #[.string nm, .slice fa fl fc, .int .i64 need, .slice sa sl sc, .int .i64 j] w fun e w' => e = .returned (.bool true) ∧ Below w.heap.size w w' := by
  go_enter Try.func4, Try.ntmps4
  go_wp2_with fail
  refine (bytes9_small _ _ _ _ _ _ _ _ _ _ (by omega)).mono ?_
  rintro e w' ⟨rfl, rfl⟩
  go_wp2
  go_ret
  exact ⟨rfl, Below.refl _ _⟩

end Go.Proofs.Qxb6614596a.HasParts
