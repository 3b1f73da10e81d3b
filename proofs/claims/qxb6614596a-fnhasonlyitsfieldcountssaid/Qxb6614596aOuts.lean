/- The bounds on the total length; the contracts with their answers under names. -/
import Derived.Test.Qxb6614596aB1
namespace Go.Proofs.Qxb6614596a.HasParts
open Go.RowKit

theorem bytes9_any (nm : ByteArray) (fa sa : Option Addr) (fl fc sl sc : Nat) (need j : Int) (w : World) :
    Calls Try.prog 9 #[.string nm, .slice fa fl fc, .int .i64 need, .slice sa sl sc, .int .i64 j] w fun e w' =>
      ((e = .returned (.bool true)) ∨ (e = .returned (.bool false) ∧ 1048576 < nm.size + fl + sl)) ∧ w' = w := by
  go_enter Try.func9, Try.ntmps9
  go_wp2
  all_goals go_ret
  all_goals first
    | exact ⟨.inl rfl, rfl⟩
    | exact ⟨.inr ⟨rfl, by omega⟩, rfl⟩

theorem bytes6_any (nm : ByteArray) (fa sa ea : Option Addr) (fl fc sl sc el ec : Nat) (need j : Int) (w : World) :
    Calls Try.prog 6 #[.string nm, .slice fa fl fc, .int .i64 need, .slice sa sl sc, .int .i64 j, .slice ea el ec] w fun e w' =>
      ((e = .returned (.bool true)) ∨ (e = .returned (.bool false) ∧ 1048576 < nm.size + fl + sl + el)) ∧ w' = w := by
  go_enter Try.func6, Try.ntmps6
  go_wp2
  all_goals go_ret
  all_goals first
    | exact ⟨.inl rfl, rfl⟩
    | exact ⟨.inr ⟨rfl, by omega⟩, rfl⟩

theorem bytes9_small (nm : ByteArray) (fa sa : Option Addr) (fl fc sl sc : Nat) (need j : Int) (w : World) (h : nm.size + fl + sl ≤ 1048576) :
    Calls Try.prog 9 #[.string nm, .slice fa fl fc, .int .i64 need, .slice sa sl sc, .int .i64 j] w fun e w' => e = .returned (.bool true) ∧ w' = w := by
  refine (bytes9_any nm fa sa fl fc sl sc need j w).mono ?_
  rintro e w' ⟨h1 | ⟨_, h1⟩, h2⟩
  · exact ⟨h1, h2⟩
  · omega

theorem bytes6_small (nm : ByteArray) (fa sa ea : Option Addr) (fl fc sl sc el ec : Nat) (need j : Int) (w : World) (h : nm.size + fl + sl + el ≤ 1048576) :
    Calls Try.prog 6 #[.string nm, .slice fa fl fc, .int .i64 need, .slice sa sl sc, .int .i64 j, .slice ea el ec] w fun e w' => e = .returned (.bool true) ∧ w' = w := by
  refine (bytes6_any nm fa sa ea fl fc sl sc el ec need j w).mono ?_
  rintro e w' ⟨h1 | ⟨_, h1⟩, h2⟩
  · exact ⟨h1, h2⟩
  · omega

theorem has_o (nm : ByteArray) (fa : Option Addr) (fl fc : Nat) (need b off n cap : Nat) (f : Nat → Sp) (o : Bool) (w : World) (hb : b < w.heap.size) (hl : n ≤ 40000)
    (hneed : need = 0 ∨ 0 < need ∧ (need + 1) * 2 ≤ n) (hc : Hid (∀ i, i < n → SpAt w b off i (f i))) (ho : Hid (held need f = o)) :
    Calls Try.prog 7 #[.string nm, .slice fa fl fc, .int .i64 need, .slice (some ⟨b, off, none⟩) n cap] w fun e w' => e = .returned (.bool o) ∧ Below w.heap.size w w' := by
  rw [← ho.out]
  exact has_b1 nm fa fl fc need b off n cap f w hb hl hneed hc

theorem needed_o (need b off n cap : Nat) (f : Nat → Sp) (o : Bool) (w : World) (hl : n ≤ 40000)
    (hneed : need = 0 ∨ 0 < need ∧ (need + 1) * 2 ≤ n) (hc : Hid (∀ i, i < n → SpAt w b off i (f i))) (ho : Hid (held need f = o)) :
    Calls Try.prog 8 #[.int .i64 need, .slice (some ⟨b, off, none⟩) n cap] w fun e w' => e = .returned (.bool o) ∧ w' = w := by
  rw [← ho.out]
  exact needed_any need b off n cap f w hl hneed hc

theorem sps_below {w w' : World} {b off n : Nat} {f : Nat → Sp} (h : Hid (∀ i, i < n → SpAt w b off i (f i))) (hb : b < w.heap.size) (hbel : Hid (Below w.heap.size w w')) : Hid (∀ i, i < n → SpAt w' b off i (f i)) := by
  intro i hi
  obtain ⟨h0, h1, h2, h3⟩ := h.out i hi
  exact ⟨(hbel.out.cell (by exact hb)).trans h0, (hbel.out.cell (by exact hb)).trans h1, (hbel.out.cell (by exact hb)).trans h2, (hbel.out.cell (by exact hb)).trans h3⟩

end Go.Proofs.Qxb6614596a.HasParts
