/- One contract for every slice of ints that can be met: an empty one (whatever its address), or one whose cells are known. -/
import Derived.Test.Qxb6614522aSubm
namespace Go.Proofs.Qxb6614522a.SubmParts
open Go.RowKit

/-- What is known of a slice of len ints at a: it is empty, or its cells hold f 0, f 1, .. -/
def View (w : World) (a : Option Addr) (len : Nat) (f : Nat → Int) : Prop :=
  len = 0 ∨ ∃ b off, a = some ⟨b, off, none⟩ ∧ b < w.heap.size ∧ ∀ i, i < len → w.cell? ⟨b, off + i, none⟩ = some (.int .i64 (f i))

theorem View.below {w w' : World} {a : Option Addr} {len : Nat} {f : Nat → Int} (h : View w a len f) (hb : Below w.heap.size w w') : View w' a len f := by
  rcases h with h | ⟨b, off, h1, h2, h3⟩
  · exact .inl h
  · exact .inr ⟨b, off, h1, Nat.lt_of_lt_of_le h2 hb.size, fun i hi => (hb.cell (by exact h2)).trans (h3 i hi)⟩

theorem results_view (a : Option Addr) (len cap : Nat) (f : Nat → Int) (w : World) (hl : len ≤ 65537) (hv : Hid (View w a len f)) :
    Calls Try.prog 9 #[.slice a len cap] w fun e w' => e = .returned (.slice (some ⟨w.heap.size, 0, none⟩) len len) ∧ Hid (ResRow w' w.heap.size w.heap.size len f) ∧ Below w.heap.size w w' := by
  rcases hv.out with h | ⟨b, off, h1, h2, h3⟩
  · subst h
    exact results_none a cap f w
  · subst h1
    exact results_any b off len cap f w hl h2 h3

theorem allpass_view (a : Option Addr) (len cap : Nat) (f : Nat → Int) (w : World) (hl : len ≤ 65537) (hv : Hid (View w a len f)) :
    Calls Try.prog 10 #[.slice a len cap] w fun e w' => e = .returned (.bool (allP f len)) ∧ w' = w := by
  rcases hv.out with h | ⟨b, off, h1, h2, h3⟩
  · subst h
    exact allpass_none a cap w
  · subst h1
    exact allpass_any b off len cap f w hl h3

theorem allP_succ (f : Nat → Int) (n : Nat) : allP f (n + 1) = (allP f n && pss (f n)) := rfl

theorem allP_cut (f : Nat → Int) (m n : Nat) : allP f (m + n) = (allP f m && allP (fun i => f (m + i)) n) := by
  induction n with
  | zero => simp [allP]
  | succ n ih => rw [← Nat.add_assoc, allP_succ, allP_succ, ih, Bool.and_assoc]

end Go.Proofs.Qxb6614522a.SubmParts
