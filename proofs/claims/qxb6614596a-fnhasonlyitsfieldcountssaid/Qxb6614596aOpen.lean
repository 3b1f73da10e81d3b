/- A slice of spans that came in, opened: each span's four cells. -/
import Derived.Test.Qxb6614596aOuts
import Derived.Deep.Slices
import Derived.ProofKit
namespace Go.Proofs.Qxb6614596a.HasParts
open Go.ChangeShapes Go.WideShapes Go.RowKit

/-- What is known of a slice of spans that came in: it is empty, or its cells hold the spans f. -/
def SpView (w : World) (a : Option Addr) (len : Nat) (f : Nat → Sp) : Prop :=
  len = 0 ∨ ∃ b off, a = some ⟨b, off, none⟩ ∧ b < w.heap.size ∧ ∀ i, i < len → SpAt w b off i (f i)

theorem cells26 : Try.prog.cellsOf 26 = 4 := by kernel_rfl
theorem cells3 : Try.prog.cellsOf 3 = 1 := by kernel_rfl
theorem cells4 : Try.prog.cellsOf 4 = 1 := by kernel_rfl

theorem four {α : Type} (l : List α) (h : l.length = 4) : ∃ a b c d, l = [a, b, c, d] := by
  match l, h with
  | [a, b, c, d], _ => exact ⟨a, b, c, d, rfl⟩

/-- One span's cells. -/
theorem open_span {H : Type} {enc : TypeId × Value → H} {w : World} {base : Nat} {spare : Nat → Bool} {hd : Bool} {fuel : Nat} {cs : List Value} {x : DataW H × List MemPlace}
    (h : DataW.trod enc Try.prog w base spare hd fuel 26 cs = some x) : ∃ s : Sp, cs = [.int .i64 s.st, .int .i64 s.en, .bool s.ok, .bool s.gv] := by
  obtain ⟨xs, n, _, _, hl, hxl, hf⟩ := DataW.trod_struct Try.underlying26 h
  rw [cells26] at hl
  obtain ⟨v0, v1, v2, v3, rfl⟩ := four cs hl
  obtain ⟨y0, y1, y2, y3, rfl⟩ := four xs hxl
  have g0 := hf 0 _ rfl
  have g1 := hf 1 _ rfl
  have g2 := hf 2 _ rfl
  have g3 := hf 3 _ rfl
  simp [cells3, cells4] at g0 g1 g2 g3
  obtain ⟨a0, e0, _⟩ := DataW.trod_int Try.underlying3 g0
  obtain ⟨a1, e1, _⟩ := DataW.trod_int Try.underlying3 g1
  obtain ⟨a2, e2, _⟩ := DataW.trod_bool Try.underlying4 g2
  obtain ⟨a3, e3, _⟩ := DataW.trod_bool Try.underlying4 g3
  simp at e0 e1 e2 e3
  subst e0 e1 e2 e3
  exact ⟨⟨a0, a1, a2, a3⟩, rfl⟩

theorem open_spans {H : Type} {enc : TypeId × Value → H} {w : World} {base : Nat} {hd : Bool} {fuel : Nat} {a : Option Addr} {len cap : Nat} {x : DataW H × List MemPlace}
    (h : DataW.trod enc Try.prog w base (fun _ => true) hd fuel 23 [.slice a len cap] = some x) : len ≤ cap ∧ ∃ f : Nat → Sp, SpView w a len f := by
  rcases Deep.open_slice Try.underlying23 h with ⟨h0, _⟩ | ⟨ad, l, c, m, n, D, Pl, h0, hb, hl, hm, hmm, _, hx⟩
  · simp at h0
    obtain ⟨rfl, rfl, rfl⟩ := h0
    exact ⟨Nat.le_refl _, fun _ => z0, .inl rfl⟩
  · simp at h0
    obtain ⟨rfl, rfl, rfl⟩ := h0
    refine ⟨hl, ?_⟩
    simp at hmm
    subst hmm
    have each : ∀ i, i < m → ∃ s : Sp, w.cell? (ad.add (i * 4)) = some (.int .i64 s.st) ∧ w.cell? (ad.add (i * 4 + 1)) = some (.int .i64 s.en) ∧ w.cell? (ad.add (i * 4 + 2)) = some (.bool s.ok) ∧ w.cell? (ad.add (i * 4 + 3)) = some (.bool s.gv) := by
      intro i hi
      obtain ⟨cs', h1, h2⟩ := hx i hi
      rw [cells26] at h1
      obtain ⟨_, _, hcell⟩ := World.cells?_some h1
      obtain ⟨s, rfl⟩ := open_span h2
      have e0 := hcell 0 (by omega)
      have e1 := hcell 1 (by omega)
      have e2 := hcell 2 (by omega)
      have e3 := hcell 3 (by omega)
      rw [Deep.add_add] at e0 e1 e2 e3
      exact ⟨s, by simpa using e0, by simpa using e1, by simpa using e2, by simpa using e3⟩
    haveI : Inhabited Sp := ⟨z0⟩
    obtain ⟨f, hf⟩ := Deep.choose_lt each
    refine ⟨f, ?_⟩
    by_cases h0 : len = 0
    · exact .inl h0
    · obtain ⟨b, off, spot⟩ := ad
      have hspot : spot = none := by simpa [Addr.add] using World.cell?_spot (hf 0 (by omega)).1
      subst hspot
      have hlt := World.block_lt_of_cell? w _ (hf 0 (by omega)).1
      refine .inr ⟨b, off, rfl, by simpa [Addr.add] using hlt, fun i hi => ?_⟩
      have hfi := hf i (by omega)
      rw [add_plain, add_plain, add_plain, add_plain, ← Nat.add_assoc, ← Nat.add_assoc, ← Nat.add_assoc] at hfi
      exact hfi

end Go.Proofs.Qxb6614596a.HasParts
