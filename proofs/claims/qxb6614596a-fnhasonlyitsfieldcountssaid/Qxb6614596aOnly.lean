/- The law 'only its field counts': the list with one span changed and more behind it, as the call builds it; its walk. -/
import Derived.Test.Qxb6614596aOuts
namespace Go.Proofs.Qxb6614596a.HasParts
open Go.RowKit

/-- The four cells of a span. -/
def spc (s : Sp) : List Value := [.int .i64 s.st, .int .i64 s.en, .bool s.ok, .bool s.gv]

/-- Block g is the call's own row of k spans f, with room for cap. -/
def SpOwn (w : World) (base g cap k : Nat) (f : Nat → Sp) : Prop :=
  ∃ xs, w.ownsRow base 26 4 (.slice (some ⟨g, 0, none⟩) k cap) k xs ∧ ∀ i, i < k * 4 → xs[i]? = some (spv f i)

theorem spown_at {w : World} {base g cap k : Nat} {f : Nat → Sp} (h : SpOwn w base g cap k f) (i : Nat) (hi : i < k) : SpAt w g 0 i (f i) := by
  obtain ⟨xs, ho, hx⟩ := h
  unfold SpAt
  rw [Nat.zero_add]
  refine ⟨?_, ?_, ?_, ?_⟩
  · rw [ho.cellAt _ (by omega), hx _ (by omega), spv0]
  · rw [ho.cellAt _ (by omega), hx _ (by omega), spv1]
  · rw [ho.cellAt _ (by omega), hx _ (by omega), spv2]
  · rw [ho.cellAt _ (by omega), hx _ (by omega), spv3]

theorem spown_lt {w : World} {base g cap k : Nat} {f : Nat → Sp} (h : SpOwn w base g cap k f) : g < w.heap.size := by
  obtain ⟨xs, ho, _⟩ := h
  exact (ho.lt g rfl).2

theorem spown_nil {w : World} {base g cap : Nat} (f : Nat → Sp) (h : w.ownsRow base 26 4 (.slice (some ⟨g, 0, none⟩) 0 cap) 0 []) : SpOwn w base g cap 0 f :=
  ⟨[], h, fun i hi => by omega⟩

/-- What the append leaves. -/
theorem spown_snoc {w : World} {base g cap k : Nat} {f : Nat → Sp} {xs : List Value} (hx : ∀ i, i < k * 4 → xs[i]? = some (spv f i)) (hl : xs.length = k * 4)
    (h : w.ownsRow base 26 4 (.slice (some ⟨g, 0, none⟩) (k + 1) cap) (k + 1) (xs ++ spc (f k))) : SpOwn w base g cap (k + 1) f := by
  refine ⟨_, h, fun i hi => ?_⟩
  by_cases h1 : i < k * 4
  · rw [List.getElem?_append_left (by omega)]
    exact hx i h1
  · rw [List.getElem?_append_right (by omega), hl]
    have hm : i = k * 4 ∨ i = k * 4 + 1 ∨ i = k * 4 + 2 ∨ i = k * 4 + 3 := by omega
    rcases hm with rfl | rfl | rfl | rfl
    · rw [spv0, Nat.sub_self]; rfl
    · rw [spv1, Nat.add_sub_cancel_left]; rfl
    · rw [spv2, Nat.add_sub_cancel_left]; rfl
    · rw [spv3, Nat.add_sub_cancel_left]; rfl

theorem spown_congr {w : World} {base g cap k : Nat} {f f' : Nat → Sp} (h : SpOwn w base g cap k f) (e : ∀ i, i < k → f i = f' i) : SpOwn w base g cap k f' := by
  obtain ⟨xs, ho, hx⟩ := h
  exact ⟨xs, ho, fun i hi => by rw [hx i hi]; unfold spv; rw [e (i / 4) (by omega)]⟩

/-- The new list: span j turned round, e behind the n spans. -/
def chg (f e : Nat → Sp) (n j i : Nat) : Sp :=
  if i = j then ⟨(f j).en, (f j).st, !(f j).ok, !(f j).gv⟩ else if i < n then f i else e (i - n)

theorem chg_here (f e : Nat → Sp) (n j : Nat) : chg f e n j j = ⟨(f j).en, (f j).st, !(f j).ok, !(f j).gv⟩ := by
  unfold chg
  rw [if_pos rfl]
theorem chg_old (f e : Nat → Sp) (n j i : Nat) (h : ¬ i = j) (hi : i < n) : chg f e n j i = f i := by
  unfold chg
  rw [if_neg h, if_pos hi]
theorem chg_new (f e : Nat → Sp) (n j i : Nat) (hj : j < n) : chg f e n j (n + i) = e i := by
  unfold chg
  rw [if_neg (by omega), if_neg (by omega), Nat.add_sub_cancel_left]

theorem held_chg (need n j : Nat) (f e : Nat → Sp) (hn : need = 0 ∨ 0 < need ∧ (need + 1) * 2 ≤ n) (hj : 0 < need → ¬ j / 2 = need) : held need (chg f e n j) = held need f := by
  rcases hn with rfl | ⟨h0, hn⟩
  · rfl
  · unfold held
    have := hj h0
    rw [chg_old f e n j (need * 2) (by omega) (by omega), chg_old f e n j (need * 2 + 1) (by omega) (by omega)]

end Go.Proofs.Qxb6614596a.HasParts
