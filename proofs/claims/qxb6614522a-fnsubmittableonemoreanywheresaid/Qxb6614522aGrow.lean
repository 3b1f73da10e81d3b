/- A row of ints that the call itself made and fills; the list with one more number in it. -/
import Derived.Test.Qxb6614522aJoin
namespace Go.Proofs.Qxb6614522a.SubmParts
open Go.RowKit

theorem info3 : (Try.prog.info? 3).map (fun i => (i.zero, i.size, i.bytes)) = some (some (.int .i64 0), 1, 8) := by kernel_rfl

/-- Block g is the call's own row of n ints, h 0, h 1, .. -/
def IntRow (w : World) (base g n : Nat) (h : Nat → Int) : Prop :=
  ∃ xs, w.ownsRow base 3 1 (.slice (some ⟨g, 0, none⟩) n n) n xs ∧ ∀ j, j < n → xs[j]? = some (.int .i64 (h j))

theorem int_start {w : World} {base g n : Nat} (h : w.ownsRow base 3 1 (.slice (some ⟨g, 0, none⟩) n n) n (madeCells #[Value.int .i64 0] n).toList) :
    IntRow w base g n (fun _ => 0) := by
  refine ⟨_, h, fun j hj => ?_⟩
  rw [toList_madeCells_one]
  simp [hj]

theorem int_cell {w : World} {base g n : Nat} {h : Nat → Int} (hr : IntRow w base g n h) (j : Nat) (hj : j < n) : w.cell? ⟨g, j, none⟩ = some (.int .i64 (h j)) := by
  obtain ⟨xs, ho, hx⟩ := hr
  exact (ho.cellAt _ (by omega)).trans (hx j hj)

theorem int_free {w : World} {base g n : Nat} {h : Nat → Int} (hr : IntRow w base g n h) (j : Nat) : w.frozen? ⟨g, j, none⟩ = false := by
  obtain ⟨xs, ho, hx⟩ := hr
  exact ho.frozenAt j

theorem int_lt {w : World} {base g n : Nat} {h : Nat → Int} (hr : IntRow w base g n h) : g < w.heap.size := by
  obtain ⟨xs, ho, hx⟩ := hr
  exact (ho.lt g rfl).2

theorem int_congr {w : World} {base g n : Nat} {h h' : Nat → Int} (hr : IntRow w base g n h) (e : ∀ j, j < n → h j = h' j) : IntRow w base g n h' := by
  obtain ⟨xs, ho, hx⟩ := hr
  exact ⟨xs, ho, fun j hj => by rw [← e j hj]; exact hx j hj⟩

theorem int_set {w : World} {base g n : Nat} {h : Nat → Int} (hr : IntRow w base g n h) (k : Nat) (z : Int) (hk : k < n) :
    IntRow (w.setCell ⟨g, k, none⟩ (.int .i64 z)) base g n (fun j => if j = k then z else h j) := by
  obtain ⟨xs, ho, hx⟩ := hr
  refine ⟨_, (ho.stored k (.int .i64 z)).1, fun j hj => ?_⟩
  have hlen : xs.length = n * 1 := ho.1
  by_cases e : j = k
  · subst e
    rw [List.getElem?_set_self (by omega)]
    simp
  · rw [List.getElem?_set_ne (by omega), hx j hj]
    simp [e]

theorem int_view {w : World} {base g n : Nat} {h : Nat → Int} (hr : IntRow w base g n h) : View w (some ⟨g, 0, none⟩) n h :=
  .inr ⟨g, 0, rfl, int_lt hr, fun i hi => by rw [Nat.zero_add]; exact int_cell hr i hi⟩

/-- f with one more number z at place p, k of those behind it laid already. -/
def put (f : Nat → Int) (p : Nat) (z : Int) (k : Nat) (j : Nat) : Int :=
  if j < p then f j else if j = p then z else if j ≤ k then f (j - 1) else 0

theorem put_all (f : Nat → Int) (p : Nat) (z : Int) (n : Nat) (hp : p ≤ n) : allP (put f p z n) (n + 1) = (allP f n && pss z) := by
  obtain ⟨m, rfl⟩ : ∃ m, n = p + m := ⟨n - p, by omega⟩
  rw [show p + m + 1 = (p + 1) + m from by omega, allP_cut, allP_cut f p m, allP_succ]
  rw [allP_congr (put f p z (p + m)) f p (fun i hi => by unfold put; rw [if_pos hi])]
  rw [allP_congr (fun i => put f p z (p + m) (p + 1 + i)) (fun i => f (p + i)) m (fun i hi => by
    show put f p z (p + m) (p + 1 + i) = f (p + i)
    unfold put
    rw [if_neg (by omega), if_neg (by omega), if_pos (by omega)]
    congr 1
    omega)]
  have : put f p z (p + m) p = z := by unfold put; rw [if_neg (by omega), if_pos rfl]
  rw [this]
  cases allP f p <;> cases pss z <;> cases allP (fun i => f (p + i)) m <;> rfl

/-! The three stores of the law. -/
theorem row_first {w : World} {base g n k : Nat} {f : Nat → Int} (hr : IntRow w base g n (fun j => if j < k then f j else 0)) (hk : k < n) :
    IntRow (w.setCell ⟨g, k, none⟩ (.int .i64 (f k))) base g n (fun j => if j < k + 1 then f j else 0) :=
  int_congr (int_set hr k (f k) hk) (fun j hj => by
    show (if j = k then f k else if j < k then f j else 0) = if j < k + 1 then f j else 0
    by_cases h1 : j = k
    · subst h1; simp
    · rw [if_neg h1]
      by_cases h2 : j < k
      · rw [if_pos h2, if_pos (by omega)]
      · rw [if_neg h2, if_neg (by omega)])

theorem row_new {w : World} {base g n p : Nat} {f : Nat → Int} (z : Int) (hr : IntRow w base g n (fun j => if j < p then f j else 0)) (hp : p < n) :
    IntRow (w.setCell ⟨g, p, none⟩ (.int .i64 z)) base g n (put f p z p) :=
  int_congr (int_set hr p z hp) (fun j hj => by
    show (if j = p then z else if j < p then f j else 0) = put f p z p j
    unfold put
    by_cases h1 : j = p
    · subst h1; simp
    · rw [if_neg h1]
      by_cases h2 : j < p
      · rw [if_pos h2, if_pos h2]
      · rw [if_neg h2, if_neg h2, if_neg h1, if_neg (by omega)])

theorem row_next {w : World} {base g n p k : Nat} {z : Int} {f : Nat → Int} (hr : IntRow w base g n (put f p z k)) (hp : p ≤ k) (hk : k + 1 < n) :
    IntRow (w.setCell ⟨g, k + 1, none⟩ (.int .i64 (f k))) base g n (put f p z (k + 1)) :=
  int_congr (int_set hr (k + 1) (f k) hk) (fun j hj => by
    show (if j = k + 1 then f k else put f p z k j) = put f p z (k + 1) j
    unfold put
    by_cases h1 : j = k + 1
    · subst h1
      rw [if_pos rfl, if_neg (by omega), if_neg (by omega), if_pos (by omega)]
      rfl
    · rw [if_neg h1]
      by_cases h2 : j < p
      · rw [if_pos h2, if_pos h2]
      · rw [if_neg h2, if_neg h2]
        by_cases h3 : j = p
        · rw [if_pos h3, if_pos h3]
        · rw [if_neg h3, if_neg h3]
          by_cases h4 : j ≤ k
          · rw [if_pos h4, if_pos (by omega)]
          · rw [if_neg h4, if_neg (by omega)])

theorem put_zero (f : Nat → Int) (p k j : Nat) (z : Int) (h : k < j) (hp : p ≤ k) : put f p z k j = 0 := by
  unfold put
  rw [if_neg (by omega), if_neg (by omega), if_neg (by omega)]

end Go.Proofs.Qxb6614522a.SubmParts
