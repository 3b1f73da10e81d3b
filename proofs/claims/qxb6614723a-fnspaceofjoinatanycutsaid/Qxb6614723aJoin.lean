/- Copies of byte slices into rows that the call made; zzJoin. -/
import Derived.Test.Qxb6614723aWs
import Derived.Laws.CopyOwn
namespace Go.Proofs.Qxb6614723a.WsParts
open Go.RowKit

theorem info5 : (Try.prog.info? 5).map (fun i => (i.zero, i.size, i.bytes)) = some (some (.int .u8 0), 1, 1) := by kernel_rfl
theorem size5 : (Try.prog.info? 5).map (·.size) = some 1 := by kernel_rfl

/-- A guard: the next operation is a copy. -/
theorem at_copy {P : Program} {w : World} {ops : Array Oper} {rest : List Oper} {dst : Option Tmp} {ty : TypeId} {pos : String} {aft : Array Edge} {gd : Option (Nat × Bool)} {args : Array Operand} {tys : Array TypeId} {a : Act} {Q : Exit → Act → World → Prop}
    (h : wpList P ops Q ({ dst := dst, op := .call { callee := .builtin .copy, args := args, argTypes := tys }, type := ty, pos := pos, after := aft, guard := gd } :: rest) a w) :
    wpList P ops Q ({ dst := dst, op := .call { callee := .builtin .copy, args := args, argTypes := tys }, type := ty, pos := pos, after := aft, guard := gd } :: rest) a w := h

/-- The cells of the first n bytes of f. -/
def bl (f : Nat → Int) (n : Nat) : List Value := (List.range n).map fun i => .int .u8 (f i)

theorem bl_len (f : Nat → Int) (n : Nat) : (bl f n).length = n := by simp [bl]
theorem bl_get (f : Nat → Int) (n i : Nat) (h : i < n) : (bl f n)[i]? = some (.int .u8 (f i)) := by simp [bl, h]
theorem bl_one (f : Nat → Int) (n : Nat) : ∀ v ∈ bl f n, v.oneCell' = true := by
  intro v hv
  simp [bl] at hv
  obtain ⟨i, _, rfl⟩ := hv
  rfl

/-- Block g is a row of bytes, as a list. -/
def Blk (w : World) (g : Nat) (l : List Value) : Prop := w.heap[g]? = some (.cells l.toArray 5 (0, 0))

theorem own_blk {w : World} {base g n : Nat} {xs : List Value} (h : w.ownsRow base 5 1 (.slice (some ⟨g, 0, none⟩) n n) n xs) : ∃ cur : List Value, Blk w g cur ∧ cur.length = n := by
  rcases h.2 with ⟨h', _⟩ | ⟨g', cap', cur, h', _, hg, _, _, hsz, _⟩
  · simp at h'
  · simp at h'
    obtain ⟨rfl, rfl⟩ := h'
    exact ⟨cur.toList, by simpa [Blk] using hg, by simpa using hsz⟩

theorem blk_view {w : World} {g n : Nat} {f : Nat → Int} (h : Blk w g (bl f n)) : BV w (some ⟨g, 0, none⟩) n f := by
  refine .inr ⟨g, 0, rfl, (Array.getElem?_eq_some_iff.1 h).1, fun i hi => ?_⟩
  rw [Nat.zero_add, cell_of_row w g i _ 5 (0, 0) h]
  simpa using bl_get f n i hi

/-- What copy asks of its source. -/
theorem view_src {w : World} {a : Option Addr} {n : Nat} {f : Nat → Int} (h : BV w a n f) (hp : 0 < (bl f n).length) :
    ∃ ad, a = some ad ∧ ∀ j v, (bl f n)[j]? = some v → w.cell? (ad.add j) = some v := by
  rw [bl_len] at hp
  rcases h with h | ⟨b, off, rfl, _, hc⟩
  · omega
  · refine ⟨_, rfl, fun j v hv => ?_⟩
    have hj : j < n := by
      have := (List.getElem?_eq_some_iff.1 hv).1
      rwa [bl_len] at this
    rw [bl_get f n j hj] at hv
    cases hv
    have hadd : (⟨b, off, none⟩ : Addr).add j = ⟨b, off + j, none⟩ := by unfold Addr.add; split <;> simp_all
    rw [hadd]
    exact hc j hj

theorem splice_all (cur : List Value) (f : Nat → Int) (n : Nat) (h : cur.length = n) : splice cur 0 (bl f n) = bl f n := by
  unfold splice
  rw [bl_len, List.drop_eq_nil_of_le (by omega)]
  simp

/-- g behind f. -/
def cat (f g : Nat → Int) (n i : Nat) : Int := if i < n then f i else g (i - n)

theorem bl_cat (f g : Nat → Int) (n m : Nat) : bl (cat f g n) (n + m) = bl f n ++ bl g m := by
  apply List.ext_getElem?
  intro i
  by_cases h1 : i < n
  · rw [List.getElem?_append_left (by rw [bl_len]; exact h1), bl_get _ _ _ (by omega), bl_get _ _ _ h1]
    simp [cat, h1]
  · rw [List.getElem?_append_right (by rw [bl_len]; omega), bl_len]
    by_cases h2 : i < n + m
    · rw [bl_get _ _ _ h2, bl_get _ _ _ (by omega)]
      simp [cat, h1]
    · rw [List.getElem?_eq_none (by rw [bl_len]; omega), List.getElem?_eq_none (by rw [bl_len]; omega)]

theorem splice_two (cur : List Value) (f g : Nat → Int) (n m : Nat) (h : cur.length = n + m) : splice (splice cur 0 (bl f n)) n (bl g m) = bl (cat f g n) (n + m) := by
  rw [bl_cat]
  have h3 := splice_splice_splice cur (bl f n) (bl g m) [] n m (bl_len f n) (bl_len g m) (by simpa using h)
  have h4 : splice (splice (splice cur 0 (bl f n)) n (bl g m)) (n + m) [] = splice (splice cur 0 (bl f n)) n (bl g m) := by
    simp [splice]
  rw [h4] at h3
  simpa using h3

end Go.Proofs.Qxb6614723a.WsParts
