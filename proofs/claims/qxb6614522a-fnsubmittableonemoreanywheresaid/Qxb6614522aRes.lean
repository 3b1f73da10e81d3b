/- zzResults: a row of Results, each with its status set, the rest zero. -/
import Derived.Test.Qxb6614522aLeaf
import Derived.WalkKit
import Derived.WalkSpells
namespace Go.Proofs.Qxb6614522a.SubmParts
open Go.RowKit
theorem info43 : (Try.prog.info? 43).map (fun i => (i.zero, i.size, i.bytes)) = some (some (.agg #[.string ByteArray.empty, .int .i64 0, .nilIface, .pointer none, .bool false]), 5, 56) := by kernel_rfl

/-- The cells of a row of n Results whose statuses are f. -/
def ResCells (xs : List Value) (n : Nat) (f : Nat → Int) : Prop :=
  ∀ j, j < n → xs[j * 5]? = some (.string ByteArray.empty) ∧ xs[j * 5 + 1]? = some (.int .i64 (f j)) ∧ xs[j * 5 + 2]? = some .nilIface ∧ xs[j * 5 + 3]? = some (.pointer none) ∧ xs[j * 5 + 4]? = some (.bool false)

def ResRow (w : World) (base g n : Nat) (f : Nat → Int) : Prop :=
  ∃ xs, w.ownsRow base 43 5 (.slice (some ⟨g, 0, none⟩) n n) n xs ∧ ResCells xs n f

theorem made_at (n i : Nat) (h : i < n * 5) : (madeCells #[Value.string ByteArray.empty, .int .i64 0, .nilIface, .pointer none, .bool false] (n * 5)).toList[i]? =
    some (#[Value.string ByteArray.empty, .int .i64 0, .nilIface, .pointer none, .bool false][i % 5]!) := by
  simp [madeCells, h]

theorem res_start {w : World} {base g n : Nat} (f : Nat → Int)
    (h : w.ownsRow base 43 5 (.slice (some ⟨g, 0, none⟩) n n) n (madeCells #[Value.string ByteArray.empty, .int .i64 0, .nilIface, .pointer none, .bool false] (n * 5)).toList) :
    ResRow w base g n (fun j => if j < 0 then f j else 0) := by
  refine ⟨_, h, fun j hj => ?_⟩
  rw [made_at _ _ (by omega), made_at _ _ (by omega), made_at _ _ (by omega), made_at _ _ (by omega), made_at _ _ (by omega)]
  have e0 : j * 5 % 5 = 0 := by omega
  have e1 : (j * 5 + 1) % 5 = 1 := by omega
  have e2 : (j * 5 + 2) % 5 = 2 := by omega
  have e3 : (j * 5 + 3) % 5 = 3 := by omega
  have e4 : (j * 5 + 4) % 5 = 4 := by omega
  rw [e0, e1, e2, e3, e4]
  simp

theorem res_cell {w : World} {base g n : Nat} {f : Nat → Int} (h : ResRow w base g n f) (k : Nat) (hk : k < n) :
    w.cell? ⟨g, k * 5, none⟩ = some (.string ByteArray.empty) ∧ w.cell? ⟨g, k * 5 + 1, none⟩ = some (.int .i64 (f k)) ∧ w.cell? ⟨g, k * 5 + 2, none⟩ = some .nilIface ∧
    w.cell? ⟨g, k * 5 + 3, none⟩ = some (.pointer none) ∧ w.cell? ⟨g, k * 5 + 4, none⟩ = some (.bool false) := by
  obtain ⟨xs, ho, hx⟩ := h
  obtain ⟨h0, h1, h2, h3, h4⟩ := hx k hk
  exact ⟨(ho.cellAt _ (by omega)).trans h0, (ho.cellAt _ (by omega)).trans h1, (ho.cellAt _ (by omega)).trans h2, (ho.cellAt _ (by omega)).trans h3, (ho.cellAt _ (by omega)).trans h4⟩

theorem res_free {w : World} {base g n : Nat} {f : Nat → Int} (h : ResRow w base g n f) (j : Nat) : w.frozen? ⟨g, j, none⟩ = false := by
  obtain ⟨xs, ho, hx⟩ := h
  exact ho.frozenAt j

theorem res_step {w : World} {base g n : Nat} {f : Nat → Int} (k : Nat) (hk : k < n) (h : ResRow w base g n (fun j => if j < k then f j else 0)) :
    ResRow (w.setCell ⟨g, k * 5 + 1, none⟩ (.int .i64 (f k))) base g n (fun j => if j < k + 1 then f j else 0) := by
  obtain ⟨xs, ho, hx⟩ := h
  refine ⟨_, (ho.stored (k * 5 + 1) (.int .i64 (f k))).1, fun j hj => ?_⟩
  obtain ⟨h0, h1, h2, h3, h4⟩ := hx j hj
  have hlen : xs.length = n * 5 := ho.1
  refine ⟨by rw [List.getElem?_set_ne (by omega)]; exact h0, ?_, by rw [List.getElem?_set_ne (by omega)]; exact h2, by rw [List.getElem?_set_ne (by omega)]; exact h3, by rw [List.getElem?_set_ne (by omega)]; exact h4⟩
  by_cases e : j = k
  · subst e
    rw [List.getElem?_set_self (by omega)]
    simp
  · rw [List.getElem?_set_ne (by omega), h1]
    have : (j < k) = (j < k + 1) := propext ⟨fun _ => by omega, fun _ => by omega⟩
    simp only [this]

theorem res_congr {w : World} {base g n : Nat} {f f' : Nat → Int} (h : ResRow w base g n f) (e : ∀ j, j < n → f j = f' j) : ResRow w base g n f' := by
  obtain ⟨xs, ho, hx⟩ := h
  exact ⟨xs, ho, fun j hj => by rw [← e j hj]; exact hx j hj⟩

theorem results_any (b off len cap : Nat) (f : Nat → Int) (w : World) (hl : len ≤ 65537) (hb : b < w.heap.size)
    (hc : ∀ i, i < len → w.cell? ⟨b, off + i, none⟩ = some (.int .i64 (f i))) :
    Calls Try.prog 9 #[.slice (some ⟨b, off, none⟩) len cap] w fun e w' => e = .returned (.slice (some ⟨w.heap.size, 0, none⟩) len len) ∧ ResRow w' w.heap.size w.heap.size len f ∧ Below w.heap.size w w' := by
  obtain ⟨i0, hi, hz0, hz1, hz2⟩ := info_parts info43
  go_enter Try.func9, Try.ntmps9
  go_wp2_with (at_make; refine wpList_make_full _ rfl (.tmp 6) (.tmp 6) 25 rfl w.heap.size 43 i0 _ 5 Try.underlying25 hi hz0 hz1 .i64 .i64 _ _ len rfl rfl rfl rfl (by rw [hz2]; omega) (by unfold maxLen; omega) (Nat.le_refl _) ?_)
  intro w1 hown hgrow
  clear hi hz0 hz1 hz2 i0
  have HR : Hid (ResRow w1 w.heap.size w.heap.size len (fun j => if j < 0 then f j else 0)) := res_start f hown
  have HB : Hid (Below w.heap.size w w1) := (Below.refl _ _).grown hgrow (Nat.le_refl _) (by intro k hk; cases hk)
  clear hown hgrow
  go_wp2
  go_loopw [4] (fun i wr => ∃ k : Nat, k ≤ len ∧ i = .int .i64 k ∧ ResRow wr w.heap.size w.heap.size len (fun j => if j < k then f j else 0) ∧ Below w.heap.size w wr) (fun i _ => len - (intOf i).toNat)
  case atStart => exact ⟨0, Nat.zero_le _, rfl, HR.out, HB.out⟩
  case round =>
    obtain ⟨k, hk, rfl, hrow, hbel⟩ := hrel
    by_cases hlt : k < len
    · have hcell : wr.cell? ⟨b, off + k, none⟩ = some (.int .i64 (f k)) := (hbel.cell (by exact hb)).trans (hc k hlt)
      have hx : wr.cell? ⟨w.heap.size, k * 5 + 1, none⟩ = some (.int .i64 0) := by have := (res_cell hrow k hlt).2.1; simpa using this
      have hf : wr.frozen? ⟨w.heap.size, k * 5 + 1, none⟩ = false := res_free hrow _
      have HS : Hid (ResRow (wr.setCell ⟨w.heap.size, k * 5 + 1, none⟩ (.int .i64 (f k))) w.heap.size w.heap.size len (fun j => if j < k + 1 then f j else 0)) := res_step k hlt hrow
      clear hc hrow
      go_wp2
      go_roundw
      case rel => exact ⟨k + 1, by omega, by go_num, HS.out, hbel.setCell (Nat.le_refl _) _⟩
      case measure => simp [intOf]; omega
    · have HS : Hid (ResRow wr w.heap.size w.heap.size len f) := res_congr hrow (fun j hj => by rw [if_pos (by omega)])
      clear hc hrow
      go_wp2
      go_ret
      exact ⟨rfl, HS.out, hbel⟩

/-- An empty slice, whatever its address. -/
theorem results_none (a : Option Addr) (cap : Nat) (f : Nat → Int) (w : World) :
    Calls Try.prog 9 #[.slice a 0 cap] w fun e w' => e = .returned (.slice (some ⟨w.heap.size, 0, none⟩) 0 0) ∧ ResRow w' w.heap.size w.heap.size 0 f ∧ Below w.heap.size w w' := by
  obtain ⟨i0, hi, hz0, hz1, hz2⟩ := info_parts info43
  go_enter Try.func9, Try.ntmps9
  go_wp2_with (at_make; refine wpList_make_full _ rfl (.tmp 6) (.tmp 6) 25 rfl w.heap.size 43 i0 _ 5 Try.underlying25 hi hz0 hz1 .i64 .i64 _ _ 0 rfl rfl rfl rfl (by rw [hz2]; omega) (by unfold maxLen; omega) (Nat.le_refl _) ?_)
  intro w1 hown hgrow
  clear hi hz0 hz1 hz2 i0
  have HR : Hid (ResRow w1 w.heap.size w.heap.size 0 f) := res_congr (res_start f hown) (fun j hj => by omega)
  have HB : Hid (Below w.heap.size w w1) := (Below.refl _ _).grown hgrow (Nat.le_refl _) (by intro k hk; cases hk)
  clear hown hgrow
  go_wp2
  refine wp_loop_rounds 1 ?_
  rw [rounds_succ]
  go_wp2
  go_ret
  exact ⟨rfl, HR.out, HB.out⟩

end Go.Proofs.Qxb6614522a.SubmParts
