/- ZZhas: the spans made out of their columns, then has. And hasB1. -/
import Derived.Test.Qxb6614596aCols
namespace Go.Proofs.Qxb6614596a.HasParts
open Go.RowKit

theorem info51 : (Try.prog.info? 51).map (fun i => (i.zero, i.size, i.bytes)) = some (some (.agg #[.int .i64 0, .int .i64 0, .bool false, .bool false]), 4, 24) := by kernel_rfl
theorem info26 : (Try.prog.info? 26).map (fun i => (i.zero, i.size, i.bytes)) = some (some (.agg #[.int .i64 0, .int .i64 0, .bool false, .bool false]), 4, 24) := by kernel_rfl

/-- 'make' of n spans, as an equation for every world. -/
theorem run_make4 (t e : TypeId) (ht : Try.prog.underlying t = some (.slice e))
    (hinfo : (Try.prog.info? e).map (fun i => (i.zero, i.size, i.bytes)) = some (some (.agg #[.int .i64 0, .int .i64 0, .bool false, .bool false]), 4, 24)) (n : Nat) (hn : n ≤ 100000) (w : World) :
    (Instr.makeSlice t (.int .i64 (n : Int)) (.int .i64 (n : Int))).run Try.prog w = .ok (.slice (some ⟨w.heap.size, 0, none⟩) n n) (w.alloc (.cells (madeCells #[.int .i64 0, .int .i64 0, .bool false, .bool false] (n * 4)) e)) := by
  obtain ⟨i, hi, hz, h1, h2⟩ := info_parts hinfo
  have hr := run_make (P := Try.prog) w t e i _ ht hi hz .i64 .i64 n n (by omega) (Int.le_refl _) (by rw [h2]; omega) (by omega)
  rw [h1] at hr
  simp only [Int.toNat_natCast] at hr
  exact hr

/-- Cell i of a row of spans f. -/
def spv (f : Nat → Sp) (i : Nat) : Value :=
  if i % 4 = 0 then .int .i64 (f (i / 4)).st else if i % 4 = 1 then .int .i64 (f (i / 4)).en else if i % 4 = 2 then .bool (f (i / 4)).ok else .bool (f (i / 4)).gv

theorem spv0 (f : Nat → Sp) (i : Nat) : spv f (i * 4) = .int .i64 (f i).st := by
  unfold spv
  rw [if_pos (by omega), show i * 4 / 4 = i from by omega]
theorem spv1 (f : Nat → Sp) (i : Nat) : spv f (i * 4 + 1) = .int .i64 (f i).en := by
  unfold spv
  rw [if_neg (by omega), if_pos (by omega), show (i * 4 + 1) / 4 = i from by omega]
theorem spv2 (f : Nat → Sp) (i : Nat) : spv f (i * 4 + 2) = .bool (f i).ok := by
  unfold spv
  rw [if_neg (by omega), if_neg (by omega), if_pos (by omega), show (i * 4 + 2) / 4 = i from by omega]
theorem spv3 (f : Nat → Sp) (i : Nat) : spv f (i * 4 + 3) = .bool (f i).gv := by
  unfold spv
  rw [if_neg (by omega), if_neg (by omega), if_neg (by omega), show (i * 4 + 3) / 4 = i from by omega]

/-- Block g is the call's own row of n spans f (of type T). -/
def SpRow (w : World) (T g n : Nat) (f : Nat → Sp) : Prop := w.rowIs g T (n * 4) (spv f)

def z0 : Sp := ⟨0, 0, false, false⟩

theorem sp_made (w : World) (T n : Nat) : SpRow (w.alloc (.cells (madeCells #[.int .i64 0, .int .i64 0, .bool false, .bool false] (n * 4)) T)) T w.heap.size n (fun _ => z0) := by
  refine ⟨_, Deep.blk_alloc_new _ _, size_madeCells _ _, fun i hi => ?_⟩
  have hm : i % 4 = 0 ∨ i % 4 = 1 ∨ i % 4 = 2 ∨ i % 4 = 3 := by omega
  rcases hm with h | h | h | h <;> simp [madeCells, hi, h, spv, z0]

/-- The cells of span i in the walk's spelling. -/
theorem sp_cell {w : World} {T g n : Nat} {f : Nat → Sp} (h : SpRow w T g n f) (i : Nat) (hi : i < n) :
    w.cell? ⟨g, i * 4, none⟩ = some (.int .i64 (f i).st) ∧ w.cell? ⟨g, i * 4 + 1, none⟩ = some (.int .i64 (f i).en) ∧ w.cell? ⟨g, i * 4 + 2, none⟩ = some (.bool (f i).ok) ∧ w.cell? ⟨g, i * 4 + 3, none⟩ = some (.bool (f i).gv) := by
  refine ⟨?_, ?_, ?_, ?_⟩
  · rw [← spv0]; exact h.cell (by omega)
  · rw [← spv1]; exact h.cell (by omega)
  · rw [← spv2]; exact h.cell (by omega)
  · rw [← spv3]; exact h.cell (by omega)

theorem sp_at {w : World} {T g n : Nat} {f : Nat → Sp} (h : SpRow w T g n f) (i : Nat) (hi : i < n) : SpAt w g 0 i (f i) := by
  unfold SpAt
  rw [Nat.zero_add]
  exact sp_cell h i hi

theorem sp_congr {w : World} {T g n : Nat} {f f' : Nat → Sp} (h : SpRow w T g n f) (e : ∀ i, i < n → f i = f' i) : SpRow w T g n f' :=
  World.rowIs.congr h (fun i hi => by unfold spv; rw [e (i / 4) (by omega)])

/-- All four cells of span k set. -/
theorem sp_set {w : World} {T g n : Nat} {f : Nat → Sp} (h : SpRow w T g n f) (k : Nat) (s : Sp) :
    SpRow ((((w.setCell ⟨g, k * 4, none⟩ (.int .i64 s.st)).setCell ⟨g, k * 4 + 1, none⟩ (.int .i64 s.en)).setCell ⟨g, k * 4 + 2, none⟩ (.bool s.ok)).setCell ⟨g, k * 4 + 3, none⟩ (.bool s.gv)) T g n (fun i => if i = k then s else f i) := by
  refine ((((World.rowIs.set h (k * 4) _).set (k * 4 + 1) _).set (k * 4 + 2) _).set (k * 4 + 3) _).congr (fun i hi => ?_)
  by_cases e : i / 4 = k
  · have hm : i % 4 = 0 ∨ i % 4 = 1 ∨ i % 4 = 2 ∨ i % 4 = 3 := by omega
    unfold spv
    simp only [if_pos e]
    rcases hm with h | h | h | h
    · rw [if_neg (by omega), if_neg (by omega), if_neg (by omega), if_pos (by omega), if_pos h]
    · rw [if_neg (by omega), if_neg (by omega), if_pos (by omega), if_neg (by omega), if_pos h]
    · rw [if_neg (by omega), if_pos (by omega), if_neg (by omega), if_neg (by omega), if_pos h]
    · rw [if_pos (by omega), if_neg (by omega), if_neg (by omega), if_neg (by omega)]
  · rw [if_neg (by omega), if_neg (by omega), if_neg (by omega), if_neg (by omega)]
    unfold spv
    simp only [if_neg e]

/-- One more span laid. -/
theorem sp_next {w : World} {T g n k : Nat} {f : Nat → Sp} (h : SpRow w T g n (fun i => if i < k then f i else z0)) :
    SpRow ((((w.setCell ⟨g, k * 4, none⟩ (.int .i64 (f k).st)).setCell ⟨g, k * 4 + 1, none⟩ (.int .i64 (f k).en)).setCell ⟨g, k * 4 + 2, none⟩ (.bool (f k).ok)).setCell ⟨g, k * 4 + 3, none⟩ (.bool (f k).gv)) T g n (fun i => if i < k + 1 then f i else z0) :=
  sp_congr (sp_set h k (f k)) (fun i _ => upto f z0 k i)

theorem below4b {B g : Nat} {w wr : World} {k0 k1 k2 k3 : Nat} (h : Below B w wr) (hg : B ≤ g) (a b c d : Value) :
    Below B w ((((wr.setCell ⟨g, k0, none⟩ a).setCell ⟨g, k1, none⟩ b).setCell ⟨g, k2, none⟩ c).setCell ⟨g, k3, none⟩ d) :=
  (((h.setCell hg _).setCell hg _).setCell hg _).setCell hg _

end Go.Proofs.Qxb6614596a.HasParts
