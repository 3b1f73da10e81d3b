/- spanColsB1: the four columns of a list of spans. -/
import Derived.Test.Qxb6614596aHas
import Derived.Deep.OwnRows
namespace Go.Proofs.Qxb6614596a.HasParts
open Go.RowKit

theorem info3 : (Try.prog.info? 3).map (fun i => (i.zero, i.size, i.bytes)) = some (some (.int .i64 0), 1, 8) := by kernel_rfl
theorem info4 : (Try.prog.info? 4).map (fun i => (i.zero, i.size, i.bytes)) = some (some (.bool false), 1, 1) := by kernel_rfl

theorem results_tmp4 {fn : Func} {t u v x : Tmp} (h : fn.results = #[.tmp t, .tmp u, .tmp v, .tmp x]) (tmps : Array Value) (P : Program) (w : World) :
    (results fn tmps).run P w = .ok (.tuple #[tmps.getD t undef, tmps.getD u undef, tmps.getD v undef, tmps.getD x undef]) w := by
  simp [results, h]

/-- The four columns, the first k rows laid. -/
def Cols (w : World) (N n k : Nat) (f : Nat → Sp) : Prop :=
  w.rowIs N 3 n (fun j => if j < k then .int .i64 (f j).st else .int .i64 0) ∧ w.rowIs (N + 1) 3 n (fun j => if j < k then .int .i64 (f j).en else .int .i64 0) ∧
  w.rowIs (N + 2) 4 n (fun j => if j < k then .bool (f j).ok else .bool false) ∧ w.rowIs (N + 3) 4 n (fun j => if j < k then .bool (f j).gv else .bool false)

theorem cols_start (w : World) (n : Nat) (f : Nat → Sp) :
    Cols ((((w.alloc (.cells (madeCells #[.int .i64 0] n) 3)).alloc (.cells (madeCells #[.int .i64 0] n) 3)).alloc (.cells (madeCells #[.bool false] n) 4)).alloc (.cells (madeCells #[.bool false] n) 4)) w.heap.size n 0 f := by
  have s1 : (w.alloc (.cells (madeCells #[.int .i64 0] n) 3)).heap.size = w.heap.size + 1 := by simp
  have s2 : ((w.alloc (.cells (madeCells #[.int .i64 0] n) 3)).alloc (.cells (madeCells #[.int .i64 0] n) 3)).heap.size = w.heap.size + 2 := by simp
  have s3 : (((w.alloc (.cells (madeCells #[.int .i64 0] n) 3)).alloc (.cells (madeCells #[.int .i64 0] n) 3)).alloc (.cells (madeCells #[.bool false] n) 4)).heap.size = w.heap.size + 3 := by simp
  have r0 := World.rowIs_made w (.int .i64 0) n 3
  have r1 := World.rowIs_made (w.alloc (.cells (madeCells #[.int .i64 0] n) 3)) (.int .i64 0) n 3
  have r2 := World.rowIs_made ((w.alloc (.cells (madeCells #[.int .i64 0] n) 3)).alloc (.cells (madeCells #[.int .i64 0] n) 3)) (.bool false) n 4
  have r3 := World.rowIs_made (((w.alloc (.cells (madeCells #[.int .i64 0] n) 3)).alloc (.cells (madeCells #[.int .i64 0] n) 3)).alloc (.cells (madeCells #[.bool false] n) 4)) (.bool false) n 4
  rw [s1] at r1
  rw [s2] at r2
  rw [s3] at r3
  exact ⟨(((r0.alloc _).alloc _).alloc _).congr (fun j _ => by simp), ((r1.alloc _).alloc _).congr (fun j _ => by simp), (r2.alloc _).congr (fun j _ => by simp), r3.congr (fun j _ => by simp)⟩

theorem upto {α : Type} (f : Nat → α) (z : α) (k j : Nat) : (if j = k then f k else if j < k then f j else z) = if j < k + 1 then f j else z := by
  by_cases h1 : j = k
  · subst h1; simp
  · rw [if_neg h1]
    by_cases h2 : j < k
    · rw [if_pos h2, if_pos (by omega)]
    · rw [if_neg h2, if_neg (by omega)]

theorem cols_step {w : World} {N n k : Nat} {f : Nat → Sp} (h : Cols w N n k f) :
    Cols ((((w.setCell ⟨N, k, none⟩ (.int .i64 (f k).st)).setCell ⟨N + 1, k, none⟩ (.int .i64 (f k).en)).setCell ⟨N + 2, k, none⟩ (.bool (f k).ok)).setCell ⟨N + 3, k, none⟩ (.bool (f k).gv)) N n (k + 1) f := by
  obtain ⟨h0, h1, h2, h3⟩ := h
  refine ⟨((((h0.set k (.int .i64 (f k).st)).setOther ?_ _).setOther ?_ _).setOther ?_ _).congr (fun j _ => upto (fun j => Value.int .i64 (f j).st) _ k j),
    ((((h1.setOther ?_ _).set k (.int .i64 (f k).en)).setOther ?_ _).setOther ?_ _).congr (fun j _ => upto (fun j => Value.int .i64 (f j).en) _ k j),
    ((((h2.setOther ?_ _).setOther ?_ _).set k (.bool (f k).ok)).setOther ?_ _).congr (fun j _ => upto (fun j => Value.bool (f j).ok) _ k j),
    ((((h3.setOther ?_ _).setOther ?_ _).setOther ?_ _).set k (.bool (f k).gv)).congr (fun j _ => upto (fun j => Value.bool (f j).gv) _ k j)⟩
  all_goals (simp)

/-- What the columns are when all rows are laid. -/
def ColsAll (w : World) (N n : Nat) (f : Nat → Sp) : Prop :=
  w.rowIs N 3 n (fun j => .int .i64 (f j).st) ∧ w.rowIs (N + 1) 3 n (fun j => .int .i64 (f j).en) ∧ w.rowIs (N + 2) 4 n (fun j => .bool (f j).ok) ∧ w.rowIs (N + 3) 4 n (fun j => .bool (f j).gv)

theorem cols_done {w : World} {N n : Nat} {f : Nat → Sp} (h : Cols w N n n f) : ColsAll w N n f := by
  obtain ⟨h0, h1, h2, h3⟩ := h
  exact ⟨h0.congr (fun j hj => if_pos hj), h1.congr (fun j hj => if_pos hj), h2.congr (fun j hj => if_pos hj), h3.congr (fun j hj => if_pos hj)⟩

theorem below4 (w : World) (a b c d : Obj) : Below w.heap.size w ((((w.alloc a).alloc b).alloc c).alloc d) :=
  ((((Below.refl _ _).alloc (by simp) _).alloc (by simp) _).alloc (by simp; omega) _).alloc (by simp; omega) _

theorem below4s {B : Nat} {w wr : World} {k0 k1 k2 k3 : Nat} (h : Below B w wr) (a b c d : Value) :
    Below B w ((((wr.setCell ⟨B, k0, none⟩ a).setCell ⟨B + 1, k1, none⟩ b).setCell ⟨B + 1 + 1, k2, none⟩ c).setCell ⟨B + 1 + 1 + 1, k3, none⟩ d) :=
  (((h.setCell (Nat.le_refl _) _).setCell (show B ≤ B + 1 from by omega) _).setCell (show B ≤ B + 1 + 1 from by omega) _).setCell (show B ≤ B + 1 + 1 + 1 from by omega) _

set_option maxRecDepth 20000 in
set_option maxHeartbeats 1000000 in
theorem cols_any (b off n cap : Nat) (f : Nat → Sp) (w : World) (hb : b < w.heap.size) (hl : n ≤ 40000) (hc : Hid (∀ i, i < n → SpAt w b off i (f i))) :
    Calls Try.prog 14 #[.slice (some ⟨b, off, none⟩) n cap] w fun e w' =>
      e = .returned (.tuple #[.slice (some ⟨w.heap.size, 0, none⟩) n n, .slice (some ⟨w.heap.size + 1, 0, none⟩) n n, .slice (some ⟨w.heap.size + 2, 0, none⟩) n n, .slice (some ⟨w.heap.size + 3, 0, none⟩) n n]) ∧
      Hid (ColsAll w' w.heap.size n f) ∧ Below w.heap.size w w' := by
  have hm22 := run_make_row' (P := Try.prog) 22 3 (.int .i64 0) 8 Try.underlying22 info3 rfl .i64 .i64 n (by omega) (by omega)
  have hm40 := run_make_row' (P := Try.prog) 40 4 (.bool false) 1 Try.underlying40 info4 rfl .i64 .i64 n (by omega) (by omega)
  go_enter Try.func14, Try.ntmps14
  go_wp2
  clear hm22 hm40
  go_loopw [10] (fun i wr => ∃ k : Nat, k ≤ n ∧ i = .int .i64 k ∧ Cols wr w.heap.size n k f ∧ Below w.heap.size w wr) (fun i _ => n - (intOf i).toNat)
  case atStart => exact ⟨0, Nat.zero_le _, rfl, cols_start w n f, below4 w _ _ _ _⟩
  case round =>
    obtain ⟨k, hk, rfl, hcol, hbel⟩ := hrel
    by_cases hlt : k < n
    · obtain ⟨h0, h1, h2, h3⟩ := hc.out k hlt
      have g0 := (hbel.cell (p := ⟨b, off + k * 4, none⟩) hb).trans h0
      have g1 := (hbel.cell (p := ⟨b, off + k * 4 + 1, none⟩) hb).trans h1
      have g2 := (hbel.cell (p := ⟨b, off + k * 4 + 2, none⟩) hb).trans h2
      have g3 := (hbel.cell (p := ⟨b, off + k * 4 + 3, none⟩) hb).trans h3
      clear h0 h1 h2 h3
      have HC : Hid (Cols wr w.heap.size n k f) := hcol
      obtain ⟨r0, r1, r2, r3⟩ := hcol
      have c0 := r0.cell hlt
      have c1 := r1.cell hlt
      have c2 := r2.cell hlt
      have c3 := r3.cell hlt
      have f0 := r0.frozen k
      have f1 := r1.frozen k
      have f2 := r2.frozen k
      have f3 := r3.frozen k
      clear r0 r1 r2 r3
      simp only [Nat.lt_irrefl, if_false] at c0 c1 c2 c3
      go_wp2
      go_roundw
      case rel => exact ⟨k + 1, by omega, by go_num, cols_step HC.out, below4s hbel _ _ _ _⟩
      case measure => simp [intOf]; omega
    · obtain rfl : k = n := by omega
      have HC : Hid (ColsAll wr w.heap.size k f) := cols_done hcol
      clear hcol
      go_wp2
      refine bodyPost_ret (results_tmp4 rfl _ _ _) rfl ?_
      exact ⟨rfl, HC, hbel⟩

end Go.Proofs.Qxb6614596a.HasParts
