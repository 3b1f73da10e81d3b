/- ZZhas, hasB1 and neededHeldB1: what each answers. -/
import Derived.Test.Qxb6614596aZz
namespace Go.Proofs.Qxb6614596a.HasParts
open Go.RowKit

set_option maxRecDepth 20000 in
set_option maxHeartbeats 1000000 in
theorem zzhas_any (nm : ByteArray) (fa : Option Addr) (fl fc : Nat) (need N n : Nat) (f : Nat → Sp) (w : World) (hl : n ≤ 40000) (hN : N + 3 < w.heap.size)
    (hcols : Hid (ColsAll w N n f)) (hneed : need = 0 ∨ 0 < need ∧ (need + 1) * 2 ≤ n) :
    Calls Try.prog 15 #[.string nm, .slice fa fl fc, .int .i64 need, .slice (some ⟨N, 0, none⟩) n n, .slice (some ⟨N + 1, 0, none⟩) n n, .slice (some ⟨N + 2, 0, none⟩) n n, .slice (some ⟨N + 3, 0, none⟩) n n] w fun e w' =>
      e = .returned (.bool (held need f)) ∧ Below w.heap.size w w' := by
  have hm := run_make4 49 51 Try.underlying49 info51 n (by omega)
  go_enter Try.func15, Try.ntmps15
  go_wp2
  clear hm
  go_loopw [22] (fun i wr => ∃ k : Nat, k ≤ n ∧ i = .int .i64 k ∧ SpRow wr 51 w.heap.size n (fun i => if i < k then f i else z0) ∧ Below w.heap.size w wr) (fun i _ => n - (intOf i).toNat)
  case atStart => exact ⟨0, Nat.zero_le _, rfl, sp_congr (sp_made w 51 n) (fun i _ => by simp), (Below.refl _ _).alloc (Nat.le_refl _) _⟩
  case round =>
    obtain ⟨k, hk, rfl, hrow, hbel⟩ := hrel
    by_cases hlt : k < n
    · obtain ⟨q0, q1, q2, q3⟩ := hcols.out
      have g0 := (hbel.cell (p := ⟨N, k, none⟩) (show N < w.heap.size by omega)).trans (q0.cell hlt)
      have g1 := (hbel.cell (p := ⟨N + 1, k, none⟩) (show N + 1 < w.heap.size by omega)).trans (q1.cell hlt)
      have g2 := (hbel.cell (p := ⟨N + 2, k, none⟩) (show N + 2 < w.heap.size by omega)).trans (q2.cell hlt)
      have g3 := (hbel.cell (p := ⟨N + 3, k, none⟩) (show N + 3 < w.heap.size by omega)).trans (q3.cell hlt)
      clear q0 q1 q2 q3
      obtain ⟨c0, c1, c2, c3⟩ := sp_cell hrow k hlt
      simp only [Nat.lt_irrefl, if_false, z0] at c0 c1 c2 c3
      have f0 := World.rowIs.frozen hrow (k * 4)
      have f1 := World.rowIs.frozen hrow (k * 4 + 1)
      have f2 := World.rowIs.frozen hrow (k * 4 + 2)
      have f3 := World.rowIs.frozen hrow (k * 4 + 3)
      have HS := tuck (sp_next hrow)
      clear hrow
      have hki : (k : Int) < (n : Int) := by omega
      go_wp2
      go_region
      all_goals
        go_wp2
        go_roundw
        case rel => exact ⟨k + 1, by omega, by go_num, World.rowIs.drew HS.out, (below4b hbel (Nat.le_refl _) _ _ _ _).drew⟩
        case measure => simp [intOf]; omega
    · obtain rfl : k = n := by omega
      have HR : Hid (SpRow wr 51 w.heap.size k f) := sp_congr hrow (fun i hi => if_pos hi)
      have hg : w.heap.size < wr.heap.size := World.rowIs.lt hrow
      clear hrow hcols
      rcases hneed with h0 | ⟨h0, hn⟩
      · subst h0
        go_wp2_with fail
        refine (has_zero _ _ _ _ _ _).mono ?_
        rintro e w1 ⟨rfl, hb⟩
        go_wp2
        go_ret
        exact ⟨rfl, hbel.trans (hb.mono hbel.size)⟩
      · go_wp2_with fail
        refine (has_some _ _ _ _ _ _ _ f _ h0 hn (by omega) hg (tuck (fun i hi => sp_at HR.out i hi))).mono ?_
        rintro e w1 ⟨rfl, hb⟩
        go_wp2
        go_ret
        exact ⟨rfl, hbel.trans (hb.mono hbel.size)⟩

/-- hasB1 over spans that lie at (b, off). -/
theorem has_b1 (nm : ByteArray) (fa : Option Addr) (fl fc : Nat) (need b off n cap : Nat) (f : Nat → Sp) (w : World) (hb : b < w.heap.size) (hl : n ≤ 40000)
    (hneed : need = 0 ∨ 0 < need ∧ (need + 1) * 2 ≤ n) (hc : Hid (∀ i, i < n → SpAt w b off i (f i))) :
    Calls Try.prog 7 #[.string nm, .slice fa fl fc, .int .i64 need, .slice (some ⟨b, off, none⟩) n cap] w fun e w' => e = .returned (.bool (held need f)) ∧ Below w.heap.size w w' := by
  have HN : Hid (need = 0 ∨ 0 < need ∧ (need + 1) * 2 ≤ n) := hneed
  clear hneed
  go_enter Try.func7, Try.ntmps7
  go_wp2_with fail
  refine (cols_any _ _ _ _ f _ hb hl hc).mono ?_
  rintro e w1 ⟨rfl, hcols, hb1⟩
  have hs : w.heap.size + 3 < w1.heap.size := hcols.out.2.2.2.lt
  go_wp2_with fail
  refine (zzhas_any _ _ _ _ _ _ _ f _ hl hs hcols HN.out).mono ?_
  rintro e w2 ⟨rfl, hb2⟩
  go_wp2
  go_ret
  exact ⟨rfl, hb1.trans (hb2.mono hb1.size)⟩

/-- neededHeldB1 over the same. -/
theorem needed_any (need b off n cap : Nat) (f : Nat → Sp) (w : World) (hl : n ≤ 40000)
    (hneed : need = 0 ∨ 0 < need ∧ (need + 1) * 2 ≤ n) (hc : Hid (∀ i, i < n → SpAt w b off i (f i))) :
    Calls Try.prog 8 #[.int .i64 need, .slice (some ⟨b, off, none⟩) n cap] w fun e w' => e = .returned (.bool (held need f)) ∧ w' = w := by
  rcases hneed with h0 | ⟨h0, hn⟩
  · subst h0
    go_enter Try.func8, Try.ntmps8
    go_wp2
    go_ret
    exact ⟨rfl, rfl⟩
  · have hz : ((need : Int) == 0) = false := by simp; omega
    have hz' : (need == 0) = false := by simp; omega
    have HZ := tuck hz'
    clear hz'
    have c0 := (hc.out (need * 2) (by omega)).2.2.1
    have c1 := (hc.out (need * 2 + 1) (by omega)).2.2.1
    have HH : Hid (held need f = ((f (need * 2)).ok || (f (need * 2 + 1)).ok)) := by
      show held need f = _
      unfold held
      rw [HZ.out]
      simp
    go_enter Try.func8, Try.ntmps8
    go_wp2
    refine wp_loop_rounds 3 ?_
    rw [rounds_succ]
    cases e0 : (f (need * 2)).ok
    · go_wp2
      rw [rounds_succ]
      cases e1 : (f (need * 2 + 1)).ok
      · go_wp2
        rw [rounds_succ]
        go_wp2
        go_ret
        exact ⟨ret_bool (by rw [HH.out, e0, e1]; rfl), rfl⟩
      · go_wp2
        go_ret
        exact ⟨ret_bool (by rw [HH.out, e0, e1]; rfl), rfl⟩
    · go_wp2
      go_ret
      exact ⟨ret_bool (by rw [HH.out, e0]; rfl), rfl⟩

end Go.Proofs.Qxb6614596a.HasParts
