/- The law 'a raised ok never lowers': its walk. -/
import Derived.Test.Qxb6614596aOuts
namespace Go.Proofs.Qxb6614596a.HasParts
open Go.RowKit

/-- f with span j marked ok. -/
def raise (f : Nat → Sp) (j i : Nat) : Sp := if i = j then ⟨(f j).st, (f j).en, true, (f j).gv⟩ else f i

theorem raise_ok (f : Nat → Sp) (j i : Nat) : (raise f j i).ok = ((f i).ok || i == j) := by
  unfold raise
  by_cases h : i = j
  · subst h; simp
  · simp [h]

theorem held_raise_in (need j : Nat) (f : Nat → Sp) (h : j / 2 = need) : held need (raise f j) = true := by
  unfold held
  rw [raise_ok, raise_ok]
  have : j = need * 2 ∨ j = need * 2 + 1 := by omega
  rcases this with h | h <;> simp [h]

theorem held_raise_out (need j : Nat) (f : Nat → Sp) (h : ¬ j / 2 = need) : held need (raise f j) = held need f := by
  unfold held
  rw [raise_ok, raise_ok]
  have h1 : (need * 2 == j) = false := by simp; omega
  have h2 : (need * 2 + 1 == j) = false := by simp; omega
  rw [h1, h2]
  simp

theorem held_zero (f : Nat → Sp) : held 0 f = true := rfl

/-- The one store: raised[j].Ok = true. -/
theorem sp_raise {w : World} {T g n j : Nat} {f : Nat → Sp} (h : SpRow w T g n f) : SpRow (w.setCell ⟨g, j * 4 + 2, none⟩ (.bool true)) T g n (raise f j) := by
  refine (World.rowIs.set h (j * 4 + 2) _).congr (fun i hi => ?_)
  by_cases e : i = j * 4 + 2
  · rw [if_pos e]
    subst e
    rw [spv2]
    simp [raise]
  · rw [if_neg e]
    unfold spv
    by_cases e2 : i / 4 = j
    · have h2 : ¬ i % 4 = 2 := by omega
      simp [raise, e2, h2]
    · simp [raise, e2]

set_option maxRecDepth 20000 in
set_option maxHeartbeats 2000000 in
/-- A field is needed, and its spans lie in the list. -/
theorem raised_in (nm : ByteArray) (fa : Option Addr) (fl fc need b off n cap j : Nat) (f : Nat → Sp) (o : Bool) (w : World)
    (hnm : nm.size ≤ 65536) (hfl : fl ≤ 8192) (hl : n ≤ 16384) (hb : b < w.heap.size) (hj : j < n)
    (h0 : 0 < need) (hn : (need + 1) * 2 ≤ n) (hc : Hid (∀ i, i < n → SpAt w b off i (f i)))
    (ho : Hid (held need f = o)) (o2 inF : Bool) (ho2 : Hid (held need (raise f j) = o2)) (hF : ((j : Int) / 2 == (need : Int)) = inF) (HO : Hid (o2 = (o || inF))) :
    Calls Try.prog 4 #[.string nm, .slice fa fl fc, .int .i64 need, .slice (some ⟨b, off, none⟩) n cap, .int .i64 j] w fun e w' => e = .returned (.bool true) ∧ Below w.heap.size w w' := by
  have hm := run_make4 23 26 Try.underlying23 info26 n (by omega)
  have hnx : (need : Int) < (n : Int) / 2 := by omega
  have hneed : need = 0 ∨ 0 < need ∧ (need + 1) * 2 ≤ n := .inr ⟨h0, hn⟩
  go_enter Try.func4, Try.ntmps4
  go_wp2_with fail
  refine (bytes9_small _ _ _ _ _ _ _ _ _ _ (by omega)).mono ?_
  rintro e w' ⟨rfl, rfl⟩
  go_wp2
  clear hm
  go_loopw [12] (fun i wr => ∃ k : Nat, k ≤ n ∧ i = .int .i64 k ∧ SpRow wr 26 w'.heap.size n (fun i => if i < k then f i else z0) ∧ Below w'.heap.size w' wr) (fun i _ => n - (intOf i).toNat)
  case atStart => exact ⟨0, Nat.zero_le _, rfl, sp_congr (sp_made w' 26 n) (fun i _ => by simp), (Below.refl _ _).alloc (Nat.le_refl _) _⟩
  case round =>
    obtain ⟨k, hk, rfl, hrow, hbel⟩ := hrel
    by_cases hlt : k < n
    · obtain ⟨q0, q1, q2, q3⟩ := (sps_below hc hb hbel).out k hlt
      obtain ⟨c0, c1, c2, c3⟩ := sp_cell hrow k hlt
      simp only [Nat.lt_irrefl, if_false, z0] at c0 c1 c2 c3
      have f0 := World.rowIs.frozen hrow (k * 4)
      have f1 := World.rowIs.frozen hrow (k * 4 + 1)
      have f2 := World.rowIs.frozen hrow (k * 4 + 2)
      have f3 := World.rowIs.frozen hrow (k * 4 + 3)
      have HS := tuck (sp_next hrow)
      clear hrow
      go_wp2
      go_roundw
      case rel => exact ⟨k + 1, by omega, by go_num, HS.out, below4b hbel (Nat.le_refl _) _ _ _ _⟩
      case measure => simp [intOf]; omega
    · obtain rfl : k = n := by omega
      have hrow' : SpRow wr 26 w'.heap.size k f := sp_congr hrow (fun i hi => if_pos hi)
      have c2 := (sp_cell hrow' j hj).2.2.1
      have f2 := World.rowIs.frozen hrow' (j * 4 + 2)
      have HS := tuck (sp_raise (j := j) hrow')
      have HB := tuck (hbel.setCell (p := ⟨w'.heap.size, j * 4 + 2, none⟩) (Nat.le_refl _) (.bool true))
      clear hrow hrow' hbel
      go_wp2_with fail
      clear c2 f2
      generalize wr.setCell ⟨w'.heap.size, j * 4 + 2, none⟩ (.bool true) = w1 at HS HB ⊢
      have HN := tuck hneed
      clear hneed
      refine (has_o _ _ _ _ _ _ _ _ _ f _ _ (Nat.lt_of_lt_of_le hb HB.out.size) (by omega) HN.out (sps_below hc hb HB) ho).mono ?_
      rintro e w2 ⟨rfl, hb2⟩
      have hg2 : w'.heap.size < w2.heap.size := Nat.lt_of_lt_of_le HS.out.lt hb2.size
      have HS2 : Hid (∀ i, i < k → SpAt w2 w'.heap.size 0 i (raise f j i)) := sps_below (tuck (fun i hi => sp_at HS.out i hi)) HS.out.lt hb2
      have HB2 : Hid (Below w'.heap.size w' w2) := HB.out.trans (hb2.mono HB.out.size)
      clear hb2 HS HB
      go_wp2_with fail
      refine (has_o _ _ _ _ _ _ _ _ _ (raise f j) _ _ hg2 (by omega) HN.out HS2 ho2).mono ?_
      rintro e w3 ⟨rfl, hb3⟩
      have HB3 : Hid (Below w'.heap.size w' w3) := HB2.out.trans (hb3.mono HB2.out.size)
      clear hb3 HB2 HS2 hg2
      go_wp2_with fail
      refine (needed_o _ _ _ _ _ f _ _ (by omega) HN.out (sps_below hc hb HB3) ho).mono ?_
      rintro e w4 ⟨rfl, rfl⟩
      have h2 := HO.out
      clear HO
      subst h2
      cases o <;> cases inF
      all_goals
        go_wp2
        go_ret
        exact ⟨rfl, HB3.out⟩

set_option maxRecDepth 20000 in
set_option maxHeartbeats 2000000 in
/-- No field is needed. -/
theorem raised_zero (nm : ByteArray) (fa : Option Addr) (fl fc b off n cap j : Nat) (f : Nat → Sp) (w : World)
    (hnm : nm.size ≤ 65536) (hfl : fl ≤ 8192) (hl : n ≤ 16384) (hb : b < w.heap.size) (hj : j < n) (hc : Hid (∀ i, i < n → SpAt w b off i (f i)))
    (ho : Hid (held 0 f = true)) (ho2 : Hid (held 0 (raise f j) = true)) :
    Calls Try.prog 4 #[.string nm, .slice fa fl fc, .int .i64 0, .slice (some ⟨b, off, none⟩) n cap, .int .i64 j] w fun e w' => e = .returned (.bool true) ∧ Below w.heap.size w w' := by
  have hm := run_make4 23 26 Try.underlying23 info26 n (by omega)
  go_enter Try.func4, Try.ntmps4
  go_wp2_with fail
  refine (bytes9_small _ _ _ _ _ _ _ _ _ _ (by omega)).mono ?_
  rintro e w' ⟨rfl, rfl⟩
  go_wp2
  clear hm
  go_loopw [12] (fun i wr => ∃ k : Nat, k ≤ n ∧ i = .int .i64 k ∧ SpRow wr 26 w'.heap.size n (fun i => if i < k then f i else z0) ∧ Below w'.heap.size w' wr) (fun i _ => n - (intOf i).toNat)
  case atStart => exact ⟨0, Nat.zero_le _, rfl, sp_congr (sp_made w' 26 n) (fun i _ => by simp), (Below.refl _ _).alloc (Nat.le_refl _) _⟩
  case round =>
    obtain ⟨k, hk, rfl, hrow, hbel⟩ := hrel
    by_cases hlt : k < n
    · obtain ⟨q0, q1, q2, q3⟩ := (sps_below hc hb hbel).out k hlt
      obtain ⟨c0, c1, c2, c3⟩ := sp_cell hrow k hlt
      simp only [Nat.lt_irrefl, if_false, z0] at c0 c1 c2 c3
      have f0 := World.rowIs.frozen hrow (k * 4)
      have f1 := World.rowIs.frozen hrow (k * 4 + 1)
      have f2 := World.rowIs.frozen hrow (k * 4 + 2)
      have f3 := World.rowIs.frozen hrow (k * 4 + 3)
      have HS := tuck (sp_next hrow)
      clear hrow
      go_wp2
      go_roundw
      case rel => exact ⟨k + 1, by omega, by go_num, HS.out, below4b hbel (Nat.le_refl _) _ _ _ _⟩
      case measure => simp [intOf]; omega
    · obtain rfl : k = n := by omega
      have hrow' : SpRow wr 26 w'.heap.size k f := sp_congr hrow (fun i hi => if_pos hi)
      have c2 := (sp_cell hrow' j hj).2.2.1
      have f2 := World.rowIs.frozen hrow' (j * 4 + 2)
      have HS := tuck (sp_raise (j := j) hrow')
      have HB := tuck (hbel.setCell (p := ⟨w'.heap.size, j * 4 + 2, none⟩) (Nat.le_refl _) (.bool true))
      clear hrow hrow' hbel
      go_wp2_with fail
      clear c2 f2
      generalize wr.setCell ⟨w'.heap.size, j * 4 + 2, none⟩ (.bool true) = w1 at HS HB ⊢
      refine (has_o _ _ _ _ 0 _ _ _ _ f _ _ (Nat.lt_of_lt_of_le hb HB.out.size) (by omega) (.inl rfl) (sps_below hc hb HB) ho).mono ?_
      rintro e w2 ⟨rfl, hb2⟩
      have hg2 : w'.heap.size < w2.heap.size := Nat.lt_of_lt_of_le HS.out.lt hb2.size
      have HS2 : Hid (∀ i, i < k → SpAt w2 w'.heap.size 0 i (raise f j i)) := sps_below (tuck (fun i hi => sp_at HS.out i hi)) HS.out.lt hb2
      have HB2 : Hid (Below w'.heap.size w' w2) := HB.out.trans (hb2.mono HB.out.size)
      clear hb2 HS HB
      go_wp2_with fail
      refine (has_o _ _ _ _ 0 _ _ _ _ (raise f j) _ _ hg2 (by omega) (.inl rfl) HS2 ho2).mono ?_
      rintro e w3 ⟨rfl, hb3⟩
      have HB3 : Hid (Below w'.heap.size w' w3) := HB2.out.trans (hb3.mono HB2.out.size)
      clear hb3 HB2 HS2 hg2
      go_wp2_with fail
      refine (needed_o 0 _ _ _ _ f _ _ (by omega) (.inl rfl) (sps_below hc hb HB3) ho).mono ?_
      rintro e w4 ⟨rfl, rfl⟩
      go_wp2
      go_ret
      exact ⟨rfl, HB3.out⟩

end Go.Proofs.Qxb6614596a.HasParts
