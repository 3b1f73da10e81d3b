/- The law 'one more anywhere': its walk, the calls by their contracts. -/
import Derived.Test.Qxb6614522aGrow
namespace Go.Proofs.Qxb6614522a.SubmParts
open Go.RowKit

theorem blocks_o (z : Int) (o : Bool) (w : World) (h : Hid (pss z = o)) :
    Calls Try.prog 12 #[.int .i64 z] w fun e w' => e = .returned (.bool (!o)) ∧ w' = w := by
  rw [← h.out]
  exact blocks_any z w
theorem passes_o (z : Int) (o : Bool) (w : World) (h : Hid (pss z = o)) :
    Calls Try.prog 13 #[.int .i64 z] w fun e w' => e = .returned (.bool o) ∧ w' = w := by
  rw [← h.out]
  exact passes_any z w

set_option maxRecDepth 20000 in
set_option maxHeartbeats 1000000 in
/-- A list that is not empty: the first part copied, the new number laid, the rest copied behind it. -/
theorem more_in (b off len cap p : Nat) (z : Int) (f : Nat → Int) (l o e0 : Bool) (w : World) (hl : len ≤ 65536) (hp : p ≤ len) (hb : b < w.heap.size)
    (HC : Hid (∀ i, i < len → w.cell? ⟨b, off + i, none⟩ = some (.int .i64 (f i))))
    (hv : Hid (View w (some ⟨b, off, none⟩) len f))
    (hW : Hid (allP (put f p z len) (len + 1) = o)) (hL : Hid (allP f len = l)) (hE : Hid (pss z = e0)) (HE : Hid (o = (l && e0))) :
    Calls Try.prog 4 #[.slice (some ⟨b, off, none⟩) len cap, .int .i64 p, .int .i64 z] w fun e w' => e = .returned (.bool true) ∧ Below w.heap.size w w' := by
  obtain ⟨i0, hi, hz0, hz1, hz2⟩ := info_parts info3
  go_enter Try.func4, Try.ntmps4
  go_wp2_with fail
  refine (bytes11_small _ _ _ _ _ _ (by omega)).mono ?_
  rintro e w' ⟨rfl, rfl⟩
  go_wp2_with (at_make; refine wpList_make_full _ rfl (.tmp 30) (.tmp 30) 22 rfl w'.heap.size 3 i0 _ 1 Try.underlying22 hi hz0 hz1 .i64 .i64 _ _ (len + 1) rfl rfl (by omega) (by omega) (by rw [hz2]; omega) (by unfold maxLen; omega) (Nat.le_refl _) ?_)
  intro w1 hown hgrow
  clear hi hz0 hz1 hz2 i0
  have HRow : Hid (IntRow w1 w'.heap.size w'.heap.size (len + 1) (fun _ => 0)) := int_start hown
  have HBel : Hid (Below w'.heap.size w' w1) := (Below.refl _ _).grown hgrow (Nat.le_refl _) (by intro k hk; cases hk)
  clear hown hgrow
  go_wp2
  go_loopw [8] (fun i wr => ∃ k : Nat, k ≤ p ∧ i = .int .i64 k ∧ IntRow wr w'.heap.size w'.heap.size (len + 1) (fun j => if j < k then f j else 0) ∧ Below w'.heap.size w' wr) (fun i _ => p - (intOf i).toNat)
  case atStart => exact ⟨0, Nat.zero_le _, rfl, int_congr HRow.out (fun j hj => by simp), HBel.out⟩
  case round =>
    clear HRow HBel
    obtain ⟨k, hk, rfl, hrow, hbel⟩ := hrel
    by_cases hlt : k < p
    · have hcell : wr.cell? ⟨b, off + k, none⟩ = some (.int .i64 (f k)) := (hbel.cell (by exact hb)).trans (HC.out k (by omega))
      have hx : wr.cell? ⟨w'.heap.size, k, none⟩ = some (.int .i64 0) := by have := int_cell hrow k (by omega); simpa using this
      have hf : wr.frozen? ⟨w'.heap.size, k, none⟩ = false := int_free hrow _
      have HS : Hid (IntRow (wr.setCell ⟨w'.heap.size, k, none⟩ (.int .i64 (f k))) w'.heap.size w'.heap.size (len + 1) (fun j => if j < k + 1 then f j else 0)) := row_first hrow (by omega)
      clear hrow
      go_wp2
      go_roundw
      case rel => exact ⟨k + 1, by omega, by go_num, HS.out, hbel.setCell (Nat.le_refl _) _⟩
      case measure => simp [intOf]; omega
    · obtain rfl : k = p := by omega
      have hx : wr.cell? ⟨w'.heap.size, k, none⟩ = some (.int .i64 0) := by have := int_cell hrow k (by omega); simpa using this
      have hf : wr.frozen? ⟨w'.heap.size, k, none⟩ = false := int_free hrow _
      have HS : Hid (IntRow (wr.setCell ⟨w'.heap.size, k, none⟩ (.int .i64 z)) w'.heap.size w'.heap.size (len + 1) (put f k z k)) := row_new z hrow (by omega)
      have HB1 : Hid (Below w'.heap.size w' (wr.setCell ⟨w'.heap.size, k, none⟩ (.int .i64 z))) := hbel.setCell (Nat.le_refl _) _
      clear hrow hbel
      go_wp2
      clear hx hf
      go_loopw [9] (fun i wq => ∃ m : Nat, k ≤ m ∧ m ≤ len ∧ i = .int .i64 m ∧ IntRow wq w'.heap.size w'.heap.size (len + 1) (put f k z m) ∧ Below w'.heap.size w' wq) (fun i _ => len - (intOf i).toNat)
      case atStart => exact ⟨k, Nat.le_refl _, hp, rfl, HS.out, HB1.out⟩
      case round =>
        clear HS HB1
        obtain ⟨m, hkm, hm, rfl, hrow, hbel⟩ := hrel
        by_cases hlm : m < len
        · have hcell : wr.cell? ⟨b, off + m, none⟩ = some (.int .i64 (f m)) := (hbel.cell (by exact hb)).trans (HC.out m hlm)
          have hx : wr.cell? ⟨w'.heap.size, m + 1, none⟩ = some (.int .i64 0) := by have := int_cell hrow (m + 1) (by omega); rwa [put_zero f k m (m + 1) z (by omega) hkm] at this
          have hf : wr.frozen? ⟨w'.heap.size, m + 1, none⟩ = false := int_free hrow _
          have HS : Hid (IntRow (wr.setCell ⟨w'.heap.size, m + 1, none⟩ (.int .i64 (f m))) w'.heap.size w'.heap.size (len + 1) (put f k z (m + 1))) := row_next hrow hkm (by omega)
          clear hrow
          go_wp2
          go_roundw
          case rel => exact ⟨m + 1, by omega, by omega, by go_num, HS.out, hbel.setCell (Nat.le_refl _) _⟩
          case measure => simp [intOf]; omega
        · obtain rfl : m = len := by omega
          have HRow : Hid (IntRow wr w'.heap.size w'.heap.size (m + 1) (put f k z m)) := hrow
          have HBel : Hid (Below w'.heap.size w' wr) := hbel
          clear hrow hbel
          have he := HE.out
          clear HE HC
          cases l <;> cases e0 <;> simp at he <;> subst he
          all_goals
            go_wp2_with fail
            refine (results_view _ _ _ (put f k z m) _ (by omega) (tuckv (int_view HRow.out))).mono ?_
            rintro e w3 ⟨rfl, hr1, hb1⟩
            go_wp2_with fail
            refine (subm_o _ _ _ (put f k z m) _ _ (by omega) hr1 hW).mono ?_
            rintro e w4 ⟨rfl, hb2⟩
            have HB2 : Hid (Below w'.heap.size w' w4) := HBel.out.trans ((hb1.trans (hb2.mono hb1.size)).mono HBel.out.size)
            clear hr1 hb1 hb2 HBel HRow
            go_wp2_with fail
            refine (results_view _ _ _ f _ (by omega) (tuckv (hv.out.below HB2.out))).mono ?_
            rintro e w5 ⟨rfl, hr1, hb1⟩
            go_wp2_with fail
            refine (subm_o _ _ _ f _ _ (by omega) hr1 hL).mono ?_
            rintro e w6 ⟨rfl, hb2⟩
            have HB3 : Hid (Below w'.heap.size w' w6) := HB2.out.trans ((hb1.trans (hb2.mono hb1.size)).mono HB2.out.size)
            clear hr1 hb1 hb2 HB2
            have HV3 : Hid (View w6 (some ⟨b, off, none⟩) m f) := hv.out.below HB3.out
            go_wp2_with (first | (go_at_call 12; refine (blocks_o _ _ _ hE).mono ?_; rintro e w7 ⟨rfl, rfl⟩) | (go_at_call 10; refine (allpass_o _ _ _ f _ _ (by omega) HV3 hL).mono ?_; rintro e w7 ⟨rfl, rfl⟩) | (go_at_call 13; refine (passes_o _ _ _ hE).mono ?_; rintro e w7 ⟨rfl, rfl⟩))
            go_ret
            exact ⟨rfl, HB3.out⟩

set_option maxRecDepth 20000 in
set_option maxHeartbeats 1000000 in
/-- An empty list, whatever its address: nothing is copied. -/
theorem more_none (a : Option Addr) (cap : Nat) (z : Int) (f : Nat → Int) (o e0 : Bool) (w : World)
    (hv : Hid (View w a 0 f))
    (hW : Hid (allP (put f 0 z 0) 1 = o)) (hL : Hid (allP f 0 = true)) (hE : Hid (pss z = e0)) (HE : Hid (o = e0)) :
    Calls Try.prog 4 #[.slice a 0 cap, .int .i64 0, .int .i64 z] w fun e w' => e = .returned (.bool true) ∧ Below w.heap.size w w' := by
  obtain ⟨i0, hi, hz0, hz1, hz2⟩ := info_parts info3
  go_enter Try.func4, Try.ntmps4
  go_wp2_with fail
  refine (bytes11_small _ _ _ _ _ _ (by omega)).mono ?_
  rintro e w' ⟨rfl, rfl⟩
  go_wp2_with (at_make; refine wpList_make_full _ rfl (.tmp 30) (.tmp 30) 22 rfl w'.heap.size 3 i0 _ 1 Try.underlying22 hi hz0 hz1 .i64 .i64 _ _ 1 rfl rfl (by omega) (by omega) (by rw [hz2]; omega) (by unfold maxLen; omega) (Nat.le_refl _) ?_)
  intro w1 hown hgrow
  clear hi hz0 hz1 hz2 i0
  have hrow : IntRow w1 w'.heap.size w'.heap.size 1 (fun j => if j < 0 then f j else 0) := int_congr (int_start hown) (fun j hj => by simp)
  have hbel : Below w'.heap.size w' w1 := (Below.refl _ _).grown hgrow (Nat.le_refl _) (by intro k hk; cases hk)
  clear hown hgrow
  have hx : w1.cell? ⟨w'.heap.size, 0, none⟩ = some (.int .i64 0) := by have := int_cell hrow 0 (by omega); simpa using this
  have hf : w1.frozen? ⟨w'.heap.size, 0, none⟩ = false := int_free hrow _
  have HRow : Hid (IntRow (w1.setCell ⟨w'.heap.size, 0, none⟩ (.int .i64 z)) w'.heap.size w'.heap.size 1 (put f 0 z 0)) := row_new z hrow (by omega)
  have HBel : Hid (Below w'.heap.size w' (w1.setCell ⟨w'.heap.size, 0, none⟩ (.int .i64 z))) := hbel.setCell (Nat.le_refl _) _
  clear hrow hbel
  go_wp2
  refine wp_loop_rounds 1 ?_
  rw [rounds_succ]
  go_wp2
  refine wp_loop_rounds 1 ?_
  rw [rounds_succ]
  clear hx hf
  generalize w1.setCell ⟨w'.heap.size, 0, none⟩ (.int .i64 z) = w2 at HRow HBel ⊢
  have he := HE.out
  clear HE
  subst he
  cases o
  all_goals
    go_wp2_with fail
    refine (results_view _ _ _ (put f 0 z 0) _ (by omega) (tuckv (int_view HRow.out))).mono ?_
    rintro e w3 ⟨rfl, hr1, hb1⟩
    go_wp2_with fail
    refine (subm_o _ _ _ (put f 0 z 0) _ _ (by omega) hr1 hW).mono ?_
    rintro e w4 ⟨rfl, hb2⟩
    have HB2 : Hid (Below w'.heap.size w' w4) := HBel.out.trans ((hb1.trans (hb2.mono hb1.size)).mono HBel.out.size)
    clear hr1 hb1 hb2 HBel HRow
    go_wp2_with fail
    refine (results_view _ _ _ f _ (by omega) (tuckv (hv.out.below HB2.out))).mono ?_
    rintro e w5 ⟨rfl, hr1, hb1⟩
    go_wp2_with fail
    refine (subm_o _ _ _ f _ _ (by omega) hr1 hL).mono ?_
    rintro e w6 ⟨rfl, hb2⟩
    have HB3 : Hid (Below w'.heap.size w' w6) := HB2.out.trans ((hb1.trans (hb2.mono hb1.size)).mono HB2.out.size)
    clear hr1 hb1 hb2 HB2
    have HV3 : Hid (View w6 (a) 0 f) := hv.out.below HB3.out
    go_wp2_with (first | (go_at_call 12; refine (blocks_o _ _ _ hE).mono ?_; rintro e w7 ⟨rfl, rfl⟩) | (go_at_call 10; refine (allpass_o _ _ _ f _ _ (by omega) HV3 hL).mono ?_; rintro e w7 ⟨rfl, rfl⟩) | (go_at_call 13; refine (passes_o _ _ _ hE).mono ?_; rintro e w7 ⟨rfl, rfl⟩))
    go_ret
    exact ⟨rfl, HB3.out⟩

theorem more_bytes (a : Option Addr) (len cap : Nat) (c d : Int) (w : World) (hl : 1048576 < len) :
    Calls Try.prog 4 #[.slice a len cap, .int .i64 c, .int .i64 d] w fun e w' => e = .returned (.bool true) ∧ Below w.heap.size w w' := by
  go_enter Try.func4, Try.ntmps4
  go_wp2_with fail
  refine (bytes11_large _ _ _ _ _ _ hl).mono ?_
  rintro e w' ⟨rfl, rfl⟩
  go_wp2
  go_ret
  exact ⟨rfl, Below.refl _ _⟩

theorem more_long (a : Option Addr) (len cap : Nat) (c d : Int) (w : World) (h0 : len ≤ 1048576) (hl : 65536 < len) :
    Calls Try.prog 4 #[.slice a len cap, .int .i64 c, .int .i64 d] w fun e w' => e = .returned (.bool true) ∧ Below w.heap.size w w' := by
  go_enter Try.func4, Try.ntmps4
  go_wp2_with fail
  refine (bytes11_small _ _ _ _ _ _ h0).mono ?_
  rintro e w' ⟨rfl, rfl⟩
  go_wp2
  go_ret
  exact ⟨rfl, Below.refl _ _⟩

theorem more_neg (a : Option Addr) (len cap : Nat) (c d : Int) (w : World) (h0 : len ≤ 65536) (hl : c < 0) :
    Calls Try.prog 4 #[.slice a len cap, .int .i64 c, .int .i64 d] w fun e w' => e = .returned (.bool true) ∧ Below w.heap.size w w' := by
  go_enter Try.func4, Try.ntmps4
  go_wp2_with fail
  refine (bytes11_small _ _ _ _ _ _ (by omega)).mono ?_
  rintro e w' ⟨rfl, rfl⟩
  go_wp2
  go_ret
  exact ⟨rfl, Below.refl _ _⟩

theorem more_past (a : Option Addr) (len cap : Nat) (c d : Int) (w : World) (h0 : len ≤ 65536) (hn : ¬ c < 0) (hl : (len : Int) < c) :
    Calls Try.prog 4 #[.slice a len cap, .int .i64 c, .int .i64 d] w fun e w' => e = .returned (.bool true) ∧ Below w.heap.size w w' := by
  go_enter Try.func4, Try.ntmps4
  go_wp2_with fail
  refine (bytes11_small _ _ _ _ _ _ (by omega)).mono ?_
  rintro e w' ⟨rfl, rfl⟩
  go_wp2
  go_ret
  exact ⟨rfl, Below.refl _ _⟩

end Go.Proofs.Qxb6614522a.SubmParts
