/- The law 'only its field counts': its walk. -/
import Derived.Test.Qxb6614596aOnly
namespace Go.Proofs.Qxb6614596a.HasParts
open Go.RowKit

theorem spc_len (s : Sp) : (spc s).length = 1 * 4 := rfl
theorem spc_one (s : Sp) : ∀ u ∈ spc s, u.oneCell' = true := by
  intro u hu
  simp [spc] at hu
  rcases hu with rfl | rfl | rfl | rfl <;> rfl

theorem spc_new1 (w : World) (s : Sp) (i : Nat) (u : Value) (h : (spc s)[i]? = some u) :
    (w.alloc (.cells #[.int .i64 s.st, .int .i64 s.en, .bool s.ok, .bool s.gv] 26)).cell? ((⟨w.heap.size, 0, none⟩ : Addr).add i) = some u := by
  have hadd : (⟨w.heap.size, 0, none⟩ : Addr).add i = ⟨w.heap.size, i, none⟩ := by unfold Addr.add; split <;> simp_all
  rw [hadd, cell_of_row _ w.heap.size i _ 26 (0, 0) (heap_alloc_new w _)]
  simpa [spc] using h

theorem spc_new2 (w : World) (ob : Obj) (s : Sp) (i : Nat) (u : Value) (h : (spc s)[i]? = some u) :
    ((w.alloc ob).alloc (.cells #[.int .i64 s.st, .int .i64 s.en, .bool s.ok, .bool s.gv] 26)).cell? ((⟨w.heap.size + 1, 0, none⟩ : Addr).add i) = some u := by
  have := spc_new1 (w.alloc ob) s i u h
  simpa using this

theorem below_2 {B : Nat} {w wr w2 : World} {g : Nat} (hbel : Below B w wr) (o1 o2 : Obj) (hg : ((wr.alloc o1).alloc o2).grownBy w2 (some g)) (hB : B ≤ wr.heap.size) (hgB : B ≤ g) : Below B w w2 :=
  ((hbel.alloc hB _).alloc (by simp; omega) _).grown hg (by simp; omega) (by intro k hk; cases hk; exact hgB)
theorem below_1 {B : Nat} {w wr w2 : World} {g : Nat} (hbel : Below B w wr) (o1 : Obj) (hg : (wr.alloc o1).grownBy w2 (some g)) (hB : B ≤ wr.heap.size) (hgB : B ≤ g) : Below B w w2 :=
  (hbel.alloc hB _).grown hg (by simp; omega) (by intro k hk; cases hk; exact hgB)

set_option maxRecDepth 20000 in
set_option maxHeartbeats 4000000 in
theorem only_pos_ext (nm : ByteArray) (fa : Option Addr) (fl fc need b off n cap j : Nat) (be oe el ec : Nat) (f ex : Nat → Sp) (o : Bool) (w : World)
    (hnm : nm.size ≤ 65536) (hfl : fl ≤ 8192) (hl : n ≤ 16384) (hb : b < w.heap.size) (hj : j < n) (hel : el ≤ 16384)
    (hc : Hid (∀ i, i < n → SpAt w b off i (f i))) (h0 : 0 < need) (hn : (need + 1) * 2 ≤ n) (hF : ((j : Int) / 2 == (need : Int)) = false) (hbe : be < w.heap.size) (hce : Hid (∀ i, i < el → SpAt w be oe i (ex i)))
    (ho : Hid (held need f = o)) (ho2 : Hid (held need (chg f ex n j) = o)) :
    Calls Try.prog 3 #[.string nm, .slice fa fl fc, .int .i64 need, .slice (some ⟨b, off, none⟩) n cap, .int .i64 j, .slice (some ⟨be, oe, none⟩) el ec] w fun e w' => e = .returned (.bool true) ∧ Below w.heap.size w w' := by
  obtain ⟨i0, hi, hz0, hz1, hz2⟩ := info_parts info26
  have hnx : (need : Int) < (n : Int) / 2 := by omega
  have HN : Hid (need = 0 ∨ 0 < need ∧ (need + 1) * 2 ≤ n) := .inr ⟨h0, hn⟩
  have HN2 : Hid (need = 0 ∨ 0 < need ∧ (need + 1) * 2 ≤ (n + el)) := .inr ⟨h0, by omega⟩
  go_enter Try.func3, Try.ntmps3
  go_wp2_with fail
  refine (bytes6_small _ _ _ _ _ _ _ _ _ _ _ _ _ (by omega)).mono ?_
  rintro e w' ⟨rfl, rfl⟩
  go_wp2_with (at_make; refine wpList_make_own _ rfl _ (.tmp 80) 23 rfl w'.heap.size 26 i0 _ 4 Try.underlying23 hi hz0 hz1 .i64 .i64 _ (n + el) rfl rfl (by omega) (by rw [hz2]; omega) (by unfold maxLen; omega) (Nat.le_refl _) ?_)
  intro w1 hown hgrow
  have HO := tuck (spown_nil (chg f ex n j) hown)
  have HB : Hid (Below w'.heap.size w' w1) := (Below.refl _ _).grown hgrow (Nat.le_refl _) (by intro k hk; cases hk)
  clear hown hgrow
  go_wp2
  go_loopw [13, 14] (fun v i wr => ∃ k : Nat, k ≤ n ∧ v = .slice (some ⟨w'.heap.size, 0, none⟩) k (n + el) ∧ i = .int .i64 k ∧ SpOwn wr w'.heap.size w'.heap.size (n + el) k (chg f ex n j) ∧ Below w'.heap.size w' wr) (fun _ i _ => n - (intOf i).toNat)
  case atStart => exact ⟨0, Nat.zero_le _, rfl, rfl, HO.out, HB.out⟩
  case round =>
    clear HO HB
    obtain ⟨k, hk, rfl, rfl, hrow, hbel⟩ := hrel
    by_cases hlt : k < n
    · obtain ⟨q0, q1, q2, q3⟩ := (sps_below hc hb hbel).out k hlt
      obtain ⟨xs, hown, hx⟩ := hrow
      have HX := tuck hx
      clear hx
      have HL : Hid (xs.length = k * 4) := hown.1
      by_cases hkj : k = j
      · have hkj' : ((k : Int) == (j : Int)) = true := by simp; omega
        have HJ : Hid (chg f ex n j k = ⟨(f k).en, (f k).st, !(f k).ok, !(f k).gv⟩) := by subst hkj; exact chg_here f ex n k
        clear hkj
        go_wp2_with (at_builtin; refine wpList_append_fits _ rfl (.tmp 106) (.tmp 108) 23 rfl w'.heap.size 26 i0 4 Try.underlying23 hi hz1 w'.heap.size k (n + el) xs rfl ((hown.alloc _).alloc _) ⟨wr.heap.size + 1, 0, none⟩ 1 1 (spc ⟨(f k).en, (f k).st, !(f k).ok, !(f k).gv⟩) rfl rfl (spc_new2 _ _ _) (spc_one _) (by omega) ?_)
        intro w2 hown' hgrow
        have hb2 := below_2 hbel _ _ hgrow hbel.size (Nat.le_refl _)
        rw [← HJ.out] at hown'
        have HR := tuck (spown_snoc HX.out HL.out hown')
        clear hown' hgrow hown q0 q1 q2 q3
        go_wp2
        go_roundw
        case rel => exact ⟨k + 1, by omega, rfl, by go_num, HR.out, hb2⟩
        case measure => simp [intOf]; omega
      · have hkj' : ((k : Int) == (j : Int)) = false := by simp; omega
        have HJ : Hid (chg f ex n j k = f k) := chg_old f ex n j k hkj hlt
        clear hkj
        go_wp2_with (at_builtin; refine wpList_append_fits _ rfl (.tmp 106) (.tmp 108) 23 rfl w'.heap.size 26 i0 4 Try.underlying23 hi hz1 w'.heap.size k (n + el) xs rfl ((hown.alloc _).alloc _) ⟨wr.heap.size + 1, 0, none⟩ 1 1 (spc (f k)) rfl rfl (spc_new2 _ _ _) (spc_one _) (by omega) ?_)
        intro w2 hown' hgrow
        have hb2 := below_2 hbel _ _ hgrow hbel.size (Nat.le_refl _)
        rw [← HJ.out] at hown'
        have HR := tuck (spown_snoc HX.out HL.out hown')
        clear hown' hgrow hown q0 q1 q2 q3
        go_wp2
        go_roundw
        case rel => exact ⟨k + 1, by omega, rfl, by go_num, HR.out, hb2⟩
        case measure => simp [intOf]; omega
    · obtain rfl : k = n := by omega
      have HO := tuck hrow
      have HB := tuck hbel
      clear hrow hbel
      go_wp2
      go_loopw [13, 16] (fun v i wr => ∃ m : Nat, m ≤ el ∧ v = .slice (some ⟨w'.heap.size, 0, none⟩) (k + m) (k + el) ∧ i = .int .i64 m ∧ SpOwn wr w'.heap.size w'.heap.size (k + el) (k + m) (chg f ex k j) ∧ Below w'.heap.size w' wr) (fun _ i _ => el - (intOf i).toNat)
      case atStart => exact ⟨0, Nat.zero_le _, rfl, rfl, HO.out, HB.out⟩
      case round =>
        clear HO HB
        obtain ⟨m, hm, rfl, rfl, hrow, hbel⟩ := hrel
        by_cases hlt2 : m < el
        · obtain ⟨q0, q1, q2, q3⟩ := (sps_below hce hbe hbel).out m hlt2
          obtain ⟨xs, hown, hx⟩ := hrow
          have HX := tuck hx
          clear hx
          have HL : Hid (xs.length = (k + m) * 4) := hown.1
          have HJ : Hid (chg f ex k j (k + m) = ex m) := chg_new f ex k j m hj
          go_wp2_with (at_builtin; refine wpList_append_fits _ rfl (.tmp 116) (.tmp 121) 23 rfl w'.heap.size 26 i0 4 Try.underlying23 hi hz1 w'.heap.size (k + m) (k + el) xs rfl (hown.alloc _) ⟨wr.heap.size, 0, none⟩ 1 1 (spc (ex m)) rfl rfl (spc_new1 _ _) (spc_one _) (by omega) ?_)
          intro w2 hown' hgrow
          have hb2 := below_1 hbel _ hgrow hbel.size (Nat.le_refl _)
          rw [← HJ.out] at hown'
          have HR := tuck (spown_snoc HX.out HL.out hown')
          clear hown' hgrow hown q0 q1 q2 q3
          go_wp2
          go_roundw
          case rel => exact ⟨m + 1, by omega, rfl, by go_num, HR.out, hb2⟩
          case measure => simp [intOf]; omega
        · obtain rfl : m = el := by omega
          have HO := tuck hrow
          have HB := tuck hbel
          clear hrow hbel hi hz0 hz1 hz2 i0
          go_wp2_with fail
          refine (has_o _ _ _ _ _ _ _ _ _ f _ _ (Nat.lt_of_lt_of_le hb HB.out.size) (by omega) HN.out (sps_below hc hb HB) ho).mono ?_
          rintro e w2 ⟨rfl, hb2⟩
          have hg2 : w'.heap.size < w2.heap.size := Nat.lt_of_lt_of_le (spown_lt HO.out) hb2.size
          have HS2 : Hid (∀ i, i < (k + m) → SpAt w2 w'.heap.size 0 i (chg f ex k j i)) := sps_below (tuck (fun i hi => spown_at HO.out i hi)) (spown_lt HO.out) hb2
          have HB2 : Hid (Below w'.heap.size w' w2) := HB.out.trans (hb2.mono HB.out.size)
          clear hb2 HO HB
          go_wp2_with fail
          refine (has_o _ _ _ _ _ _ _ _ _ (chg f ex k j) _ _ hg2 (by omega) HN2.out HS2 ho2).mono ?_
          rintro e w3 ⟨rfl, hb3⟩
          have HB3 : Hid (Below w'.heap.size w' w3) := HB2.out.trans (hb3.mono HB2.out.size)
          clear hb3 HB2 HS2 hg2
          go_wp2_with fail
          refine (needed_o _ _ _ _ _ f _ _ (by omega) HN.out (sps_below hc hb HB3) ho).mono ?_
          rintro e w4 ⟨rfl, rfl⟩
          cases o
          all_goals
            go_wp2
            go_ret
            exact ⟨rfl, HB3.out⟩

set_option maxRecDepth 20000 in
set_option maxHeartbeats 4000000 in
theorem only_pos_non (nm : ByteArray) (fa : Option Addr) (fl fc need b off n cap j : Nat) (ea : Option Addr) (ec : Nat) (f ex : Nat → Sp) (o : Bool) (w : World)
    (hnm : nm.size ≤ 65536) (hfl : fl ≤ 8192) (hl : n ≤ 16384) (hb : b < w.heap.size) (hj : j < n)
    (hc : Hid (∀ i, i < n → SpAt w b off i (f i))) (h0 : 0 < need) (hn : (need + 1) * 2 ≤ n) (hF : ((j : Int) / 2 == (need : Int)) = false)
    (ho : Hid (held need f = o)) (ho2 : Hid (held need (chg f ex n j) = o)) :
    Calls Try.prog 3 #[.string nm, .slice fa fl fc, .int .i64 need, .slice (some ⟨b, off, none⟩) n cap, .int .i64 j, .slice ea 0 ec] w fun e w' => e = .returned (.bool true) ∧ Below w.heap.size w w' := by
  obtain ⟨i0, hi, hz0, hz1, hz2⟩ := info_parts info26
  have hnx : (need : Int) < (n : Int) / 2 := by omega
  have HN : Hid (need = 0 ∨ 0 < need ∧ (need + 1) * 2 ≤ n) := .inr ⟨h0, hn⟩
  have HN2 : Hid (need = 0 ∨ 0 < need ∧ (need + 1) * 2 ≤ n) := .inr ⟨h0, by omega⟩
  go_enter Try.func3, Try.ntmps3
  go_wp2_with fail
  refine (bytes6_small _ _ _ _ _ _ _ _ _ _ _ _ _ (by omega)).mono ?_
  rintro e w' ⟨rfl, rfl⟩
  go_wp2_with (at_make; refine wpList_make_own _ rfl _ (.tmp 80) 23 rfl w'.heap.size 26 i0 _ 4 Try.underlying23 hi hz0 hz1 .i64 .i64 _ n rfl rfl (by omega) (by rw [hz2]; omega) (by unfold maxLen; omega) (Nat.le_refl _) ?_)
  intro w1 hown hgrow
  have HO := tuck (spown_nil (chg f ex n j) hown)
  have HB : Hid (Below w'.heap.size w' w1) := (Below.refl _ _).grown hgrow (Nat.le_refl _) (by intro k hk; cases hk)
  clear hown hgrow
  go_wp2
  go_loopw [13, 14] (fun v i wr => ∃ k : Nat, k ≤ n ∧ v = .slice (some ⟨w'.heap.size, 0, none⟩) k n ∧ i = .int .i64 k ∧ SpOwn wr w'.heap.size w'.heap.size n k (chg f ex n j) ∧ Below w'.heap.size w' wr) (fun _ i _ => n - (intOf i).toNat)
  case atStart => exact ⟨0, Nat.zero_le _, rfl, rfl, HO.out, HB.out⟩
  case round =>
    clear HO HB
    obtain ⟨k, hk, rfl, rfl, hrow, hbel⟩ := hrel
    by_cases hlt : k < n
    · obtain ⟨q0, q1, q2, q3⟩ := (sps_below hc hb hbel).out k hlt
      obtain ⟨xs, hown, hx⟩ := hrow
      have HX := tuck hx
      clear hx
      have HL : Hid (xs.length = k * 4) := hown.1
      by_cases hkj : k = j
      · have hkj' : ((k : Int) == (j : Int)) = true := by simp; omega
        have HJ : Hid (chg f ex n j k = ⟨(f k).en, (f k).st, !(f k).ok, !(f k).gv⟩) := by subst hkj; exact chg_here f ex n k
        clear hkj
        go_wp2_with (at_builtin; refine wpList_append_fits _ rfl (.tmp 106) (.tmp 108) 23 rfl w'.heap.size 26 i0 4 Try.underlying23 hi hz1 w'.heap.size k n xs rfl ((hown.alloc _).alloc _) ⟨wr.heap.size + 1, 0, none⟩ 1 1 (spc ⟨(f k).en, (f k).st, !(f k).ok, !(f k).gv⟩) rfl rfl (spc_new2 _ _ _) (spc_one _) (by omega) ?_)
        intro w2 hown' hgrow
        have hb2 := below_2 hbel _ _ hgrow hbel.size (Nat.le_refl _)
        rw [← HJ.out] at hown'
        have HR := tuck (spown_snoc HX.out HL.out hown')
        clear hown' hgrow hown q0 q1 q2 q3
        go_wp2
        go_roundw
        case rel => exact ⟨k + 1, by omega, rfl, by go_num, HR.out, hb2⟩
        case measure => simp [intOf]; omega
      · have hkj' : ((k : Int) == (j : Int)) = false := by simp; omega
        have HJ : Hid (chg f ex n j k = f k) := chg_old f ex n j k hkj hlt
        clear hkj
        go_wp2_with (at_builtin; refine wpList_append_fits _ rfl (.tmp 106) (.tmp 108) 23 rfl w'.heap.size 26 i0 4 Try.underlying23 hi hz1 w'.heap.size k n xs rfl ((hown.alloc _).alloc _) ⟨wr.heap.size + 1, 0, none⟩ 1 1 (spc (f k)) rfl rfl (spc_new2 _ _ _) (spc_one _) (by omega) ?_)
        intro w2 hown' hgrow
        have hb2 := below_2 hbel _ _ hgrow hbel.size (Nat.le_refl _)
        rw [← HJ.out] at hown'
        have HR := tuck (spown_snoc HX.out HL.out hown')
        clear hown' hgrow hown q0 q1 q2 q3
        go_wp2
        go_roundw
        case rel => exact ⟨k + 1, by omega, rfl, by go_num, HR.out, hb2⟩
        case measure => simp [intOf]; omega
    · obtain rfl : k = n := by omega
      have HO := tuck hrow
      have HB := tuck hbel
      clear hrow hbel
      clear hi hz0 hz1 hz2 i0
      go_wp2
      refine wp_loop_rounds 1 ?_
      rw [rounds_succ]
      go_wp2_with fail
      refine (has_o _ _ _ _ _ _ _ _ _ f _ _ (Nat.lt_of_lt_of_le hb HB.out.size) (by omega) HN.out (sps_below hc hb HB) ho).mono ?_
      rintro e w2 ⟨rfl, hb2⟩
      have hg2 : w'.heap.size < w2.heap.size := Nat.lt_of_lt_of_le (spown_lt HO.out) hb2.size
      have HS2 : Hid (∀ i, i < k → SpAt w2 w'.heap.size 0 i (chg f ex k j i)) := sps_below (tuck (fun i hi => spown_at HO.out i hi)) (spown_lt HO.out) hb2
      have HB2 : Hid (Below w'.heap.size w' w2) := HB.out.trans (hb2.mono HB.out.size)
      clear hb2 HO HB
      go_wp2_with fail
      refine (has_o _ _ _ _ _ _ _ _ _ (chg f ex k j) _ _ hg2 (by omega) HN2.out HS2 ho2).mono ?_
      rintro e w3 ⟨rfl, hb3⟩
      have HB3 : Hid (Below w'.heap.size w' w3) := HB2.out.trans (hb3.mono HB2.out.size)
      clear hb3 HB2 HS2 hg2
      go_wp2_with fail
      refine (needed_o _ _ _ _ _ f _ _ (by omega) HN.out (sps_below hc hb HB3) ho).mono ?_
      rintro e w4 ⟨rfl, rfl⟩
      cases o
      all_goals
        go_wp2
        go_ret
        exact ⟨rfl, HB3.out⟩

set_option maxRecDepth 20000 in
set_option maxHeartbeats 4000000 in
theorem only_zero_ext (nm : ByteArray) (fa : Option Addr) (fl fc b off n cap j : Nat) (be oe el ec : Nat) (f ex : Nat → Sp) (o : Bool) (w : World)
    (hnm : nm.size ≤ 65536) (hfl : fl ≤ 8192) (hl : n ≤ 16384) (hb : b < w.heap.size) (hj : j < n) (hel : el ≤ 16384)
    (hc : Hid (∀ i, i < n → SpAt w b off i (f i))) (hbe : be < w.heap.size) (hce : Hid (∀ i, i < el → SpAt w be oe i (ex i)))
    (ho : Hid (held 0 f = o)) (ho2 : Hid (held 0 (chg f ex n j) = o)) :
    Calls Try.prog 3 #[.string nm, .slice fa fl fc, .int .i64 0, .slice (some ⟨b, off, none⟩) n cap, .int .i64 j, .slice (some ⟨be, oe, none⟩) el ec] w fun e w' => e = .returned (.bool true) ∧ Below w.heap.size w w' := by
  obtain ⟨i0, hi, hz0, hz1, hz2⟩ := info_parts info26
  go_enter Try.func3, Try.ntmps3
  go_wp2_with fail
  refine (bytes6_small _ _ _ _ _ _ _ _ _ _ _ _ _ (by omega)).mono ?_
  rintro e w' ⟨rfl, rfl⟩
  go_wp2_with (at_make; refine wpList_make_own _ rfl _ (.tmp 80) 23 rfl w'.heap.size 26 i0 _ 4 Try.underlying23 hi hz0 hz1 .i64 .i64 _ (n + el) rfl rfl (by omega) (by rw [hz2]; omega) (by unfold maxLen; omega) (Nat.le_refl _) ?_)
  intro w1 hown hgrow
  have HO := tuck (spown_nil (chg f ex n j) hown)
  have HB : Hid (Below w'.heap.size w' w1) := (Below.refl _ _).grown hgrow (Nat.le_refl _) (by intro k hk; cases hk)
  clear hown hgrow
  go_wp2
  go_loopw [13, 14] (fun v i wr => ∃ k : Nat, k ≤ n ∧ v = .slice (some ⟨w'.heap.size, 0, none⟩) k (n + el) ∧ i = .int .i64 k ∧ SpOwn wr w'.heap.size w'.heap.size (n + el) k (chg f ex n j) ∧ Below w'.heap.size w' wr) (fun _ i _ => n - (intOf i).toNat)
  case atStart => exact ⟨0, Nat.zero_le _, rfl, rfl, HO.out, HB.out⟩
  case round =>
    clear HO HB
    obtain ⟨k, hk, rfl, rfl, hrow, hbel⟩ := hrel
    by_cases hlt : k < n
    · obtain ⟨q0, q1, q2, q3⟩ := (sps_below hc hb hbel).out k hlt
      obtain ⟨xs, hown, hx⟩ := hrow
      have HX := tuck hx
      clear hx
      have HL : Hid (xs.length = k * 4) := hown.1
      by_cases hkj : k = j
      · have hkj' : ((k : Int) == (j : Int)) = true := by simp; omega
        have HJ : Hid (chg f ex n j k = ⟨(f k).en, (f k).st, !(f k).ok, !(f k).gv⟩) := by subst hkj; exact chg_here f ex n k
        clear hkj
        go_wp2_with (at_builtin; refine wpList_append_fits _ rfl (.tmp 106) (.tmp 108) 23 rfl w'.heap.size 26 i0 4 Try.underlying23 hi hz1 w'.heap.size k (n + el) xs rfl ((hown.alloc _).alloc _) ⟨wr.heap.size + 1, 0, none⟩ 1 1 (spc ⟨(f k).en, (f k).st, !(f k).ok, !(f k).gv⟩) rfl rfl (spc_new2 _ _ _) (spc_one _) (by omega) ?_)
        intro w2 hown' hgrow
        have hb2 := below_2 hbel _ _ hgrow hbel.size (Nat.le_refl _)
        rw [← HJ.out] at hown'
        have HR := tuck (spown_snoc HX.out HL.out hown')
        clear hown' hgrow hown q0 q1 q2 q3
        go_wp2
        go_roundw
        case rel => exact ⟨k + 1, by omega, rfl, by go_num, HR.out, hb2⟩
        case measure => simp [intOf]; omega
      · have hkj' : ((k : Int) == (j : Int)) = false := by simp; omega
        have HJ : Hid (chg f ex n j k = f k) := chg_old f ex n j k hkj hlt
        clear hkj
        go_wp2_with (at_builtin; refine wpList_append_fits _ rfl (.tmp 106) (.tmp 108) 23 rfl w'.heap.size 26 i0 4 Try.underlying23 hi hz1 w'.heap.size k (n + el) xs rfl ((hown.alloc _).alloc _) ⟨wr.heap.size + 1, 0, none⟩ 1 1 (spc (f k)) rfl rfl (spc_new2 _ _ _) (spc_one _) (by omega) ?_)
        intro w2 hown' hgrow
        have hb2 := below_2 hbel _ _ hgrow hbel.size (Nat.le_refl _)
        rw [← HJ.out] at hown'
        have HR := tuck (spown_snoc HX.out HL.out hown')
        clear hown' hgrow hown q0 q1 q2 q3
        go_wp2
        go_roundw
        case rel => exact ⟨k + 1, by omega, rfl, by go_num, HR.out, hb2⟩
        case measure => simp [intOf]; omega
    · obtain rfl : k = n := by omega
      have HO := tuck hrow
      have HB := tuck hbel
      clear hrow hbel
      go_wp2
      go_loopw [13, 16] (fun v i wr => ∃ m : Nat, m ≤ el ∧ v = .slice (some ⟨w'.heap.size, 0, none⟩) (k + m) (k + el) ∧ i = .int .i64 m ∧ SpOwn wr w'.heap.size w'.heap.size (k + el) (k + m) (chg f ex k j) ∧ Below w'.heap.size w' wr) (fun _ i _ => el - (intOf i).toNat)
      case atStart => exact ⟨0, Nat.zero_le _, rfl, rfl, HO.out, HB.out⟩
      case round =>
        clear HO HB
        obtain ⟨m, hm, rfl, rfl, hrow, hbel⟩ := hrel
        by_cases hlt2 : m < el
        · obtain ⟨q0, q1, q2, q3⟩ := (sps_below hce hbe hbel).out m hlt2
          obtain ⟨xs, hown, hx⟩ := hrow
          have HX := tuck hx
          clear hx
          have HL : Hid (xs.length = (k + m) * 4) := hown.1
          have HJ : Hid (chg f ex k j (k + m) = ex m) := chg_new f ex k j m hj
          go_wp2_with (at_builtin; refine wpList_append_fits _ rfl (.tmp 116) (.tmp 121) 23 rfl w'.heap.size 26 i0 4 Try.underlying23 hi hz1 w'.heap.size (k + m) (k + el) xs rfl (hown.alloc _) ⟨wr.heap.size, 0, none⟩ 1 1 (spc (ex m)) rfl rfl (spc_new1 _ _) (spc_one _) (by omega) ?_)
          intro w2 hown' hgrow
          have hb2 := below_1 hbel _ hgrow hbel.size (Nat.le_refl _)
          rw [← HJ.out] at hown'
          have HR := tuck (spown_snoc HX.out HL.out hown')
          clear hown' hgrow hown q0 q1 q2 q3
          go_wp2
          go_roundw
          case rel => exact ⟨m + 1, by omega, rfl, by go_num, HR.out, hb2⟩
          case measure => simp [intOf]; omega
        · obtain rfl : m = el := by omega
          have HO := tuck hrow
          have HB := tuck hbel
          clear hrow hbel hi hz0 hz1 hz2 i0
          go_wp2_with fail
          refine (has_o _ _ _ _ 0 _ _ _ _ f _ _ (Nat.lt_of_lt_of_le hb HB.out.size) (by omega) (.inl rfl) (sps_below hc hb HB) ho).mono ?_
          rintro e w2 ⟨rfl, hb2⟩
          have hg2 : w'.heap.size < w2.heap.size := Nat.lt_of_lt_of_le (spown_lt HO.out) hb2.size
          have HS2 : Hid (∀ i, i < (k + m) → SpAt w2 w'.heap.size 0 i (chg f ex k j i)) := sps_below (tuck (fun i hi => spown_at HO.out i hi)) (spown_lt HO.out) hb2
          have HB2 : Hid (Below w'.heap.size w' w2) := HB.out.trans (hb2.mono HB.out.size)
          clear hb2 HO HB
          go_wp2_with fail
          refine (has_o _ _ _ _ 0 _ _ _ _ (chg f ex k j) _ _ hg2 (by omega) (.inl rfl) HS2 ho2).mono ?_
          rintro e w3 ⟨rfl, hb3⟩
          have HB3 : Hid (Below w'.heap.size w' w3) := HB2.out.trans (hb3.mono HB2.out.size)
          clear hb3 HB2 HS2 hg2
          go_wp2_with fail
          refine (needed_o 0 _ _ _ _ f _ _ (by omega) (.inl rfl) (sps_below hc hb HB3) ho).mono ?_
          rintro e w4 ⟨rfl, rfl⟩
          cases o
          all_goals
            go_wp2
            go_ret
            exact ⟨rfl, HB3.out⟩

set_option maxRecDepth 20000 in
set_option maxHeartbeats 4000000 in
theorem only_zero_non (nm : ByteArray) (fa : Option Addr) (fl fc b off n cap j : Nat) (ea : Option Addr) (ec : Nat) (f ex : Nat → Sp) (o : Bool) (w : World)
    (hnm : nm.size ≤ 65536) (hfl : fl ≤ 8192) (hl : n ≤ 16384) (hb : b < w.heap.size) (hj : j < n)
    (hc : Hid (∀ i, i < n → SpAt w b off i (f i)))
    (ho : Hid (held 0 f = o)) (ho2 : Hid (held 0 (chg f ex n j) = o)) :
    Calls Try.prog 3 #[.string nm, .slice fa fl fc, .int .i64 0, .slice (some ⟨b, off, none⟩) n cap, .int .i64 j, .slice ea 0 ec] w fun e w' => e = .returned (.bool true) ∧ Below w.heap.size w w' := by
  obtain ⟨i0, hi, hz0, hz1, hz2⟩ := info_parts info26
  go_enter Try.func3, Try.ntmps3
  go_wp2_with fail
  refine (bytes6_small _ _ _ _ _ _ _ _ _ _ _ _ _ (by omega)).mono ?_
  rintro e w' ⟨rfl, rfl⟩
  go_wp2_with (at_make; refine wpList_make_own _ rfl _ (.tmp 80) 23 rfl w'.heap.size 26 i0 _ 4 Try.underlying23 hi hz0 hz1 .i64 .i64 _ n rfl rfl (by omega) (by rw [hz2]; omega) (by unfold maxLen; omega) (Nat.le_refl _) ?_)
  intro w1 hown hgrow
  have HO := tuck (spown_nil (chg f ex n j) hown)
  have HB : Hid (Below w'.heap.size w' w1) := (Below.refl _ _).grown hgrow (Nat.le_refl _) (by intro k hk; cases hk)
  clear hown hgrow
  go_wp2
  go_loopw [13, 14] (fun v i wr => ∃ k : Nat, k ≤ n ∧ v = .slice (some ⟨w'.heap.size, 0, none⟩) k n ∧ i = .int .i64 k ∧ SpOwn wr w'.heap.size w'.heap.size n k (chg f ex n j) ∧ Below w'.heap.size w' wr) (fun _ i _ => n - (intOf i).toNat)
  case atStart => exact ⟨0, Nat.zero_le _, rfl, rfl, HO.out, HB.out⟩
  case round =>
    clear HO HB
    obtain ⟨k, hk, rfl, rfl, hrow, hbel⟩ := hrel
    by_cases hlt : k < n
    · obtain ⟨q0, q1, q2, q3⟩ := (sps_below hc hb hbel).out k hlt
      obtain ⟨xs, hown, hx⟩ := hrow
      have HX := tuck hx
      clear hx
      have HL : Hid (xs.length = k * 4) := hown.1
      by_cases hkj : k = j
      · have hkj' : ((k : Int) == (j : Int)) = true := by simp; omega
        have HJ : Hid (chg f ex n j k = ⟨(f k).en, (f k).st, !(f k).ok, !(f k).gv⟩) := by subst hkj; exact chg_here f ex n k
        clear hkj
        go_wp2_with (at_builtin; refine wpList_append_fits _ rfl (.tmp 106) (.tmp 108) 23 rfl w'.heap.size 26 i0 4 Try.underlying23 hi hz1 w'.heap.size k n xs rfl ((hown.alloc _).alloc _) ⟨wr.heap.size + 1, 0, none⟩ 1 1 (spc ⟨(f k).en, (f k).st, !(f k).ok, !(f k).gv⟩) rfl rfl (spc_new2 _ _ _) (spc_one _) (by omega) ?_)
        intro w2 hown' hgrow
        have hb2 := below_2 hbel _ _ hgrow hbel.size (Nat.le_refl _)
        rw [← HJ.out] at hown'
        have HR := tuck (spown_snoc HX.out HL.out hown')
        clear hown' hgrow hown q0 q1 q2 q3
        go_wp2
        go_roundw
        case rel => exact ⟨k + 1, by omega, rfl, by go_num, HR.out, hb2⟩
        case measure => simp [intOf]; omega
      · have hkj' : ((k : Int) == (j : Int)) = false := by simp; omega
        have HJ : Hid (chg f ex n j k = f k) := chg_old f ex n j k hkj hlt
        clear hkj
        go_wp2_with (at_builtin; refine wpList_append_fits _ rfl (.tmp 106) (.tmp 108) 23 rfl w'.heap.size 26 i0 4 Try.underlying23 hi hz1 w'.heap.size k n xs rfl ((hown.alloc _).alloc _) ⟨wr.heap.size + 1, 0, none⟩ 1 1 (spc (f k)) rfl rfl (spc_new2 _ _ _) (spc_one _) (by omega) ?_)
        intro w2 hown' hgrow
        have hb2 := below_2 hbel _ _ hgrow hbel.size (Nat.le_refl _)
        rw [← HJ.out] at hown'
        have HR := tuck (spown_snoc HX.out HL.out hown')
        clear hown' hgrow hown q0 q1 q2 q3
        go_wp2
        go_roundw
        case rel => exact ⟨k + 1, by omega, rfl, by go_num, HR.out, hb2⟩
        case measure => simp [intOf]; omega
    · obtain rfl : k = n := by omega
      have HO := tuck hrow
      have HB := tuck hbel
      clear hrow hbel
      clear hi hz0 hz1 hz2 i0
      go_wp2
      refine wp_loop_rounds 1 ?_
      rw [rounds_succ]
      go_wp2_with fail
      refine (has_o _ _ _ _ 0 _ _ _ _ f _ _ (Nat.lt_of_lt_of_le hb HB.out.size) (by omega) (.inl rfl) (sps_below hc hb HB) ho).mono ?_
      rintro e w2 ⟨rfl, hb2⟩
      have hg2 : w'.heap.size < w2.heap.size := Nat.lt_of_lt_of_le (spown_lt HO.out) hb2.size
      have HS2 : Hid (∀ i, i < k → SpAt w2 w'.heap.size 0 i (chg f ex k j i)) := sps_below (tuck (fun i hi => spown_at HO.out i hi)) (spown_lt HO.out) hb2
      have HB2 : Hid (Below w'.heap.size w' w2) := HB.out.trans (hb2.mono HB.out.size)
      clear hb2 HO HB
      go_wp2_with fail
      refine (has_o _ _ _ _ 0 _ _ _ _ (chg f ex k j) _ _ hg2 (by omega) (.inl rfl) HS2 ho2).mono ?_
      rintro e w3 ⟨rfl, hb3⟩
      have HB3 : Hid (Below w'.heap.size w' w3) := HB2.out.trans (hb3.mono HB2.out.size)
      clear hb3 HB2 HS2 hg2
      go_wp2_with fail
      refine (needed_o 0 _ _ _ _ f _ _ (by omega) (.inl rfl) (sps_below hc hb HB3) ho).mono ?_
      rintro e w4 ⟨rfl, rfl⟩
      cases o
      all_goals
        go_wp2
        go_ret
        exact ⟨rfl, HB3.out⟩

end Go.Proofs.Qxb6614596a.HasParts
