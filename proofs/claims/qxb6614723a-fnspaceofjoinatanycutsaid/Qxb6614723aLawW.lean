/- The law 'Space of a join at any cut': its walk. -/
import Derived.Test.Qxb6614723aJoinW
namespace Go.Proofs.Qxb6614723a.WsParts
open Go.RowKit
set_option linter.unusedVariables false

theorem bytes5_small (a b : Option Addr) (la ca lb cb : Nat) (w : World) (h : la + lb ≤ 1048576) :
    Calls Try.prog 5 #[.slice a la ca, .slice b lb cb] w fun e w' => e = .returned (.bool true) ∧ w' = w := by
  refine (bytes5_any a b la ca lb cb w).mono ?_
  rintro e w' ⟨h1 | ⟨_, h1⟩, h2⟩
  · exact ⟨h1, h2⟩
  · omega

theorem neq_some (x : Addr) (n c : Nat) (w : World) : (binOp .neq 22 (.slice (some x) n c) (.slice none 0 0)).run Try.prog w = .ok (.bool true) w := by
  rw [run_neq_slice_nil_any w 22 5 (some x) n c 0 0 Try.underlying22]
  rfl
theorem neq_none (w : World) : (binOp .neq 22 (.slice none 0 0) (.slice none 0 0)).run Try.prog w = .ok (.bool false) w := by
  rw [run_neq_slice_nil_any w 22 5 none 0 0 0 0 Try.underlying22]
  rfl

set_option maxRecDepth 20000 in
set_option maxHeartbeats 2000000 in
theorem law_ss_w (xa : Addr) (la ca : Nat) (xb : Addr) (lb cb : Nat) (f g : Nat → Int) (rb : Nat) (w : World) (hl : la + lb ≤ 1048576) (hrb : rb ≤ lb)
    (hva : Hid (BV w (some xa) la f)) (hvb : Hid (BV w (some xb) lb g))
    (hA : Hid (allW f la = true)) (hra' : Hid (IsLead f la la)) (hrb' : Hid (IsLead g lb rb)) (hrab : Hid (IsLead (cat f g la) (la + lb) (la + rb))) :
    Calls Try.prog 3 #[.slice (some xa) la ca, .slice (some xb) lb cb] w fun e w' => e = .returned (.bool true) ∧ Below w.heap.size w w' := by
  obtain ⟨i0, hi, hz0, hz1, hz2⟩ := info_parts info5
  have na := neq_some xa la ca
  have nb := neq_some xb lb cb
  go_enter Try.func3, Try.ntmps3
  go_wp2_with fail
  refine (bytes5_small _ _ _ _ _ _ _ (by omega)).mono ?_
  rintro e w' ⟨rfl, rfl⟩
  go_wp2_with (at_make; refine wpList_make_full _ rfl (.tmp 27) (.tmp 27) 22 rfl w'.heap.size 5 i0 _ 1 Try.underlying22 hi hz0 hz1 .i64 .i64 _ _ la rfl rfl (by omega) (by omega) (by rw [hz2]; omega) (by unfold maxLen; omega) (Nat.le_refl _) ?_)
  intro w1 hown hgrow
  obtain ⟨cur, hblk, hcl⟩ := own_blk hown
  have HBlk := tuck hblk
  have HCL := tuck hcl
  have hb1 : Below w'.heap.size w' w1 := (Below.refl _ _).grown hgrow (Nat.le_refl _) (by intro k hk; cases hk)
  clear hown hgrow hblk hcl
  have HN1 := tuck (min_self f la)
  have HS1 : Hid (0 < (bl f la).length → some (⟨w'.heap.size, 0, none⟩ : Addr) = some ⟨w'.heap.size, 0, none⟩ ∧ ∃ ad, some xa = some ad ∧ ∀ j v, (bl f la)[j]? = some v → w1.cell? (ad.add j) = some v) :=
    fun h => ⟨rfl, view_src (hva.out.below hb1) h⟩
  have HF1 : Hid (0 + (bl f la).length ≤ cur.length) := by show _ ≤ _; rw [bl_len, HCL.out]; omega
  go_wp2_with ((with_reducible refine at_copy ?_); refine wpList_copy_splice rfl (.tmp 29) (.tmp 30) 22 22 rfl 5 Try.underlying22 size5 (some ⟨w'.heap.size, 0, none⟩) (some xa) la la la ca rfl rfl w'.heap.size 0 cur 5 HBlk.out (bl f la) HN1.out HS1.out HF1.out (bl_one f la) w'.heap.size w' hb1 (Nat.le_refl _) ?_)
  intro w2 HG2 hb2
  have HVa : Hid (BV w2 (some ⟨w'.heap.size, 0, none⟩) la f) := by
    have h := HG2.out
    rw [splice_all cur f la HCL.out] at h
    exact blk_view h
  have HB0 : Hid (Below w'.heap.size w' w2) := hb2
  clear HS1 HBlk HCL HN1 HF1 HG2 hb1 hb2
  go_wp2_with (at_make; refine wpList_make_full _ rfl (.tmp 36) (.tmp 36) 22 rfl w2.heap.size 5 i0 _ 1 Try.underlying22 hi hz0 hz1 .i64 .i64 _ _ lb rfl rfl (by omega) (by omega) (by rw [hz2]; omega) (by unfold maxLen; omega) (Nat.le_refl _) ?_)
  intro w3 hown hgrow
  obtain ⟨cur2, hblk, hcl⟩ := own_blk hown
  have HBlk := tuck hblk
  have HCL := tuck hcl
  have hb3 : Below w2.heap.size w2 w3 := (Below.refl _ _).grown hgrow (Nat.le_refl _) (by intro k hk; cases hk)
  clear hown hgrow hblk hcl
  have HN1 := tuck (min_self g lb)
  have HS1 : Hid (0 < (bl g lb).length → some (⟨w2.heap.size, 0, none⟩ : Addr) = some ⟨w2.heap.size, 0, none⟩ ∧ ∃ ad, some xb = some ad ∧ ∀ j v, (bl g lb)[j]? = some v → w3.cell? (ad.add j) = some v) :=
    fun h => ⟨rfl, view_src ((hvb.out.below HB0.out).below hb3) h⟩
  have HF1 : Hid (0 + (bl g lb).length ≤ cur2.length) := by show _ ≤ _; rw [bl_len, HCL.out]; omega
  go_wp2_with ((with_reducible refine at_copy ?_); refine wpList_copy_splice rfl (.tmp 38) (.tmp 39) 22 22 rfl 5 Try.underlying22 size5 (some ⟨w2.heap.size, 0, none⟩) (some xb) lb lb lb cb rfl rfl w2.heap.size 0 cur2 5 HBlk.out (bl g lb) HN1.out HS1.out HF1.out (bl_one g lb) w2.heap.size w2 hb3 (Nat.le_refl _) ?_)
  intro w4 HG4 hb4
  have HVb : Hid (BV w4 (some ⟨w2.heap.size, 0, none⟩) lb g) := by
    have h := HG4.out
    rw [splice_all cur2 g lb HCL.out] at h
    exact blk_view h
  have HVa2 : Hid (BV w4 (some ⟨w'.heap.size, 0, none⟩) la f) := HVa.out.below hb4
  have HB1 : Hid (Below w'.heap.size w' w4) := HB0.out.trans (hb4.mono HB0.out.size)
  clear HS1 HBlk HCL HN1 HF1 HG4 hb3 hb4
  clear hi hz0 hz1 hz2 i0
  go_wp2_with fail
  refine (join_any _ _ _ _ _ _ f g _ (by omega) HVa2 HVb).mono ?_
  rintro e w5 ⟨rfl, HJ, hb5⟩
  have HVa3 : Hid (BV w5 (some ⟨w'.heap.size, 0, none⟩) la f) := HVa2.out.below hb5
  have HVb3 : Hid (BV w5 (some ⟨w2.heap.size, 0, none⟩) lb g) := HVb.out.below hb5
  have HVj : Hid (BV w5 (some ⟨w4.heap.size, 0, none⟩) (la + lb) (cat f g la)) := blk_view HJ.out
  have HB5 : Hid (Below w'.heap.size w' w5) := HB1.out.trans (hb5.mono HB1.out.size)
  clear HJ hb5 HVa2 HVb HVa HB1 HB0
  go_wp2_with fail
  refine (lead_o _ _ _ _ f _ (by omega) HVa3 hra').mono ?_
  rintro e w6 ⟨rfl, rfl⟩
  go_wp2_with fail
  refine (lead_o _ _ _ rb g _ (by omega) HVb3 hrb').mono ?_
  rintro e w7 ⟨rfl, rfl⟩
  go_wp2_with fail
  refine (lead_o _ _ _ _ (cat f g la) _ (by omega) HVj hrab).mono ?_
  rintro e w8 ⟨rfl, rfl⟩
  go_wp2_with fail
  refine (allws_o _ _ _ f _ _ (by omega) HVa3 hA).mono ?_
  rintro e w9 ⟨rfl, rfl⟩
  go_wp2
  go_ret
  exact ⟨rfl, HB5.out⟩

set_option maxRecDepth 20000 in
set_option maxHeartbeats 2000000 in
theorem law_ss_x (xa : Addr) (la ca : Nat) (xb : Addr) (lb cb : Nat) (f g : Nat → Int) (ra rb : Nat) (w : World) (hl : la + lb ≤ 1048576) (hrb : rb ≤ lb)
    (hva : Hid (BV w (some xa) la f)) (hvb : Hid (BV w (some xb) lb g)) (hra : ra < la)
    (hA : Hid (allW f la = false)) (hra' : Hid (IsLead f la ra)) (hrb' : Hid (IsLead g lb rb)) (hrab : Hid (IsLead (cat f g la) (la + lb) ra)) :
    Calls Try.prog 3 #[.slice (some xa) la ca, .slice (some xb) lb cb] w fun e w' => e = .returned (.bool true) ∧ Below w.heap.size w w' := by
  obtain ⟨i0, hi, hz0, hz1, hz2⟩ := info_parts info5
  have na := neq_some xa la ca
  have nb := neq_some xb lb cb
  go_enter Try.func3, Try.ntmps3
  go_wp2_with fail
  refine (bytes5_small _ _ _ _ _ _ _ (by omega)).mono ?_
  rintro e w' ⟨rfl, rfl⟩
  go_wp2_with (at_make; refine wpList_make_full _ rfl (.tmp 27) (.tmp 27) 22 rfl w'.heap.size 5 i0 _ 1 Try.underlying22 hi hz0 hz1 .i64 .i64 _ _ la rfl rfl (by omega) (by omega) (by rw [hz2]; omega) (by unfold maxLen; omega) (Nat.le_refl _) ?_)
  intro w1 hown hgrow
  obtain ⟨cur, hblk, hcl⟩ := own_blk hown
  have HBlk := tuck hblk
  have HCL := tuck hcl
  have hb1 : Below w'.heap.size w' w1 := (Below.refl _ _).grown hgrow (Nat.le_refl _) (by intro k hk; cases hk)
  clear hown hgrow hblk hcl
  have HN1 := tuck (min_self f la)
  have HS1 : Hid (0 < (bl f la).length → some (⟨w'.heap.size, 0, none⟩ : Addr) = some ⟨w'.heap.size, 0, none⟩ ∧ ∃ ad, some xa = some ad ∧ ∀ j v, (bl f la)[j]? = some v → w1.cell? (ad.add j) = some v) :=
    fun h => ⟨rfl, view_src (hva.out.below hb1) h⟩
  have HF1 : Hid (0 + (bl f la).length ≤ cur.length) := by show _ ≤ _; rw [bl_len, HCL.out]; omega
  go_wp2_with ((with_reducible refine at_copy ?_); refine wpList_copy_splice rfl (.tmp 29) (.tmp 30) 22 22 rfl 5 Try.underlying22 size5 (some ⟨w'.heap.size, 0, none⟩) (some xa) la la la ca rfl rfl w'.heap.size 0 cur 5 HBlk.out (bl f la) HN1.out HS1.out HF1.out (bl_one f la) w'.heap.size w' hb1 (Nat.le_refl _) ?_)
  intro w2 HG2 hb2
  have HVa : Hid (BV w2 (some ⟨w'.heap.size, 0, none⟩) la f) := by
    have h := HG2.out
    rw [splice_all cur f la HCL.out] at h
    exact blk_view h
  have HB0 : Hid (Below w'.heap.size w' w2) := hb2
  clear HS1 HBlk HCL HN1 HF1 HG2 hb1 hb2
  go_wp2_with (at_make; refine wpList_make_full _ rfl (.tmp 36) (.tmp 36) 22 rfl w2.heap.size 5 i0 _ 1 Try.underlying22 hi hz0 hz1 .i64 .i64 _ _ lb rfl rfl (by omega) (by omega) (by rw [hz2]; omega) (by unfold maxLen; omega) (Nat.le_refl _) ?_)
  intro w3 hown hgrow
  obtain ⟨cur2, hblk, hcl⟩ := own_blk hown
  have HBlk := tuck hblk
  have HCL := tuck hcl
  have hb3 : Below w2.heap.size w2 w3 := (Below.refl _ _).grown hgrow (Nat.le_refl _) (by intro k hk; cases hk)
  clear hown hgrow hblk hcl
  have HN1 := tuck (min_self g lb)
  have HS1 : Hid (0 < (bl g lb).length → some (⟨w2.heap.size, 0, none⟩ : Addr) = some ⟨w2.heap.size, 0, none⟩ ∧ ∃ ad, some xb = some ad ∧ ∀ j v, (bl g lb)[j]? = some v → w3.cell? (ad.add j) = some v) :=
    fun h => ⟨rfl, view_src ((hvb.out.below HB0.out).below hb3) h⟩
  have HF1 : Hid (0 + (bl g lb).length ≤ cur2.length) := by show _ ≤ _; rw [bl_len, HCL.out]; omega
  go_wp2_with ((with_reducible refine at_copy ?_); refine wpList_copy_splice rfl (.tmp 38) (.tmp 39) 22 22 rfl 5 Try.underlying22 size5 (some ⟨w2.heap.size, 0, none⟩) (some xb) lb lb lb cb rfl rfl w2.heap.size 0 cur2 5 HBlk.out (bl g lb) HN1.out HS1.out HF1.out (bl_one g lb) w2.heap.size w2 hb3 (Nat.le_refl _) ?_)
  intro w4 HG4 hb4
  have HVb : Hid (BV w4 (some ⟨w2.heap.size, 0, none⟩) lb g) := by
    have h := HG4.out
    rw [splice_all cur2 g lb HCL.out] at h
    exact blk_view h
  have HVa2 : Hid (BV w4 (some ⟨w'.heap.size, 0, none⟩) la f) := HVa.out.below hb4
  have HB1 : Hid (Below w'.heap.size w' w4) := HB0.out.trans (hb4.mono HB0.out.size)
  clear HS1 HBlk HCL HN1 HF1 HG4 hb3 hb4
  clear hi hz0 hz1 hz2 i0
  go_wp2_with fail
  refine (join_any _ _ _ _ _ _ f g _ (by omega) HVa2 HVb).mono ?_
  rintro e w5 ⟨rfl, HJ, hb5⟩
  have HVa3 : Hid (BV w5 (some ⟨w'.heap.size, 0, none⟩) la f) := HVa2.out.below hb5
  have HVb3 : Hid (BV w5 (some ⟨w2.heap.size, 0, none⟩) lb g) := HVb.out.below hb5
  have HVj : Hid (BV w5 (some ⟨w4.heap.size, 0, none⟩) (la + lb) (cat f g la)) := blk_view HJ.out
  have HB5 : Hid (Below w'.heap.size w' w5) := HB1.out.trans (hb5.mono HB1.out.size)
  clear HJ hb5 HVa2 HVb HVa HB1 HB0
  go_wp2_with fail
  refine (lead_o _ _ _ _ f _ (by omega) HVa3 hra').mono ?_
  rintro e w6 ⟨rfl, rfl⟩
  go_wp2_with fail
  refine (lead_o _ _ _ rb g _ (by omega) HVb3 hrb').mono ?_
  rintro e w7 ⟨rfl, rfl⟩
  go_wp2_with fail
  refine (lead_o _ _ _ _ (cat f g la) _ (by omega) HVj hrab).mono ?_
  rintro e w8 ⟨rfl, rfl⟩
  go_wp2_with fail
  refine (allws_o _ _ _ f _ _ (by omega) HVa3 hA).mono ?_
  rintro e w9 ⟨rfl, rfl⟩
  go_wp2
  go_ret
  exact ⟨rfl, HB5.out⟩

set_option maxRecDepth 20000 in
set_option maxHeartbeats 2000000 in
theorem law_sn_w (xa : Addr) (la ca : Nat) (f g : Nat → Int) (rb : Nat) (w : World) (hl : la + 0 ≤ 1048576) (hrb : rb ≤ 0)
    (hva : Hid (BV w (some xa) la f)) (hvb : Hid (BV w none 0 g))
    (hA : Hid (allW f la = true)) (hra' : Hid (IsLead f la la)) (hrb' : Hid (IsLead g 0 rb)) (hrab : Hid (IsLead (cat f g la) (la + 0) (la + rb))) :
    Calls Try.prog 3 #[.slice (some xa) la ca, .slice none 0 0] w fun e w' => e = .returned (.bool true) ∧ Below w.heap.size w w' := by
  obtain ⟨i0, hi, hz0, hz1, hz2⟩ := info_parts info5
  have na := neq_some xa la ca
  have nb := neq_none
  go_enter Try.func3, Try.ntmps3
  go_wp2_with fail
  refine (bytes5_small _ _ _ _ _ _ _ (by omega)).mono ?_
  rintro e w' ⟨rfl, rfl⟩
  go_wp2_with (at_make; refine wpList_make_full _ rfl (.tmp 27) (.tmp 27) 22 rfl w'.heap.size 5 i0 _ 1 Try.underlying22 hi hz0 hz1 .i64 .i64 _ _ la rfl rfl (by omega) (by omega) (by rw [hz2]; omega) (by unfold maxLen; omega) (Nat.le_refl _) ?_)
  intro w1 hown hgrow
  obtain ⟨cur, hblk, hcl⟩ := own_blk hown
  have HBlk := tuck hblk
  have HCL := tuck hcl
  have hb1 : Below w'.heap.size w' w1 := (Below.refl _ _).grown hgrow (Nat.le_refl _) (by intro k hk; cases hk)
  clear hown hgrow hblk hcl
  have HN1 := tuck (min_self f la)
  have HS1 : Hid (0 < (bl f la).length → some (⟨w'.heap.size, 0, none⟩ : Addr) = some ⟨w'.heap.size, 0, none⟩ ∧ ∃ ad, some xa = some ad ∧ ∀ j v, (bl f la)[j]? = some v → w1.cell? (ad.add j) = some v) :=
    fun h => ⟨rfl, view_src (hva.out.below hb1) h⟩
  have HF1 : Hid (0 + (bl f la).length ≤ cur.length) := by show _ ≤ _; rw [bl_len, HCL.out]; omega
  go_wp2_with ((with_reducible refine at_copy ?_); refine wpList_copy_splice rfl (.tmp 29) (.tmp 30) 22 22 rfl 5 Try.underlying22 size5 (some ⟨w'.heap.size, 0, none⟩) (some xa) la la la ca rfl rfl w'.heap.size 0 cur 5 HBlk.out (bl f la) HN1.out HS1.out HF1.out (bl_one f la) w'.heap.size w' hb1 (Nat.le_refl _) ?_)
  intro w2 HG2 hb2
  have HVa : Hid (BV w2 (some ⟨w'.heap.size, 0, none⟩) la f) := by
    have h := HG2.out
    rw [splice_all cur f la HCL.out] at h
    exact blk_view h
  have HB0 : Hid (Below w'.heap.size w' w2) := hb2
  clear HS1 HBlk HCL HN1 HF1 HG2 hb1 hb2
  have HVb : Hid (BV w2 none 0 g) := hvb.out.below HB0.out
  have HB1 : Hid (Below w'.heap.size w' w2) := HB0
  have HVa2 := HVa
  clear hi hz0 hz1 hz2 i0
  go_wp2_with fail
  refine (join_any _ _ _ _ _ _ f g _ (by omega) HVa2 HVb).mono ?_
  rintro e w5 ⟨rfl, HJ, hb5⟩
  have HVa3 : Hid (BV w5 (some ⟨w'.heap.size, 0, none⟩) la f) := HVa2.out.below hb5
  have HVb3 : Hid (BV w5 none 0 g) := HVb.out.below hb5
  have HVj : Hid (BV w5 (some ⟨w2.heap.size, 0, none⟩) (la + 0) (cat f g la)) := blk_view HJ.out
  have HB5 : Hid (Below w'.heap.size w' w5) := HB1.out.trans (hb5.mono HB1.out.size)
  clear HJ hb5 HVa2 HVb HVa HB1 HB0
  go_wp2_with fail
  refine (lead_o _ _ _ _ f _ (by omega) HVa3 hra').mono ?_
  rintro e w6 ⟨rfl, rfl⟩
  go_wp2_with fail
  refine (lead_o _ _ _ rb g _ (by omega) HVb3 hrb').mono ?_
  rintro e w7 ⟨rfl, rfl⟩
  go_wp2_with fail
  refine (lead_o _ _ _ _ (cat f g la) _ (by omega) HVj hrab).mono ?_
  rintro e w8 ⟨rfl, rfl⟩
  go_wp2_with fail
  refine (allws_o _ _ _ f _ _ (by omega) HVa3 hA).mono ?_
  rintro e w9 ⟨rfl, rfl⟩
  go_wp2
  go_ret
  exact ⟨rfl, HB5.out⟩

set_option maxRecDepth 20000 in
set_option maxHeartbeats 2000000 in
theorem law_sn_x (xa : Addr) (la ca : Nat) (f g : Nat → Int) (ra rb : Nat) (w : World) (hl : la + 0 ≤ 1048576) (hrb : rb ≤ 0)
    (hva : Hid (BV w (some xa) la f)) (hvb : Hid (BV w none 0 g)) (hra : ra < la)
    (hA : Hid (allW f la = false)) (hra' : Hid (IsLead f la ra)) (hrb' : Hid (IsLead g 0 rb)) (hrab : Hid (IsLead (cat f g la) (la + 0) ra)) :
    Calls Try.prog 3 #[.slice (some xa) la ca, .slice none 0 0] w fun e w' => e = .returned (.bool true) ∧ Below w.heap.size w w' := by
  obtain ⟨i0, hi, hz0, hz1, hz2⟩ := info_parts info5
  have na := neq_some xa la ca
  have nb := neq_none
  go_enter Try.func3, Try.ntmps3
  go_wp2_with fail
  refine (bytes5_small _ _ _ _ _ _ _ (by omega)).mono ?_
  rintro e w' ⟨rfl, rfl⟩
  go_wp2_with (at_make; refine wpList_make_full _ rfl (.tmp 27) (.tmp 27) 22 rfl w'.heap.size 5 i0 _ 1 Try.underlying22 hi hz0 hz1 .i64 .i64 _ _ la rfl rfl (by omega) (by omega) (by rw [hz2]; omega) (by unfold maxLen; omega) (Nat.le_refl _) ?_)
  intro w1 hown hgrow
  obtain ⟨cur, hblk, hcl⟩ := own_blk hown
  have HBlk := tuck hblk
  have HCL := tuck hcl
  have hb1 : Below w'.heap.size w' w1 := (Below.refl _ _).grown hgrow (Nat.le_refl _) (by intro k hk; cases hk)
  clear hown hgrow hblk hcl
  have HN1 := tuck (min_self f la)
  have HS1 : Hid (0 < (bl f la).length → some (⟨w'.heap.size, 0, none⟩ : Addr) = some ⟨w'.heap.size, 0, none⟩ ∧ ∃ ad, some xa = some ad ∧ ∀ j v, (bl f la)[j]? = some v → w1.cell? (ad.add j) = some v) :=
    fun h => ⟨rfl, view_src (hva.out.below hb1) h⟩
  have HF1 : Hid (0 + (bl f la).length ≤ cur.length) := by show _ ≤ _; rw [bl_len, HCL.out]; omega
  go_wp2_with ((with_reducible refine at_copy ?_); refine wpList_copy_splice rfl (.tmp 29) (.tmp 30) 22 22 rfl 5 Try.underlying22 size5 (some ⟨w'.heap.size, 0, none⟩) (some xa) la la la ca rfl rfl w'.heap.size 0 cur 5 HBlk.out (bl f la) HN1.out HS1.out HF1.out (bl_one f la) w'.heap.size w' hb1 (Nat.le_refl _) ?_)
  intro w2 HG2 hb2
  have HVa : Hid (BV w2 (some ⟨w'.heap.size, 0, none⟩) la f) := by
    have h := HG2.out
    rw [splice_all cur f la HCL.out] at h
    exact blk_view h
  have HB0 : Hid (Below w'.heap.size w' w2) := hb2
  clear HS1 HBlk HCL HN1 HF1 HG2 hb1 hb2
  have HVb : Hid (BV w2 none 0 g) := hvb.out.below HB0.out
  have HB1 : Hid (Below w'.heap.size w' w2) := HB0
  have HVa2 := HVa
  clear hi hz0 hz1 hz2 i0
  go_wp2_with fail
  refine (join_any _ _ _ _ _ _ f g _ (by omega) HVa2 HVb).mono ?_
  rintro e w5 ⟨rfl, HJ, hb5⟩
  have HVa3 : Hid (BV w5 (some ⟨w'.heap.size, 0, none⟩) la f) := HVa2.out.below hb5
  have HVb3 : Hid (BV w5 none 0 g) := HVb.out.below hb5
  have HVj : Hid (BV w5 (some ⟨w2.heap.size, 0, none⟩) (la + 0) (cat f g la)) := blk_view HJ.out
  have HB5 : Hid (Below w'.heap.size w' w5) := HB1.out.trans (hb5.mono HB1.out.size)
  clear HJ hb5 HVa2 HVb HVa HB1 HB0
  go_wp2_with fail
  refine (lead_o _ _ _ _ f _ (by omega) HVa3 hra').mono ?_
  rintro e w6 ⟨rfl, rfl⟩
  go_wp2_with fail
  refine (lead_o _ _ _ rb g _ (by omega) HVb3 hrb').mono ?_
  rintro e w7 ⟨rfl, rfl⟩
  go_wp2_with fail
  refine (lead_o _ _ _ _ (cat f g la) _ (by omega) HVj hrab).mono ?_
  rintro e w8 ⟨rfl, rfl⟩
  go_wp2_with fail
  refine (allws_o _ _ _ f _ _ (by omega) HVa3 hA).mono ?_
  rintro e w9 ⟨rfl, rfl⟩
  go_wp2
  go_ret
  exact ⟨rfl, HB5.out⟩

set_option maxRecDepth 20000 in
set_option maxHeartbeats 2000000 in
theorem law_ns_w (xb : Addr) (lb cb : Nat) (f g : Nat → Int) (rb : Nat) (w : World) (hl : 0 + lb ≤ 1048576) (hrb : rb ≤ lb)
    (hva : Hid (BV w none 0 f)) (hvb : Hid (BV w (some xb) lb g))
    (hA : Hid (allW f 0 = true)) (hra' : Hid (IsLead f 0 0)) (hrb' : Hid (IsLead g lb rb)) (hrab : Hid (IsLead (cat f g 0) lb rb)) :
    Calls Try.prog 3 #[.slice none 0 0, .slice (some xb) lb cb] w fun e w' => e = .returned (.bool true) ∧ Below w.heap.size w w' := by
  obtain ⟨i0, hi, hz0, hz1, hz2⟩ := info_parts info5
  have na := neq_none
  have nb := neq_some xb lb cb
  go_enter Try.func3, Try.ntmps3
  go_wp2_with fail
  refine (bytes5_small _ _ _ _ _ _ _ (by omega)).mono ?_
  rintro e w' ⟨rfl, rfl⟩
  have HB0 : Hid (Below w'.heap.size w' w') := Below.refl _ _
  have HVa : Hid (BV w' none 0 f) := hva
  go_wp2_with (at_make; refine wpList_make_full _ rfl (.tmp 36) (.tmp 36) 22 rfl w'.heap.size 5 i0 _ 1 Try.underlying22 hi hz0 hz1 .i64 .i64 _ _ lb rfl rfl (by omega) (by omega) (by rw [hz2]; omega) (by unfold maxLen; omega) (Nat.le_refl _) ?_)
  intro w3 hown hgrow
  obtain ⟨cur2, hblk, hcl⟩ := own_blk hown
  have HBlk := tuck hblk
  have HCL := tuck hcl
  have hb3 : Below w'.heap.size w' w3 := (Below.refl _ _).grown hgrow (Nat.le_refl _) (by intro k hk; cases hk)
  clear hown hgrow hblk hcl
  have HN1 := tuck (min_self g lb)
  have HS1 : Hid (0 < (bl g lb).length → some (⟨w'.heap.size, 0, none⟩ : Addr) = some ⟨w'.heap.size, 0, none⟩ ∧ ∃ ad, some xb = some ad ∧ ∀ j v, (bl g lb)[j]? = some v → w3.cell? (ad.add j) = some v) :=
    fun h => ⟨rfl, view_src ((hvb.out.below HB0.out).below hb3) h⟩
  have HF1 : Hid (0 + (bl g lb).length ≤ cur2.length) := by show _ ≤ _; rw [bl_len, HCL.out]; omega
  go_wp2_with ((with_reducible refine at_copy ?_); refine wpList_copy_splice rfl (.tmp 38) (.tmp 39) 22 22 rfl 5 Try.underlying22 size5 (some ⟨w'.heap.size, 0, none⟩) (some xb) lb lb lb cb rfl rfl w'.heap.size 0 cur2 5 HBlk.out (bl g lb) HN1.out HS1.out HF1.out (bl_one g lb) w'.heap.size w' hb3 (Nat.le_refl _) ?_)
  intro w4 HG4 hb4
  have HVb : Hid (BV w4 (some ⟨w'.heap.size, 0, none⟩) lb g) := by
    have h := HG4.out
    rw [splice_all cur2 g lb HCL.out] at h
    exact blk_view h
  have HVa2 : Hid (BV w4 none 0 f) := HVa.out.below hb4
  have HB1 : Hid (Below w'.heap.size w' w4) := HB0.out.trans (hb4.mono HB0.out.size)
  clear HS1 HBlk HCL HN1 HF1 HG4 hb3 hb4
  clear hi hz0 hz1 hz2 i0
  go_wp2_with fail
  refine (join_any _ _ _ _ _ _ f g _ (by omega) HVa2 HVb).mono ?_
  rintro e w5 ⟨rfl, HJ, hb5⟩
  have HVa3 : Hid (BV w5 none 0 f) := HVa2.out.below hb5
  have HVb3 : Hid (BV w5 (some ⟨w'.heap.size, 0, none⟩) lb g) := HVb.out.below hb5
  have HVj : Hid (BV w5 (some ⟨w4.heap.size, 0, none⟩) lb (cat f g 0)) := by have h := HJ.out; rw [Nat.zero_add] at h; exact blk_view h
  have HB5 : Hid (Below w'.heap.size w' w5) := HB1.out.trans (hb5.mono HB1.out.size)
  clear HJ hb5 HVa2 HVb HVa HB1 HB0
  go_wp2_with fail
  refine (lead_o _ _ _ _ f _ (by omega) HVa3 hra').mono ?_
  rintro e w6 ⟨rfl, rfl⟩
  go_wp2_with fail
  refine (lead_o _ _ _ rb g _ (by omega) HVb3 hrb').mono ?_
  rintro e w7 ⟨rfl, rfl⟩
  go_wp2_with fail
  refine (lead_o _ _ _ _ (cat f g 0) _ (by omega) HVj hrab).mono ?_
  rintro e w8 ⟨rfl, rfl⟩
  go_wp2_with fail
  refine (allws_o _ _ _ f _ _ (by omega) HVa3 hA).mono ?_
  rintro e w9 ⟨rfl, rfl⟩
  go_wp2
  go_ret
  exact ⟨rfl, HB5.out⟩

set_option maxRecDepth 20000 in
set_option maxHeartbeats 2000000 in
theorem law_nn_w (f g : Nat → Int) (rb : Nat) (w : World) (hl : 0 + 0 ≤ 1048576) (hrb : rb ≤ 0)
    (hva : Hid (BV w none 0 f)) (hvb : Hid (BV w none 0 g))
    (hA : Hid (allW f 0 = true)) (hra' : Hid (IsLead f 0 0)) (hrb' : Hid (IsLead g 0 rb)) (hrab : Hid (IsLead (cat f g 0) (0 + 0) (0 + rb))) :
    Calls Try.prog 3 #[.slice none 0 0, .slice none 0 0] w fun e w' => e = .returned (.bool true) ∧ Below w.heap.size w w' := by
  have na := neq_none
  go_enter Try.func3, Try.ntmps3
  go_wp2_with fail
  refine (bytes5_small _ _ _ _ _ _ _ (by omega)).mono ?_
  rintro e w' ⟨rfl, rfl⟩
  have HB0 : Hid (Below w'.heap.size w' w') := Below.refl _ _
  have HVa : Hid (BV w' none 0 f) := hva
  have HVb : Hid (BV w' none 0 g) := hvb
  have HB1 : Hid (Below w'.heap.size w' w') := HB0
  have HVa2 := HVa
  go_wp2_with fail
  refine (join_any _ _ _ _ _ _ f g _ (by omega) HVa2 HVb).mono ?_
  rintro e w5 ⟨rfl, HJ, hb5⟩
  have HVa3 : Hid (BV w5 none 0 f) := HVa2.out.below hb5
  have HVb3 : Hid (BV w5 none 0 g) := HVb.out.below hb5
  have HVj : Hid (BV w5 (some ⟨w'.heap.size, 0, none⟩) (0 + 0) (cat f g 0)) := blk_view HJ.out
  have HB5 : Hid (Below w'.heap.size w' w5) := HB1.out.trans (hb5.mono HB1.out.size)
  clear HJ hb5 HVa2 HVb HVa HB1 HB0
  go_wp2_with fail
  refine (lead_o _ _ _ _ f _ (by omega) HVa3 hra').mono ?_
  rintro e w6 ⟨rfl, rfl⟩
  go_wp2_with fail
  refine (lead_o _ _ _ rb g _ (by omega) HVb3 hrb').mono ?_
  rintro e w7 ⟨rfl, rfl⟩
  go_wp2_with fail
  refine (lead_o _ _ _ _ (cat f g 0) _ (by omega) HVj hrab).mono ?_
  rintro e w8 ⟨rfl, rfl⟩
  go_wp2_with fail
  refine (allws_o _ _ _ f _ _ (by omega) HVa3 hA).mono ?_
  rintro e w9 ⟨rfl, rfl⟩
  go_wp2
  go_ret
  exact ⟨rfl, HB5.out⟩

end Go.Proofs.Qxb6614723a.WsParts
