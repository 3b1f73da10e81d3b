/- zzJoin: the two copies. -/
import Derived.Test.Qxb6614723aJoin
namespace Go.Proofs.Qxb6614723a.WsParts
open Go.RowKit

theorem min_left (f : Nat → Int) (a b : Nat) : (bl f a).length = Nat.min a (a + b) := by
  rw [bl_len]
  exact (Nat.min_eq_left (by omega)).symm
theorem min_self (f : Nat → Int) (a : Nat) : (bl f a).length = Nat.min a a := by
  rw [bl_len]
  exact (Nat.min_self a).symm

set_option maxRecDepth 20000 in
set_option maxHeartbeats 1000000 in
theorem join_empty (a b : Option Addr) (la ca cb : Nat) (f g : Nat → Int) (w : World) (hl : la ≤ 2000000) (hva : Hid (BV w a la f)) (hvb : Hid (BV w b 0 g)) :
    Calls Try.prog 6 #[.slice a la ca, .slice b 0 cb] w fun e w' => e = .returned (.slice (some ⟨w.heap.size, 0, none⟩) la la) ∧ Hid (Blk w' w.heap.size (bl (cat f g la) (la + 0))) ∧ Below w.heap.size w w' := by
  obtain ⟨i0, hi, hz0, hz1, hz2⟩ := info_parts info5
  have HN1 := tuck (min_self f la)
  have HN2 := tuck (min_self g 0)
  go_enter Try.func6, Try.ntmps6
  go_wp2_with (at_make; refine wpList_make_full _ rfl (.tmp 10) (.tmp 10) 22 rfl w.heap.size 5 i0 _ 1 Try.underlying22 hi hz0 hz1 .i64 .i64 _ _ la rfl rfl (by omega) (by omega) (by rw [hz2]; omega) (by unfold maxLen; omega) (Nat.le_refl _) ?_)
  intro w1 hown hgrow
  clear hi hz0 hz1 hz2 i0
  obtain ⟨cur, hblk, hcl⟩ := own_blk hown
  have HBlk := tuck hblk
  have HCL := tuck hcl
  have hb1 : Below w.heap.size w w1 := (Below.refl _ _).grown hgrow (Nat.le_refl _) (by intro k hk; cases hk)
  clear hown hgrow hblk hcl
  have HS1 : Hid (0 < (bl f la).length → some (⟨w.heap.size, 0, none⟩ : Addr) = some ⟨w.heap.size, 0, none⟩ ∧ ∃ ad, a = some ad ∧ ∀ j v, (bl f la)[j]? = some v → w1.cell? (ad.add j) = some v) :=
    fun h => ⟨rfl, view_src (hva.out.below hb1) h⟩
  have HF1 : Hid (0 + (bl f la).length ≤ cur.length) := by show _ ≤ _; rw [bl_len, HCL.out]; omega
  have HF2 : Hid (la + (bl g 0).length ≤ (splice cur 0 (bl f la)).length) := by show _ ≤ _; rw [length_splice _ _ _ HF1.out, bl_len, HCL.out]; omega
  go_wp2_with ((with_reducible refine at_copy ?_); refine wpList_copy_splice rfl (.tmp 12) (.tmp 13) 22 22 rfl 5 Try.underlying22 size5 (some ⟨w.heap.size, 0, none⟩) a la la la ca rfl rfl w.heap.size 0 cur 5 HBlk.out (bl f la) HN1.out HS1.out HF1.out (bl_one f la) w.heap.size w hb1 (Nat.le_refl _) ?_)
  intro w2 HG2 hb2
  clear HS1 HBlk
  have HS2 : Hid (0 < (bl g 0).length → some (⟨w.heap.size, 0, none⟩ : Addr) = some ⟨w.heap.size, la, none⟩ ∧ ∃ ad, b = some ad ∧ ∀ j v, (bl g 0)[j]? = some v → w2.cell? (ad.add j) = some v) :=
    fun h => ⟨by rw [bl_len] at h; omega, view_src (hvb.out.below hb2) h⟩
  go_wp2_with ((with_reducible refine at_copy ?_); refine wpList_copy_splice rfl (.tmp 18) (.tmp 19) 22 22 rfl 5 Try.underlying22 size5 (some ⟨w.heap.size, 0, none⟩) b 0 0 0 cb rfl rfl w.heap.size la (splice cur 0 (bl f la)) 5 HG2.out (bl g 0) HN2.out HS2.out HF2.out (bl_one g 0) w.heap.size w hb2 (Nat.le_refl _) ?_)
  intro w3 HG3 hb3
  have HR : Hid (Blk w3 w.heap.size (bl (cat f g la) (la + 0))) := by
    have h := HG3.out
    rw [splice_two cur f g la 0 HCL.out] at h
    exact h
  clear HG3 HG2 HS2
  go_wp2
  go_ret
  exact ⟨rfl, HR, hb3⟩

set_option maxRecDepth 20000 in
set_option maxHeartbeats 1000000 in
theorem join_more (a b : Option Addr) (la ca lb cb : Nat) (f g : Nat → Int) (w : World) (hl : la + lb ≤ 2000000) (hp : 0 < lb) (hva : Hid (BV w a la f)) (hvb : Hid (BV w b lb g)) :
    Calls Try.prog 6 #[.slice a la ca, .slice b lb cb] w fun e w' => e = .returned (.slice (some ⟨w.heap.size, 0, none⟩) (la + lb) (la + lb)) ∧ Hid (Blk w' w.heap.size (bl (cat f g la) (la + lb))) ∧ Below w.heap.size w w' := by
  obtain ⟨i0, hi, hz0, hz1, hz2⟩ := info_parts info5
  have HN1 := tuck (min_left f la lb)
  have HN2 := tuck (min_self g lb)
  go_enter Try.func6, Try.ntmps6
  go_wp2_with (at_make; refine wpList_make_full _ rfl (.tmp 10) (.tmp 10) 22 rfl w.heap.size 5 i0 _ 1 Try.underlying22 hi hz0 hz1 .i64 .i64 _ _ (la + lb) rfl rfl (by omega) (by omega) (by rw [hz2]; omega) (by unfold maxLen; omega) (Nat.le_refl _) ?_)
  intro w1 hown hgrow
  clear hi hz0 hz1 hz2 i0
  obtain ⟨cur, hblk, hcl⟩ := own_blk hown
  have HBlk := tuck hblk
  have HCL := tuck hcl
  have hb1 : Below w.heap.size w w1 := (Below.refl _ _).grown hgrow (Nat.le_refl _) (by intro k hk; cases hk)
  clear hown hgrow hblk hcl
  have HS1 : Hid (0 < (bl f la).length → some (⟨w.heap.size, 0, none⟩ : Addr) = some ⟨w.heap.size, 0, none⟩ ∧ ∃ ad, a = some ad ∧ ∀ j v, (bl f la)[j]? = some v → w1.cell? (ad.add j) = some v) :=
    fun h => ⟨rfl, view_src (hva.out.below hb1) h⟩
  have HF1 : Hid (0 + (bl f la).length ≤ cur.length) := by show _ ≤ _; rw [bl_len, HCL.out]; omega
  have HF2 : Hid (la + (bl g lb).length ≤ (splice cur 0 (bl f la)).length) := by show _ ≤ _; rw [length_splice _ _ _ HF1.out, bl_len, HCL.out]; omega
  go_wp2_with ((with_reducible refine at_copy ?_); refine wpList_copy_splice rfl (.tmp 12) (.tmp 13) 22 22 rfl 5 Try.underlying22 size5 (some ⟨w.heap.size, 0, none⟩) a (la + lb) (la + lb) la ca rfl rfl w.heap.size 0 cur 5 HBlk.out (bl f la) HN1.out HS1.out HF1.out (bl_one f la) w.heap.size w hb1 (Nat.le_refl _) ?_)
  intro w2 HG2 hb2
  clear HS1 HBlk
  have HS2 : Hid (0 < (bl g lb).length → some (⟨w.heap.size, la, none⟩ : Addr) = some ⟨w.heap.size, la, none⟩ ∧ ∃ ad, b = some ad ∧ ∀ j v, (bl g lb)[j]? = some v → w2.cell? (ad.add j) = some v) :=
    fun h => ⟨rfl, view_src (hvb.out.below hb2) h⟩
  go_wp2_with ((with_reducible refine at_copy ?_); refine wpList_copy_splice rfl (.tmp 18) (.tmp 19) 22 22 rfl 5 Try.underlying22 size5 (some ⟨w.heap.size, la, none⟩) b lb lb lb cb rfl rfl w.heap.size la (splice cur 0 (bl f la)) 5 HG2.out (bl g lb) HN2.out HS2.out HF2.out (bl_one g lb) w.heap.size w hb2 (Nat.le_refl _) ?_)
  intro w3 HG3 hb3
  have HR : Hid (Blk w3 w.heap.size (bl (cat f g la) (la + lb))) := by
    have h := HG3.out
    rw [splice_two cur f g la lb HCL.out] at h
    exact h
  clear HG3 HG2 HS2
  go_wp2
  go_ret
  exact ⟨rfl, HR, hb3⟩

theorem join_any (a b : Option Addr) (la ca lb cb : Nat) (f g : Nat → Int) (w : World) (hl : la + lb ≤ 2000000) (hva : Hid (BV w a la f)) (hvb : Hid (BV w b lb g)) :
    Calls Try.prog 6 #[.slice a la ca, .slice b lb cb] w fun e w' => e = .returned (.slice (some ⟨w.heap.size, 0, none⟩) (la + lb) (la + lb)) ∧ Hid (Blk w' w.heap.size (bl (cat f g la) (la + lb))) ∧ Below w.heap.size w w' := by
  by_cases h : lb = 0
  · subst h
    exact join_empty a b la ca cb f g w hl hva hvb
  · exact join_more a b la ca lb cb f g w hl (by omega) hva hvb

end Go.Proofs.Qxb6614723a.WsParts
