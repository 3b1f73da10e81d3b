/- THE PROOF OF 'Rows.FnIsHexCountsTwentyTwoOverEveryByteSaid': the given shell's frame, its walk filled. -/
import Derived.Test.Qxb6614723aRows
import Derived.Test.Qxb6614723aHex
import Derived.WalkKit
import Derived.ProofKit
import Derived.OpenShut
import Derived.ShutString
namespace Go.Proofs.Qxb6614723a.fnIsHexCountsTwentyTwoOverEveryByte
open Go.ChangeShapes Go.WideShapes Go.ChangeAt Go.RowKit
open Go.ChangeMaps (open_string shut_string)
set_option linter.unusedVariables false      -- a walk need not use every 'w<i>' (that an integer argument fits its kind)

theorem own : ownKnob Try.prog.godebug = none := by kernel_rfl

/-! ### STEP 1: THE WALK. -/
open HexParts in
theorem cnt_yes (p : Int → Bool) (k : Nat) (h : p (k : Int) = true) : cnt p (k + 1) = cnt p k + 1 := by
  show cnt p k + (if p (k : Int) then 1 else 0) = _
  rw [h]
  rfl
open HexParts in
theorem cnt_no (p : Int → Bool) (k : Nat) (h : p (k : Int) = false) : cnt p (k + 1) = cnt p k := by
  show cnt p k + (if p (k : Int) then 1 else 0) = _
  rw [h]
  rfl

open HexParts in
set_option maxRecDepth 20000 in
set_option maxHeartbeats 1000000 in
theorem core (w : World) : Calls Try.prog 4 #[] w fun e w' => e = .returned (.bool true) ∧ w' = w := by
  go_enter Try.func4, Try.ntmps4
  go_wp2
  go_loop [1, 2, 3] (fun nh nd i => ∃ k : Nat, k ≤ 256 ∧ i = .int .i64 k ∧ nh = .int .i64 (cnt hexB k : Nat) ∧ nd = .int .i64 (cnt digB k : Nat)) (fun _ _ i => 256 - (intOf i).toNat)
  case atStart => exact ⟨0, Nat.zero_le _, rfl, rfl, rfl⟩
  case round =>
    obtain ⟨k, hk, rfl, rfl, rfl⟩ := hrel
    have ch := cnt_le hexB k
    have cd := cnt_le digB k
    by_cases hlt : k < 256
    · generalize hA : cnt hexB k = a at ch ⊢
      generalize hB : cnt digB k = b at cd ⊢
      have HA := tuck hA
      have HB := tuck hB
      clear hA hB
      have hks : ((k : Int) < 48 ∧ digB k = false ∧ hexB k = false) ∨ (48 ≤ (k : Int) ∧ (k : Int) ≤ 57 ∧ digB k = true ∧ hexB k = true) ∨ (57 < (k : Int) ∧ (k : Int) < 65 ∧ digB k = false ∧ hexB k = false) ∨
          (65 ≤ (k : Int) ∧ (k : Int) ≤ 70 ∧ digB k = false ∧ hexB k = true) ∨ (70 < (k : Int) ∧ (k : Int) ≤ 90 ∧ digB k = false ∧ hexB k = false) ∨ (90 < (k : Int) ∧ (k : Int) < 97 ∧ digB k = false ∧ hexB k = false) ∨
          (97 ≤ (k : Int) ∧ (k : Int) ≤ 102 ∧ digB k = false ∧ hexB k = true) ∨ (102 < (k : Int) ∧ digB k = false ∧ hexB k = false) := by
        rcases kinds (k : Int) with h | h | h | h | ⟨a, b, c⟩ | h | h
        · exact .inl h
        · exact .inr (.inl h)
        · exact .inr (.inr (.inl h))
        · exact .inr (.inr (.inr (.inl h)))
        · by_cases h90 : (k : Int) ≤ 90
          · exact .inr (.inr (.inr (.inr (.inl ⟨a, h90, c⟩))))
          · exact .inr (.inr (.inr (.inr (.inr (.inl ⟨by omega, b, c⟩)))))
        · exact .inr (.inr (.inr (.inr (.inr (.inr (.inl h))))))
        · exact .inr (.inr (.inr (.inr (.inr (.inr (.inr h))))))
      rcases hks with ⟨h1, hd, hh⟩ | ⟨h1, h2, hd, hh⟩ | ⟨h1, h2, hd, hh⟩ | ⟨h1, h2, hd, hh⟩ | ⟨h1, h2, hd, hh⟩ | ⟨h1, h2, hd, hh⟩ | ⟨h1, h2, hd, hh⟩ | ⟨h1, hd, hh⟩
      · have HH := tuck hh
        have HD := tuck hd
        have NH := tuck (cnt_no hexB k hh)
        have ND := tuck (cnt_no digB k hd)
        clear hh hd
        go_wp2_with fail
        refine (zzhex _ _ _ HH).mono ?_
        rintro e w' ⟨rfl, rfl⟩
        go_wp2_with fail
        refine (zzdig _ _ _ HD).mono ?_
        rintro e w' ⟨rfl, rfl⟩
        go_wp2
        go_round
        case rel => exact ⟨k + 1, by omega, by go_num, by rw [NH.out, HA.out]; (try go_num), by rw [ND.out, HB.out]; (try go_num)⟩
        case measure => simp [intOf]; omega
      · have HH := tuck hh
        have HD := tuck hd
        have NH := tuck (cnt_yes hexB k hh)
        have ND := tuck (cnt_yes digB k hd)
        clear hh hd
        go_wp2_with fail
        refine (zzhex _ _ _ HH).mono ?_
        rintro e w' ⟨rfl, rfl⟩
        go_wp2_with fail
        refine (zzdig _ _ _ HD).mono ?_
        rintro e w' ⟨rfl, rfl⟩
        go_wp2
        go_round
        case rel => exact ⟨k + 1, by omega, by go_num, by rw [NH.out, HA.out]; (try go_num), by rw [ND.out, HB.out]; (try go_num)⟩
        case measure => simp [intOf]; omega
      · have HH := tuck hh
        have HD := tuck hd
        have NH := tuck (cnt_no hexB k hh)
        have ND := tuck (cnt_no digB k hd)
        clear hh hd
        go_wp2_with fail
        refine (zzhex _ _ _ HH).mono ?_
        rintro e w' ⟨rfl, rfl⟩
        go_wp2_with fail
        refine (zzdig _ _ _ HD).mono ?_
        rintro e w' ⟨rfl, rfl⟩
        go_wp2
        go_round
        case rel => exact ⟨k + 1, by omega, by go_num, by rw [NH.out, HA.out]; (try go_num), by rw [ND.out, HB.out]; (try go_num)⟩
        case measure => simp [intOf]; omega
      · have HH := tuck hh
        have HD := tuck hd
        have NH := tuck (cnt_yes hexB k hh)
        have ND := tuck (cnt_no digB k hd)
        have HS := tuck ((hex_small (k : Int) (by omega) (by omega)).trans hh)
        clear hh hd
        go_wp2_with fail
        refine (zzhex _ _ _ HH).mono ?_
        rintro e w' ⟨rfl, rfl⟩
        go_wp2_with fail
        refine (zzdig _ _ _ HD).mono ?_
        rintro e w' ⟨rfl, rfl⟩
        go_wp2_with fail
        refine (zzhex _ _ _ HS).mono ?_
        rintro e w' ⟨rfl, rfl⟩
        go_wp2
        go_round
        case rel => exact ⟨k + 1, by omega, by go_num, by rw [NH.out, HA.out]; (try go_num), by rw [ND.out, HB.out]; (try go_num)⟩
        case measure => simp [intOf]; omega
      · have HH := tuck hh
        have HD := tuck hd
        have NH := tuck (cnt_no hexB k hh)
        have ND := tuck (cnt_no digB k hd)
        have HS := tuck ((hex_small (k : Int) (by omega) (by omega)).trans hh)
        clear hh hd
        go_wp2_with fail
        refine (zzhex _ _ _ HH).mono ?_
        rintro e w' ⟨rfl, rfl⟩
        go_wp2_with fail
        refine (zzdig _ _ _ HD).mono ?_
        rintro e w' ⟨rfl, rfl⟩
        go_wp2_with fail
        refine (zzhex _ _ _ HS).mono ?_
        rintro e w' ⟨rfl, rfl⟩
        go_wp2
        go_round
        case rel => exact ⟨k + 1, by omega, by go_num, by rw [NH.out, HA.out]; (try go_num), by rw [ND.out, HB.out]; (try go_num)⟩
        case measure => simp [intOf]; omega
      · have HH := tuck hh
        have HD := tuck hd
        have NH := tuck (cnt_no hexB k hh)
        have ND := tuck (cnt_no digB k hd)
        clear hh hd
        go_wp2_with fail
        refine (zzhex _ _ _ HH).mono ?_
        rintro e w' ⟨rfl, rfl⟩
        go_wp2_with fail
        refine (zzdig _ _ _ HD).mono ?_
        rintro e w' ⟨rfl, rfl⟩
        go_wp2
        go_round
        case rel => exact ⟨k + 1, by omega, by go_num, by rw [NH.out, HA.out]; (try go_num), by rw [ND.out, HB.out]; (try go_num)⟩
        case measure => simp [intOf]; omega
      · have HH := tuck hh
        have HD := tuck hd
        have NH := tuck (cnt_yes hexB k hh)
        have ND := tuck (cnt_no digB k hd)
        clear hh hd
        go_wp2_with fail
        refine (zzhex _ _ _ HH).mono ?_
        rintro e w' ⟨rfl, rfl⟩
        go_wp2_with fail
        refine (zzdig _ _ _ HD).mono ?_
        rintro e w' ⟨rfl, rfl⟩
        go_wp2
        go_round
        case rel => exact ⟨k + 1, by omega, by go_num, by rw [NH.out, HA.out]; (try go_num), by rw [ND.out, HB.out]; (try go_num)⟩
        case measure => simp [intOf]; omega
      · have HH := tuck hh
        have HD := tuck hd
        have NH := tuck (cnt_no hexB k hh)
        have ND := tuck (cnt_no digB k hd)
        clear hh hd
        go_wp2_with fail
        refine (zzhex _ _ _ HH).mono ?_
        rintro e w' ⟨rfl, rfl⟩
        go_wp2_with fail
        refine (zzdig _ _ _ HD).mono ?_
        rintro e w' ⟨rfl, rfl⟩
        go_wp2
        go_round
        case rel => exact ⟨k + 1, by omega, by go_num, by rw [NH.out, HA.out]; (try go_num), by rw [ND.out, HB.out]; (try go_num)⟩
        case measure => simp [intOf]; omega
    · obtain rfl : k = 256 := by omega
      rw [cnt_hex, cnt_dig]
      go_wp2
      go_ret
      exact ⟨rfl, rfl⟩

open HexParts in
theorem walk  (w : World) :
    Calls Try.prog 4 #[] w fun e w' => e = .returned (.bool true) ∧ Grown w w' :=
  (core w).mono fun e w' ⟨he, hw⟩ => ⟨he, by subst hw; exact Grown.refl _⟩

/-! ### THE ROW's STEP: WRITTEN OUT: LEAVE IT -/
set_option maxRecDepth 100000 in
theorem lifted (os : Os) (started : os.Started) (H : Type) (enc : TypeId × Value → H) :
    ReturnsInHanded {} Try.checked os 4 .any (Rows.fnIsHexCountsTwentyTwoOverEveryByteSpec.pre6 enc Try.prog Try.f4 Rows.fnIsHexCountsTwentyTwoOverEveryByteRow.domain false) (Rows.fnIsHexCountsTwentyTwoOverEveryByteSpec.post enc Try.prog Try.f4 false true false false) := by
  refine returnsInHanded_of_change (C := Try.checked) own started (by kernel_rfl) Try.func4
    (ChangeSpec.witness6 (enc := enc) (C := Try.checked) false ⟨#[], #[], []⟩ 8 (by kernel_rfl) (by kernel_rfl) (by kernel_rfl) (by kernel_rfl)) ?_
  intro W base args ds gs before hval0 hW hcnd _
  have hval : ∀ (j : Nat) t v, Try.f4.params[j]? = some t → args[j]? = some v → Value.okWide Try.prog W .any base t v := hval0
  have hW' := hW
  obtain ⟨p, q, hA0, hV, rfl, hfz, hnd⟩ := hW
  have hA : DataW.TrodAll enc Try.prog W 0 (fun _ => true) true Try.f4.params.toList args.toList ds p := hA0
  rw [Try.params4] at hA hval
  obtain ⟨rfl, rfl, rfl⟩ := trodAll_none hA
  obtain ⟨rfl, rfl⟩ := trodVars_none hV
  clear hA0 hval0
  simp only [List.append_nil] at hW'
  refine (walk  W).mono fun e W' ⟨he, hg⟩ => ?_
  subst he
  exact ⟨_, rfl, post_of_same (pa := []) (pv := []) hW' (fun _ _ _ => (trodAll_cons_mk (shut_bool Try.underlying4 _) trodAll_mk0)) (fun sp _ => rfl) (fun _ _ => rfl) rfl
    (hg.frame _) hg.2.1 (ok_one (by kernel_rfl) rfl (okWide_bool_mk Try.underlying4 _))⟩

theorem over : Rows.fnIsHexCountsTwentyTwoOverEveryByteRow.holds Try.pinned (OpenSpec.ofChange Rows.fnIsHexCountsTwentyTwoOverEveryByteSpec) :=
  OpenClaim.holds_of_wide 4 Try.f4 rfl rfl rfl rfl rfl rfl rfl ⟨rfl, rfl, rfl, rfl, rfl⟩ rfl rfl rfl rfl rfl (by kernel_rfl) Try.func4 (by kernel_rfl)
    (of_decide_eq_true (by kernel_rfl)) (by unfold Func.isWrapper; first | (rw [if_pos (by decide +kernel)]; kernel_rfl) | (rw [if_neg (by decide +kernel)]; exact ⟨rfl, rfl⟩))
    (fun os started H enc _ => lifted os started H enc)

/-- ████ THE STATEMENT ████ -/
theorem proved : Rows.FnIsHexCountsTwentyTwoOverEveryByteSaid :=
  over
end Go.Proofs.Qxb6614723a.fnIsHexCountsTwentyTwoOverEveryByte
