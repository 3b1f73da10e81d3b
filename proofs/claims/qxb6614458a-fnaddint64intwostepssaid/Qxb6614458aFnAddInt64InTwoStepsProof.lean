/- THE PROOF OF 'Rows.FnAddInt64InTwoStepsSaid': the given shell's frame, its walk filled. -/
import Derived.Test.Qxb6614458aRows
import Derived.Test.Qxb6614458aAdd
import Derived.Test.Qxb6614458aLaw
import Derived.WalkKit
import Derived.ProofKit
import Derived.OpenShut
import Derived.ShutString
namespace Go.Proofs.Qxb6614458a.fnAddInt64InTwoSteps
open Go.ChangeShapes Go.WideShapes Go.ChangeAt Go.RowKit
open Go.ChangeMaps (open_string shut_string)
set_option linter.unusedVariables false      -- a walk need not use every 'w<i>' (that an integer argument fits its kind)

theorem own : ownKnob Try.prog.godebug = none := by kernel_rfl

/-! ### STEP 1: THE WALK. 'core_out': b1 + b2 does not fit; 'core': it does: every test on the road is given; the calls go by the contract. -/
open AddI64 in
set_option maxHeartbeats 800000 in
theorem core_out (a b1 b2 : Int)
    (hw : (0 < b2 ∧ wrap64 (9223372036854775807 - b2) < b1) ∨ (b2 < 0 ∧ b1 < wrap64 (-9223372036854775808 - b2))) (w : World) :
    Calls Try.prog 4 #[.int .i64 a, .int .i64 b1, .int .i64 b2] w fun e w' => e = .returned (.bool true) ∧ w' = w := by
  rcases hw with ⟨hb, hd⟩ | ⟨hb, hd⟩
  · skip
    · skip
      go_enter Try.func4, Try.ntmps4
      go_wp2
      go_ret
      exact ⟨rfl, rfl⟩
  · have hb' : ¬ 0 < b2 := by omega
    · skip
      go_enter Try.func4, Try.ntmps4
      go_wp2
      go_ret
      exact ⟨rfl, rfl⟩

open AddI64 in
set_option maxHeartbeats 800000 in
theorem core (a b1 b2 s x y : Int) (o1 o2 : Bool)
    (h1 : Hid (s = wrap64 (b1 + b2))) (h1' : Hid (false = ovf b1 b2)) (h2 : Hid (x = wrap64 (a + b1))) (h2' : Hid (o1 = ovf a b1))
    (h3 : Hid (y = wrap64 (x + b2))) (h3' : Hid (o2 = ovf x b2)) (h4 : Hid (y = wrap64 (a + s))) (h4' : Hid ((o1 != o2) = ovf a s))
    (hs : (wrap64 (s - b2) != b1) = false) (hy : (wrap64 (wrap64 (y - b1) - b2) != a) = false)
    (hw : (0 < b2 ∧ ¬ wrap64 (9223372036854775807 - b2) < b1) ∨ (b2 < 0 ∧ ¬ b1 < wrap64 (-9223372036854775808 - b2)) ∨ (¬ 0 < b2 ∧ ¬ b2 < 0)) (w : World) :
    Calls Try.prog 4 #[.int .i64 a, .int .i64 b1, .int .i64 b2] w fun e w' => e = .returned (.bool true) ∧ w' = w := by
  rcases hw with ⟨hb, hd⟩ | ⟨hb, hd⟩ | ⟨hb, hb'⟩
  · skip
    · skip
      go_enter Try.func4, Try.ntmps4
      go_wp2_with fail
      refine (zz_any b1 b2 s _ h1 h1' _).mono ?_
      rintro e w' ⟨rfl, rfl⟩
      go_wp2_with fail
      refine (zz_any a b1 x _ h2 h2' _).mono ?_
      rintro e w' ⟨rfl, rfl⟩
      go_wp2_with fail
      refine (zz_any x b2 y _ h3 h3' _).mono ?_
      rintro e w' ⟨rfl, rfl⟩
      go_wp2_with fail
      refine (zz_any a s y _ h4 h4' _).mono ?_
      rintro e w' ⟨rfl, rfl⟩
      go_wp2
      go_ret
      exact ⟨by cases o1 <;> cases o2 <;> rfl, rfl⟩
  · have hb' : ¬ 0 < b2 := by omega
    · skip
      go_enter Try.func4, Try.ntmps4
      go_wp2_with fail
      refine (zz_any b1 b2 s _ h1 h1' _).mono ?_
      rintro e w' ⟨rfl, rfl⟩
      go_wp2_with fail
      refine (zz_any a b1 x _ h2 h2' _).mono ?_
      rintro e w' ⟨rfl, rfl⟩
      go_wp2_with fail
      refine (zz_any x b2 y _ h3 h3' _).mono ?_
      rintro e w' ⟨rfl, rfl⟩
      go_wp2_with fail
      refine (zz_any a s y _ h4 h4' _).mono ?_
      rintro e w' ⟨rfl, rfl⟩
      go_wp2
      go_ret
      exact ⟨by cases o1 <;> cases o2 <;> rfl, rfl⟩
  · skip
    · skip
      go_enter Try.func4, Try.ntmps4
      go_wp2_with fail
      refine (zz_any b1 b2 s _ h1 h1' _).mono ?_
      rintro e w' ⟨rfl, rfl⟩
      go_wp2_with fail
      refine (zz_any a b1 x _ h2 h2' _).mono ?_
      rintro e w' ⟨rfl, rfl⟩
      go_wp2_with fail
      refine (zz_any x b2 y _ h3 h3' _).mono ?_
      rintro e w' ⟨rfl, rfl⟩
      go_wp2_with fail
      refine (zz_any a s y _ h4 h4' _).mono ?_
      rintro e w' ⟨rfl, rfl⟩
      go_wp2
      go_ret
      exact ⟨by cases o1 <;> cases o2 <;> rfl, rfl⟩

open AddI64 in
theorem walk (a0 : Int) (a1 : Int) (a2 : Int) (w0 : (Lit.int .i64 a0).wf = true) (w1 : (Lit.int .i64 a1).wf = true) (w2 : (Lit.int .i64 a2).wf = true) (w : World) :
    Calls Try.prog 4 #[.int .i64 a0, .int .i64 a1, .int .i64 a2] w fun e w' => e = .returned (.bool true) ∧ Grown w w' := by
  have b0 := bd a0 w0
  have b1 := bd a1 w1
  have b2 := bd a2 w2
  have key : Calls Try.prog 4 #[.int .i64 a0, .int .i64 a1, .int .i64 a2] w fun e w' => e = .returned (.bool true) ∧ w' = w := by
    by_cases hfit : 9223372036854775807 < a1 + a2 ∨ a1 + a2 < -9223372036854775808
    · refine core_out a0 a1 a2 ?_ w
      unfold wrap64
      omega
    · have hno : ¬ ovf a1 a2 = true := by rw [ovf_iff a1 a2 b1 b2]; exact hfit
      have hs : wrap64 (a1 + a2) = a1 + a2 := by unfold wrap64; omega
      refine core a0 a1 a2 _ _ _ _ _ (tuck rfl) (tuck ?_) (tuck rfl) (tuck rfl) (tuck rfl) (tuck rfl) (tuck ?_) (tuck ?_) ?_ ?_ ?_ w
      · exact ((Bool.not_eq_true _).mp hno).symm
      · rw [hs]; unfold wrap64; omega
      · refine ovf_eq _ _ _ b0 (wbd _) ?_
        rw [hs]
        have e1 := ovf_iff a0 a1 b0 b1
        have e2 := ovf_iff (wrap64 (a0 + a1)) a2 (wbd _) b2
        have hx : (ovf a0 a1 != ovf (wrap64 (a0 + a1)) a2) = true ↔ ¬ (ovf a0 a1 = true ↔ ovf (wrap64 (a0 + a1)) a2 = true) := by
          cases ovf a0 a1 <;> cases ovf (wrap64 (a0 + a1)) a2 <;> simp
        rw [hx, e1, e2]
        unfold wrap64
        omega
      · have : wrap64 (wrap64 (a1 + a2) - a2) = a1 := by unfold wrap64; omega
        rw [this]; simp
      · have : wrap64 (wrap64 (wrap64 (wrap64 (a0 + a1) + a2) - a1) - a2) = a0 := by unfold wrap64; omega
        rw [this]; simp
      · unfold wrap64; omega
  refine key.mono fun e w' ⟨he, hw⟩ => ⟨he, ?_⟩
  subst hw
  exact Grown.refl _

/-! ### THE ROW's STEP: WRITTEN OUT: LEAVE IT -/
set_option maxRecDepth 100000 in
theorem lifted (os : Os) (started : os.Started) (H : Type) (enc : TypeId × Value → H) :
    ReturnsInHanded {} Try.checked os 4 .any (Rows.fnAddInt64InTwoStepsSpec.pre6 enc Try.prog Try.f4 Rows.fnAddInt64InTwoStepsRow.domain false) (Rows.fnAddInt64InTwoStepsSpec.post enc Try.prog Try.f4 false true false false) := by
  refine returnsInHanded_of_change (C := Try.checked) own started (by kernel_rfl) Try.func4
    (ChangeSpec.witness6 (enc := enc) (C := Try.checked) false ⟨#[], #[.int .i64 0, .int .i64 0, .int .i64 0], []⟩ 8 (by kernel_rfl) (by kernel_rfl) (by kernel_rfl) (by kernel_rfl)) ?_
  intro W base args ds gs before hval0 hW hcnd _
  have hval : ∀ (j : Nat) t v, Try.f4.params[j]? = some t → args[j]? = some v → Value.okWide Try.prog W .any base t v := hval0
  have hW' := hW
  obtain ⟨p, q, hA0, hV, rfl, hfz, hnd⟩ := hW
  have hA : DataW.TrodAll enc Try.prog W 0 (fun _ => true) true Try.f4.params.toList args.toList ds p := hA0
  rw [Try.params4] at hA hval
  obtain ⟨v0, vs0, d0, ds0, p0, q0, hargs, rfl, rfl, h0, r0⟩ := trodAll_cons hA
  obtain ⟨v1, vs1, d1, ds1, p1, q1, rfl, rfl, rfl, h1, r1⟩ := trodAll_cons r0
  obtain ⟨v2, vs2, d2, ds2, p2, q2, rfl, rfl, rfl, h2, r2⟩ := trodAll_cons r1
  obtain ⟨rfl, rfl, rfl⟩ := trodAll_nil r2
  obtain rfl : args = #[v0, v1, v2] := by cases args; simp_all
  obtain ⟨rfl, rfl⟩ := trodVars_none hV
  obtain ⟨a0, rfl, rfl, rfl, w0⟩ := open_int Try.underlying2 (hval 0 2 v0 rfl rfl) h0
  obtain ⟨a1, rfl, rfl, rfl, w1⟩ := open_int Try.underlying2 (hval 1 2 v1 rfl rfl) h1
  obtain ⟨a2, rfl, rfl, rfl, w2⟩ := open_int Try.underlying2 (hval 2 2 v2 rfl rfl) h2
  clear hA0 hval0
  simp only [List.append_nil] at hW'
  refine (walk a0 a1 a2 w0 w1 w2 W).mono fun e W' ⟨he, hg⟩ => ?_
  subst he
  exact ⟨_, rfl, post_of_same (pa := []) (pv := []) hW' (fun _ _ _ => (trodAll_cons_mk (shut_bool Try.underlying4 _) trodAll_mk0)) (fun sp _ => (trodAll_cons_mk (shut_int Try.underlying2 w0) (trodAll_cons_mk (shut_int Try.underlying2 w1) (trodAll_cons_mk (shut_int Try.underlying2 w2) trodAll_mk0)))) (fun _ _ => rfl) rfl
    (hg.frame _) hg.2.1 (ok_one (by kernel_rfl) rfl (okWide_bool_mk Try.underlying4 _))⟩

theorem over : Rows.fnAddInt64InTwoStepsRow.holds Try.pinned (OpenSpec.ofChange Rows.fnAddInt64InTwoStepsSpec) :=
  OpenClaim.holds_of_wide 4 Try.f4 rfl rfl rfl rfl rfl rfl rfl ⟨rfl, rfl, rfl, rfl, rfl⟩ rfl rfl rfl rfl rfl (by kernel_rfl) Try.func4 (by kernel_rfl)
    (of_decide_eq_true (by kernel_rfl)) (by unfold Func.isWrapper; first | (rw [if_pos (by decide +kernel)]; kernel_rfl) | (rw [if_neg (by decide +kernel)]; exact ⟨rfl, rfl⟩))
    (fun os started H enc _ => lifted os started H enc)

/-- ████ THE STATEMENT ████ -/
theorem proved : Rows.FnAddInt64InTwoStepsSaid :=
  over
end Go.Proofs.Qxb6614458a.fnAddInt64InTwoSteps
