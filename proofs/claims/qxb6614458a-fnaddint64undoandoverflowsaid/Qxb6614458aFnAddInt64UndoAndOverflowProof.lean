/- THE PROOF OF 'Rows.FnAddInt64UndoAndOverflowSaid': the given shell's frame, its walk filled. -/
import Derived.Test.Qxb6614458aRows
import Derived.Test.Qxb6614458aAdd
import Derived.Test.Qxb6614458aLaw
import Derived.WalkKit
import Derived.ProofKit
import Derived.OpenShut
import Derived.ShutString
namespace Go.Proofs.Qxb6614458a.fnAddInt64UndoAndOverflow
open Go.ChangeShapes Go.WideShapes Go.ChangeAt Go.RowKit
open Go.ChangeMaps (open_string shut_string)
set_option linter.unusedVariables false      -- a walk need not use every 'w<i>' (that an integer argument fits its kind)

theorem own : ownKnob Try.prog.godebug = none := by kernel_rfl

/-! ### STEP 1: THE WALK. 'core', 'core_min': every test on the road is given; the calls go by the contract. -/
open AddI64 in
set_option maxHeartbeats 800000 in
theorem core (a b c : Int) (o : Bool)
    (h1 : Hid (c = wrap64 (a + b))) (h1' : Hid (o = ovf a b)) (h2 : Hid (c = wrap64 (b + a))) (h2' : Hid (o = ovf b a))
    (h3 : Hid (a = wrap64 (c + wrap64 (-b)))) (h3' : Hid (o = ovf c (wrap64 (-b))))
    (hs : (wrap64 (c - b) != a) = false) (hmin : (b != -9223372036854775808) = true)
    (hw : (0 < b ∧ decide (wrap64 (9223372036854775807 - b) < a) = o) ∨ (b < 0 ∧ decide (a < wrap64 (-9223372036854775808 - b)) = o) ∨ (¬ 0 < b ∧ ¬ b < 0 ∧ o = false)) (w : World) :
    Calls Try.prog 3 #[.int .i64 a, .int .i64 b] w fun e w' => e = .returned (.bool true) ∧ w' = w := by
  rcases hw with ⟨hb, hd⟩ | ⟨hb, hd⟩ | ⟨hb, hb', hd⟩
  · cases o
    · have hd' : ¬ wrap64 (9223372036854775807 - b) < a := by simpa using hd
      clear hd
      go_enter Try.func3, Try.ntmps3
      go_wp2_with fail
      refine (zz_any a b c _ h1 h1' _).mono ?_
      rintro e w' ⟨rfl, rfl⟩
      go_wp2_with fail
      refine (zz_any b a c _ h2 h2' _).mono ?_
      rintro e w' ⟨rfl, rfl⟩
      go_wp2_with fail
      refine (zz_any c (wrap64 (-b)) a _ h3 h3' _).mono ?_
      rintro e w' ⟨rfl, rfl⟩
      go_wp2
      go_ret
      exact ⟨rfl, rfl⟩
    · have hd' : wrap64 (9223372036854775807 - b) < a := by simpa using hd
      clear hd
      go_enter Try.func3, Try.ntmps3
      go_wp2_with fail
      refine (zz_any a b c _ h1 h1' _).mono ?_
      rintro e w' ⟨rfl, rfl⟩
      go_wp2_with fail
      refine (zz_any b a c _ h2 h2' _).mono ?_
      rintro e w' ⟨rfl, rfl⟩
      go_wp2_with fail
      refine (zz_any c (wrap64 (-b)) a _ h3 h3' _).mono ?_
      rintro e w' ⟨rfl, rfl⟩
      go_wp2
      go_ret
      exact ⟨rfl, rfl⟩
  · have hb' : ¬ 0 < b := by omega
    cases o
    · have hd' : ¬ a < wrap64 (-9223372036854775808 - b) := by simpa using hd
      clear hd
      go_enter Try.func3, Try.ntmps3
      go_wp2_with fail
      refine (zz_any a b c _ h1 h1' _).mono ?_
      rintro e w' ⟨rfl, rfl⟩
      go_wp2_with fail
      refine (zz_any b a c _ h2 h2' _).mono ?_
      rintro e w' ⟨rfl, rfl⟩
      go_wp2_with fail
      refine (zz_any c (wrap64 (-b)) a _ h3 h3' _).mono ?_
      rintro e w' ⟨rfl, rfl⟩
      go_wp2
      go_ret
      exact ⟨rfl, rfl⟩
    · have hd' : a < wrap64 (-9223372036854775808 - b) := by simpa using hd
      clear hd
      go_enter Try.func3, Try.ntmps3
      go_wp2_with fail
      refine (zz_any a b c _ h1 h1' _).mono ?_
      rintro e w' ⟨rfl, rfl⟩
      go_wp2_with fail
      refine (zz_any b a c _ h2 h2' _).mono ?_
      rintro e w' ⟨rfl, rfl⟩
      go_wp2_with fail
      refine (zz_any c (wrap64 (-b)) a _ h3 h3' _).mono ?_
      rintro e w' ⟨rfl, rfl⟩
      go_wp2
      go_ret
      exact ⟨rfl, rfl⟩
  · subst hd
    have hw0 : wrap64 (-b) = -b := by unfold wrap64; omega
    rw [hw0] at h3 h3'
    clear hw0
    · skip
      go_enter Try.func3, Try.ntmps3
      go_wp2_with fail
      refine (zz_any a b c _ h1 h1' _).mono ?_
      rintro e w' ⟨rfl, rfl⟩
      go_wp2_with fail
      refine (zz_any b a c _ h2 h2' _).mono ?_
      rintro e w' ⟨rfl, rfl⟩
      go_wp2_with fail
      refine (zz_any c (-b) a _ h3 h3' _).mono ?_
      rintro e w' ⟨rfl, rfl⟩
      go_wp2
      go_ret
      exact ⟨rfl, rfl⟩

open AddI64 in
set_option maxHeartbeats 800000 in
theorem core_min (a b c : Int) (o : Bool)
    (h1 : Hid (c = wrap64 (a + b))) (h1' : Hid (o = ovf a b)) (h2 : Hid (c = wrap64 (b + a))) (h2' : Hid (o = ovf b a))
    (hs : (wrap64 (c - b) != a) = false) (hmin : (b != -9223372036854775808) = false)
    (hb : b < 0) (hd : decide (a < wrap64 (-9223372036854775808 - b)) = o) (w : World) :
    Calls Try.prog 3 #[.int .i64 a, .int .i64 b] w fun e w' => e = .returned (.bool true) ∧ w' = w := by
  have hb' : ¬ 0 < b := by omega
  cases o
  · have hd' : ¬ a < wrap64 (-9223372036854775808 - b) := by simpa using hd
    clear hd
    go_enter Try.func3, Try.ntmps3
    go_wp2_with fail
    refine (zz_any a b c _ h1 h1' _).mono ?_
    rintro e w' ⟨rfl, rfl⟩
    go_wp2_with fail
    refine (zz_any b a c _ h2 h2' _).mono ?_
    rintro e w' ⟨rfl, rfl⟩
    go_wp2
    go_ret
    exact ⟨rfl, rfl⟩
  · have hd' : a < wrap64 (-9223372036854775808 - b) := by simpa using hd
    clear hd
    go_enter Try.func3, Try.ntmps3
    go_wp2_with fail
    refine (zz_any a b c _ h1 h1' _).mono ?_
    rintro e w' ⟨rfl, rfl⟩
    go_wp2_with fail
    refine (zz_any b a c _ h2 h2' _).mono ?_
    rintro e w' ⟨rfl, rfl⟩
    go_wp2
    go_ret
    exact ⟨rfl, rfl⟩

open AddI64 in
theorem walk (a0 : Int) (a1 : Int) (w0 : (Lit.int .i64 a0).wf = true) (w1 : (Lit.int .i64 a1).wf = true) (w : World) :
    Calls Try.prog 3 #[.int .i64 a0, .int .i64 a1] w fun e w' => e = .returned (.bool true) ∧ Grown w w' := by
  have b0 := bd a0 w0
  have b1 := bd a1 w1
  have key : Calls Try.prog 3 #[.int .i64 a0, .int .i64 a1] w fun e w' => e = .returned (.bool true) ∧ w' = w := by
    have e1 : wrap64 (a0 + a1) = wrap64 (a1 + a0) := by rw [Int.add_comm]
    have e2 : ovf a0 a1 = ovf a1 a0 := ovf_eq a1 a0 _ b1 b0 (by rw [ovf_iff a0 a1 b0 b1, Int.add_comm])
    have e3 : (wrap64 (wrap64 (a0 + a1) - a1) != a0) = false := by
      have : wrap64 (wrap64 (a0 + a1) - a1) = a0 := by unfold wrap64; omega
      rw [this]; simp
    have hneg : a1 < 0 → decide (a0 < wrap64 (-9223372036854775808 - a1)) = ovf a0 a1 := by
      intro h
      refine ovf_eq a0 a1 _ b0 b1 ?_
      rw [decide_eq_true_iff]
      unfold wrap64
      omega
    by_cases hm : a1 = -9223372036854775808
    · exact core_min a0 a1 _ _ (tuck rfl) (tuck rfl) (tuck e1) (tuck e2) e3 (by simp [hm]) (by omega) (hneg (by omega)) w
    · refine core a0 a1 _ _ (tuck rfl) (tuck rfl) (tuck e1) (tuck e2) (tuck ?_) (tuck ?_) e3 (by simpa using hm) ?_ w
      · unfold wrap64; omega
      · have hw := wbd (a0 + a1)
        refine ovf_eq _ _ _ hw (wbd _) ?_
        rw [ovf_iff a0 a1 b0 b1]
        unfold wrap64
        omega
      · by_cases hp : 0 < a1
        · refine .inl ⟨hp, ovf_eq a0 a1 _ b0 b1 ?_⟩
          rw [decide_eq_true_iff]
          unfold wrap64
          omega
        · by_cases hn : a1 < 0
          · exact .inr (.inl ⟨hn, hneg hn⟩)
          · refine .inr (.inr ⟨hp, hn, ?_⟩)
            rw [Bool.eq_false_iff]
            intro h
            rw [ovf_iff a0 a1 b0 b1] at h
            omega
  refine key.mono fun e w' ⟨he, hw⟩ => ⟨he, ?_⟩
  subst hw
  exact Grown.refl _

/-! ### THE ROW's STEP: WRITTEN OUT: LEAVE IT -/
set_option maxRecDepth 100000 in
theorem lifted (os : Os) (started : os.Started) (H : Type) (enc : TypeId × Value → H) :
    ReturnsInHanded {} Try.checked os 3 .any (Rows.fnAddInt64UndoAndOverflowSpec.pre6 enc Try.prog Try.f3 Rows.fnAddInt64UndoAndOverflowRow.domain false) (Rows.fnAddInt64UndoAndOverflowSpec.post enc Try.prog Try.f3 false true false false) := by
  refine returnsInHanded_of_change (C := Try.checked) own started (by kernel_rfl) Try.func3
    (ChangeSpec.witness6 (enc := enc) (C := Try.checked) false ⟨#[], #[.int .i64 0, .int .i64 0], []⟩ 8 (by kernel_rfl) (by kernel_rfl) (by kernel_rfl) (by kernel_rfl)) ?_
  intro W base args ds gs before hval0 hW hcnd _
  have hval : ∀ (j : Nat) t v, Try.f3.params[j]? = some t → args[j]? = some v → Value.okWide Try.prog W .any base t v := hval0
  have hW' := hW
  obtain ⟨p, q, hA0, hV, rfl, hfz, hnd⟩ := hW
  have hA : DataW.TrodAll enc Try.prog W 0 (fun _ => true) true Try.f3.params.toList args.toList ds p := hA0
  rw [Try.params3] at hA hval
  obtain ⟨v0, vs0, d0, ds0, p0, q0, hargs, rfl, rfl, h0, r0⟩ := trodAll_cons hA
  obtain ⟨v1, vs1, d1, ds1, p1, q1, rfl, rfl, rfl, h1, r1⟩ := trodAll_cons r0
  obtain ⟨rfl, rfl, rfl⟩ := trodAll_nil r1
  obtain rfl : args = #[v0, v1] := by cases args; simp_all
  obtain ⟨rfl, rfl⟩ := trodVars_none hV
  obtain ⟨a0, rfl, rfl, rfl, w0⟩ := open_int Try.underlying2 (hval 0 2 v0 rfl rfl) h0
  obtain ⟨a1, rfl, rfl, rfl, w1⟩ := open_int Try.underlying2 (hval 1 2 v1 rfl rfl) h1
  clear hA0 hval0
  simp only [List.append_nil] at hW'
  refine (walk a0 a1 w0 w1 W).mono fun e W' ⟨he, hg⟩ => ?_
  subst he
  exact ⟨_, rfl, post_of_same (pa := []) (pv := []) hW' (fun _ _ _ => (trodAll_cons_mk (shut_bool Try.underlying4 _) trodAll_mk0)) (fun sp _ => (trodAll_cons_mk (shut_int Try.underlying2 w0) (trodAll_cons_mk (shut_int Try.underlying2 w1) trodAll_mk0))) (fun _ _ => rfl) rfl
    (hg.frame _) hg.2.1 (ok_one (by kernel_rfl) rfl (okWide_bool_mk Try.underlying4 _))⟩

theorem over : Rows.fnAddInt64UndoAndOverflowRow.holds Try.pinned (OpenSpec.ofChange Rows.fnAddInt64UndoAndOverflowSpec) :=
  OpenClaim.holds_of_wide 3 Try.f3 rfl rfl rfl rfl rfl rfl rfl ⟨rfl, rfl, rfl, rfl, rfl⟩ rfl rfl rfl rfl rfl (by kernel_rfl) Try.func3 (by kernel_rfl)
    (of_decide_eq_true (by kernel_rfl)) (by unfold Func.isWrapper; first | (rw [if_pos (by decide +kernel)]; kernel_rfl) | (rw [if_neg (by decide +kernel)]; exact ⟨rfl, rfl⟩))
    (fun os started H enc _ => lifted os started H enc)

/-- ████ THE STATEMENT ████ -/
theorem proved : Rows.FnAddInt64UndoAndOverflowSaid :=
  over
end Go.Proofs.Qxb6614458a.fnAddInt64UndoAndOverflow
