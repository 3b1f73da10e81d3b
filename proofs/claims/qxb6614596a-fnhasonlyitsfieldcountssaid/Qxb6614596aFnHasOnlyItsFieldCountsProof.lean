/- THE PROOF OF 'Rows.FnHasOnlyItsFieldCountsSaid': the frame after the guide's shells (strings, integers, slices carried by 'Below.trod'), by hand for slices of structs. -/
import Derived.Test.Qxb6614596aRows
import Derived.Test.Qxb6614596aOnlyW
import Derived.Test.Qxb6614596aOnly2
import Derived.Test.Qxb6614596aOpen
import Derived.WalkKit
import Derived.ProofKit
import Derived.OpenShut
import Derived.ShutString
import Derived.ChangeOld
import Derived.Below
namespace Go.Proofs.Qxb6614596a.fnHasOnlyItsFieldCounts
open Go.ChangeShapes Go.WideShapes Go.ChangeAt Go.RowKit
open Go.ChangeMaps (open_string shut_string)
set_option linter.unusedVariables false

theorem own : ownKnob Try.prog.godebug = none := by kernel_rfl
theorem laidOut : laidOutB Try.prog = true := by kernel_rfl

/-! ### STEP 1: THE WALK, out of the parts. -/
open HasParts in
theorem walk (nm : ByteArray) (fa sa ea : Option Addr) (fl fc sl sc el ec : Nat) (need j : Int) (f ex : Nat → Sp) (w : World) (hv : SpView w sa sl f) (hve : SpView w ea el ex) :
    Calls Try.prog 3 #[.string nm, .slice fa fl fc, .int .i64 need, .slice sa sl sc, .int .i64 j, .slice ea el ec] w fun e w' => e = .returned (.bool true) ∧ Below w.heap.size w w' := by
  by_cases h1 : 65536 < nm.size
  · exact only_nm nm fa sa ea fl fc sl sc el ec need j w h1
  by_cases h2 : 8192 < fl
  · exact only_fl nm fa sa ea fl fc sl sc el ec need j w (by omega) h2
  by_cases h3 : 16384 < sl
  · exact only_sl nm fa sa ea fl fc sl sc el ec need j w (by omega) (by omega) h3
  by_cases h4 : 16384 < el
  · exact only_el nm fa sa ea fl fc sl sc el ec need j w (by omega) (by omega) (by omega) h4
  by_cases h5 : need < 0
  · exact only_neg nm fa sa ea fl fc sl sc el ec need j w (by omega) (by omega) (by omega) (by omega) h5
  by_cases h6 : 0 < need
  · by_cases h7 : (sl : Int) / 2 ≤ need
    · exact only_far nm fa sa ea fl fc sl sc el ec need j w (by omega) (by omega) (by omega) (by omega) h6 h7
    by_cases h8 : j < 0
    · exact only_jnegp nm fa sa ea fl fc sl sc el ec need j w (by omega) (by omega) (by omega) (by omega) h6 (by omega) h8
    by_cases h9 : (sl : Int) ≤ j
    · exact only_jfarp nm fa sa ea fl fc sl sc el ec need j w (by omega) (by omega) (by omega) (by omega) h6 (by omega) h8 h9
    by_cases h10 : j / 2 = need
    · exact only_jin nm fa sa ea fl fc sl sc el ec need j w (by omega) (by omega) (by omega) (by omega) h6 (by omega) (by omega) (by omega) (by simp [h10])
    obtain ⟨nd, rfl⟩ : ∃ c : Nat, need = (c : Int) := ⟨need.toNat, by omega⟩
    obtain ⟨jn, rfl⟩ : ∃ c : Nat, j = (c : Int) := ⟨j.toNat, by omega⟩
    have hF : ((jn : Int) / 2 == (nd : Int)) = false := by simp; omega
    rcases hv with hv | ⟨b, off, rfl, hb, hc⟩
    · omega
    · have hh := held_chg nd sl jn f ex (.inr ⟨by omega, by omega⟩) (fun _ => by omega)
      rcases hve with rfl | ⟨be, oe, rfl, hbe, hce⟩
      · exact only_pos_non nm fa fl fc nd b off sl sc jn ea ec f ex _ w (by omega) (by omega) (by omega) hb (by omega) (tuck hc) (by omega) (by omega) hF (tuck rfl) (tuck hh)
      · exact only_pos_ext nm fa fl fc nd b off sl sc jn be oe el ec f ex _ w (by omega) (by omega) (by omega) hb (by omega) (by omega) (tuck hc) (by omega) (by omega) hF hbe (tuck hce) (tuck rfl) (tuck hh)
  · obtain rfl : need = 0 := by omega
    by_cases h8 : j < 0
    · exact only_jnegz nm fa sa ea fl fc sl sc el ec j w (by omega) (by omega) (by omega) (by omega) h8
    by_cases h9 : (sl : Int) ≤ j
    · exact only_jfarz nm fa sa ea fl fc sl sc el ec j w (by omega) (by omega) (by omega) (by omega) h8 h9
    obtain ⟨jn, rfl⟩ : ∃ c : Nat, j = (c : Int) := ⟨j.toNat, by omega⟩
    rcases hv with hv | ⟨b, off, rfl, hb, hc⟩
    · omega
    · rcases hve with rfl | ⟨be, oe, rfl, hbe, hce⟩
      · exact only_zero_non nm fa fl fc b off sl sc jn ea ec f ex _ w (by omega) (by omega) (by omega) hb (by omega) (tuck hc) (tuck rfl) (tuck rfl)
      · exact only_zero_ext nm fa fl fc b off sl sc jn be oe el ec f ex _ w (by omega) (by omega) (by omega) hb (by omega) (by omega) (tuck hc) hbe (tuck hce) (tuck rfl) (tuck rfl)

/-! ### THE ROW's STEP -/
set_option maxRecDepth 100000 in
theorem lifted (os : Os) (started : os.Started) (H : Type) (enc : TypeId × Value → H) :
    ReturnsInHanded {} Try.checked os 3 .any (Rows.fnHasOnlyItsFieldCountsSpec.pre6 enc Try.prog Try.f3 Rows.fnHasOnlyItsFieldCountsRow.domain false) (Rows.fnHasOnlyItsFieldCountsSpec.post enc Try.prog Try.f3 false true false false) := by
  refine returnsInHanded_of_change (C := Try.checked) own started (by kernel_rfl) Try.func3
    (ChangeSpec.witness6 (enc := enc) (C := Try.checked) false ⟨#[], #[.string ByteArray.empty, .slice none 0 0, .int .i64 0, .slice none 0 0, .int .i64 0, .slice none 0 0], []⟩ 8 (by kernel_rfl) (by kernel_rfl) (by kernel_rfl) (by kernel_rfl)) ?_
  intro W base args ds gs before hval0 hW hcnd _
  have hval : ∀ (j : Nat) t v, Try.f3.params[j]? = some t → args[j]? = some v → Value.okWide Try.prog W .any base t v := hval0
  have hW' := hW
  obtain ⟨p, q, hA0, hV, rfl, hfz, hnd⟩ := hW
  have hA : DataW.TrodAll enc Try.prog W 0 (fun _ => true) true Try.f3.params.toList args.toList ds p := hA0
  rw [Try.params3] at hA hval
  obtain ⟨v0, vs0, d0, ds0, p0, q0, hargs, rfl, rfl, h0, r0⟩ := trodAll_cons hA
  obtain ⟨v1, vs1, d1, ds1, p1, q1, rfl, rfl, rfl, h1, r1⟩ := trodAll_cons r0
  obtain ⟨v2, vs2, d2, ds2, p2, q2, rfl, rfl, rfl, h2, r2⟩ := trodAll_cons r1
  obtain ⟨v3, vs3, d3, ds3, p3, q3, rfl, rfl, rfl, h3, r3⟩ := trodAll_cons r2
  obtain ⟨v4, vs4, d4, ds4, p4, q4, rfl, rfl, rfl, h4, r4⟩ := trodAll_cons r3
  obtain ⟨v5, vs5, d5, ds5, p5, q5, rfl, rfl, rfl, h5, r5⟩ := trodAll_cons r4
  obtain ⟨rfl, rfl, rfl⟩ := trodAll_nil r5
  obtain rfl : args = #[v0, v1, v2, v3, v4, v5] := by cases args; simp_all
  obtain ⟨rfl, rfl⟩ := trodVars_none hV
  obtain ⟨a0, rfl, rfl, rfl, w0⟩ := open_string Try.underlying9 (hval 0 9 v0 rfl rfl) h0
  obtain ⟨a1, len1, cap1, rfl⟩ := okWide_slice Try.underlying22 (hval 1 22 v1 rfl rfl)
  have k1 := h1
  have lt1 : ∀ x ∈ p1, x.block < W.heap.size := by obtain ⟨m, hm⟩ := k1; exact DataW.trod_lt m _ _ _ hm
  obtain ⟨a2, rfl, rfl, rfl, w2⟩ := open_int Try.underlying3 (hval 2 3 v2 rfl rfl) h2
  obtain ⟨a3, len3, cap3, rfl⟩ := okWide_slice Try.underlying23 (hval 3 23 v3 rfl rfl)
  have k3 := h3
  have lt3 : ∀ x ∈ p3, x.block < W.heap.size := by obtain ⟨m, hm⟩ := k3; exact DataW.trod_lt m _ _ _ hm
  obtain ⟨f, hv3⟩ : ∃ f, HasParts.SpView W a3 len3 f := by
    obtain ⟨fuel, hf⟩ := h3
    exact (HasParts.open_spans (by simpa [Value.cells] using hf)).2
  obtain ⟨a4, rfl, rfl, rfl, w4⟩ := open_int Try.underlying3 (hval 4 3 v4 rfl rfl) h4
  obtain ⟨a5, len5, cap5, rfl⟩ := okWide_slice Try.underlying23 (hval 5 23 v5 rfl rfl)
  have k5 := h5
  have lt5 : ∀ x ∈ p5, x.block < W.heap.size := by obtain ⟨m, hm⟩ := k5; exact DataW.trod_lt m _ _ _ hm
  obtain ⟨ex, hv5⟩ : ∃ f, HasParts.SpView W a5 len5 f := by
    obtain ⟨fuel, hf⟩ := h5
    exact (HasParts.open_spans (by simpa [Value.cells] using hf)).2
  clear hA0 hval0
  refine (walk a0 a1 a3 a5 len1 cap1 len3 cap3 len5 cap5 a2 a4 f ex W hv3 hv5).mono fun e W' ⟨he, bel⟩ => ?_
  subst he
  exact ⟨_, rfl, _, _, _, [], _, [], hW', trodAll_mk1 (shut_bool Try.underlying4 _), (trodAll_cons_mk (shut_string Try.underlying9 w0) (trodAll_cons_mk (Below.trod laidOut (by kernel_rfl) (of_decide_eq_true (by kernel_rfl)) k1 bel lt1) (trodAll_cons_mk (shut_int Try.underlying3 w2) (trodAll_cons_mk (Below.trod laidOut (by kernel_rfl) (of_decide_eq_true (by kernel_rfl)) k3 bel lt3) (trodAll_cons_mk (shut_int Try.underlying3 w4) (trodAll_cons_mk (Below.trod laidOut (by kernel_rfl) (of_decide_eq_true (by kernel_rfl)) k5 bel lt5) trodAll_mk0)))))), rfl, bel.frame _, fun h => by cases h⟩

theorem over : Rows.fnHasOnlyItsFieldCountsRow.holds Try.pinned (OpenSpec.ofChange Rows.fnHasOnlyItsFieldCountsSpec) :=
  OpenClaim.holds_of_wide 3 Try.f3 rfl rfl rfl rfl rfl rfl rfl ⟨rfl, rfl, rfl, rfl, rfl⟩ rfl rfl rfl rfl rfl (by kernel_rfl) Try.func3 (by kernel_rfl)
    (of_decide_eq_true (by kernel_rfl)) (by unfold Func.isWrapper; first | (rw [if_pos (by decide +kernel)]; kernel_rfl) | (rw [if_neg (by decide +kernel)]; exact ⟨rfl, rfl⟩))
    (fun os started H enc _ => lifted os started H enc)

/-- ████ THE STATEMENT ████ -/
theorem proved : Rows.FnHasOnlyItsFieldCountsSaid := over
end Go.Proofs.Qxb6614596a.fnHasOnlyItsFieldCounts
