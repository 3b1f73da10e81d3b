/- THE PROOF OF 'Rows.FnSpaceOfJoinAtAnyCutSaid': the given shell's frame, its walk filled. -/
import Derived.Test.Qxb6614723aRows
import Derived.Test.Qxb6614723aLawW
import Derived.WalkKit
import Derived.ProofKit
import Derived.OpenShut
import Derived.ShutString
import Derived.ChangeOld
import Derived.Below
namespace Go.Proofs.Qxb6614723a.fnSpaceOfJoinAtAnyCut
open Go.ChangeShapes Go.WideShapes Go.ChangeAt Go.RowKit
open Go.ChangeMaps (open_string shut_string)
set_option linter.unusedVariables false

theorem own : ownKnob Try.prog.godebug = none := by kernel_rfl
theorem laidOut : laidOutB Try.prog = true := by kernel_rfl

/-- WHAT THE WALK IS TOLD OF A SLICE OF INTEGERS THAT CAME IN: it is nil; or it leads to a row of 'cap' cells, the numbers 'zs' (the first 'len' are its elements, the rest its spare room), each fitting its kind. -/
def IsRow (k : IntKind) (w : World) (a : Option Addr) (len cap : Nat) (zs : List Int) : Prop :=
  (a = none ∧ len = 0 ∧ cap = 0 ∧ zs = []) ∨
  ∃ x, a = some x ∧ len ≤ cap ∧ cap ≤ maxLen ∧ zs.length = cap ∧ (∀ i, i < zs.length → w.cell? (x.add i) = some (.int k (zs.getD i 0))) ∧ ∀ n ∈ zs, (Lit.int k n).wf = true

/-! ### THE PLAIN LAW: where white space ends, in a text and in a join. -/
open WsParts in
theorem lead_ex (f : Nat → Int) (n : Nat) : ∃ r, IsLead f n r := by
  induction n with
  | zero => exact ⟨0, Nat.le_refl _, fun i hi => by omega, fun h => by omega⟩
  | succ n ih =>
    obtain ⟨r, h1, h2, h3⟩ := ih
    by_cases h : r < n
    · exact ⟨r, by omega, h2, fun _ => h3 h⟩
    · obtain rfl : r = n := by omega
      cases hw : wsB (f r)
      · exact ⟨r, by omega, h2, fun _ => hw⟩
      · refine ⟨r + 1, Nat.le_refl _, fun i hi => ?_, fun h => by omega⟩
        by_cases e : i = r
        · subst e; exact hw
        · exact h2 i (by omega)

open WsParts in
theorem allW_of (f : Nat → Int) (n : Nat) (h : ∀ i, i < n → wsB (f i) = true) : allW f n = true := by
  induction n with
  | zero => rfl
  | succ n ih => unfold allW; rw [ih (fun i hi => h i (by omega)), h n (by omega)]; rfl

open WsParts in
theorem lead_white (f g : Nat → Int) (n m r : Nat) (h : ∀ i, i < n → wsB (f i) = true) (hr : IsLead g m r) : IsLead (cat f g n) (n + m) (n + r) := by
  obtain ⟨h1, h2, h3⟩ := hr
  refine ⟨by omega, fun i hi => ?_, fun hlt => ?_⟩
  · unfold cat
    by_cases e : i < n
    · rw [if_pos e]; exact h i e
    · rw [if_neg e]; exact h2 _ (by omega)
  · unfold cat
    rw [if_neg (by omega), Nat.add_sub_cancel_left]
    exact h3 (by omega)

open WsParts in
theorem lead_stop (f g : Nat → Int) (n m r : Nat) (hr : IsLead f n r) (hlt : r < n) : IsLead (cat f g n) (n + m) r := by
  obtain ⟨h1, h2, h3⟩ := hr
  refine ⟨by omega, fun i hi => ?_, fun _ => ?_⟩
  · unfold cat
    rw [if_pos (by omega)]; exact h2 i hi
  · unfold cat
    rw [if_pos hlt]; exact h3 hlt

/-! ### STEP 1: THE WALK, out of the parts. -/
open WsParts in
theorem out_a (a b : Option Addr) (la ca lb cb : Nat) (w : World) (h : 1048576 < la) :
    Calls Try.prog 3 #[.slice a la ca, .slice b lb cb] w fun e w' => e = .returned (.bool true) ∧ Below w.heap.size w w' := by
  go_enter Try.func3, Try.ntmps3
  go_wp2_with fail
  refine (bytes5_any _ _ _ _ _ _ _).mono ?_
  rintro e w' ⟨rfl | ⟨rfl, _⟩, rfl⟩
  all_goals
    go_wp2
    go_ret
    exact ⟨rfl, Below.refl _ _⟩

open WsParts in
theorem out_b (a b : Option Addr) (la ca lb cb : Nat) (w : World) (h : la ≤ 1048576) (h2 : 1048576 < la + lb) :
    Calls Try.prog 3 #[.slice a la ca, .slice b lb cb] w fun e w' => e = .returned (.bool true) ∧ Below w.heap.size w w' := by
  go_enter Try.func3, Try.ntmps3
  go_wp2_with fail
  refine (bytes5_any _ _ _ _ _ _ _).mono ?_
  rintro e w' ⟨rfl | ⟨rfl, _⟩, rfl⟩
  all_goals
    go_wp2
    go_ret
    exact ⟨rfl, Below.refl _ _⟩

open WsParts in
theorem row_view {w : World} {x : Addr} {len cap : Nat} {zs : List Int} (hlc : len ≤ cap) (hz : zs.length = cap) (hc : ∀ i, i < zs.length → w.cell? (x.add i) = some (.int .u8 (zs.getD i 0))) :
    BV w (some x) len (fun i => zs.getD i 0) := by
  by_cases h : len = 0
  · exact .inl h
  · obtain ⟨b, off, rfl, hcell⟩ := ints_at hc (by omega)
    exact .inr ⟨b, off, rfl, World.block_lt_of_cell? w ⟨b, off + 0, none⟩ (hcell 0 (by omega)), fun i hi => hcell i (by omega)⟩

open WsParts in
theorem walk (a0 : Option Addr) (len0 cap0 : Nat) (z0 : List Int) (a1 : Option Addr) (len1 cap1 : Nat) (z1 : List Int) (w : World) (w0 : IsRow .u8 w a0 len0 cap0 z0) (w1 : IsRow .u8 w a1 len1 cap1 z1) :
    Calls Try.prog 3 #[.slice a0 len0 cap0, .slice a1 len1 cap1] w fun e w' => e = .returned (.bool true) ∧ Below w.heap.size w w' := by
  by_cases h1 : 1048576 < len0
  · exact out_a a0 a1 len0 cap0 len1 cap1 w h1
  by_cases h2 : 1048576 < len0 + len1
  · exact out_b a0 a1 len0 cap0 len1 cap1 w (by omega) h2
  have hva : BV w a0 len0 (fun i => z0.getD i 0) := by
    rcases w0 with ⟨rfl, rfl, rfl, rfl⟩ | ⟨x, rfl, hlc, hm, hz, hc, _⟩
    · exact .inl rfl
    · exact row_view hlc hz hc
  have hvb : BV w a1 len1 (fun i => z1.getD i 0) := by
    rcases w1 with ⟨rfl, rfl, rfl, rfl⟩ | ⟨x, rfl, hlc, hm, hz, hc, _⟩
    · exact .inl rfl
    · exact row_view hlc hz hc
  have na : a0 = none → len0 = 0 ∧ cap0 = 0 := by
    rcases w0 with ⟨rfl, rfl, rfl, rfl⟩ | ⟨x, rfl, _⟩
    · exact fun _ => ⟨rfl, rfl⟩
    · intro h; cases h
  have nb : a1 = none → len1 = 0 ∧ cap1 = 0 := by
    rcases w1 with ⟨rfl, rfl, rfl, rfl⟩ | ⟨x, rfl, _⟩
    · exact fun _ => ⟨rfl, rfl⟩
    · intro h; cases h
  clear w0 w1
  generalize (fun i => z0.getD i 0) = f at hva
  generalize (fun i => z1.getD i 0) = g at hvb
  obtain ⟨ra, hra⟩ := lead_ex f len0
  obtain ⟨rb, hrb⟩ := lead_ex g len1
  by_cases hr : ra < len0
  · have hA := allW_stop f ra len0 hr (hra.2.2 hr)
    have hab := lead_stop f g len0 len1 ra hra hr
    cases a0 with
    | none => have := na rfl; omega
    | some xa =>
      cases a1 with
      | none =>
        obtain ⟨rfl, rfl⟩ := nb rfl
        exact law_sn_x xa len0 cap0 f g ra rb w (by omega) hrb.1 (tuck hva) (tuck hvb) hr (tuck hA) (tuck hra) (tuck hrb) (tuck hab)
      | some xb => exact law_ss_x xa len0 cap0 xb len1 cap1 f g ra rb w (by omega) hrb.1 (tuck hva) (tuck hvb) hr (tuck hA) (tuck hra) (tuck hrb) (tuck hab)
  · obtain rfl : ra = len0 := by have := hra.1; omega
    have hA := allW_of f ra hra.2.1
    have hab := lead_white f g ra len1 rb hra.2.1 hrb
    cases a0 with
    | none =>
      obtain ⟨rfl, rfl⟩ := na rfl
      cases a1 with
      | none =>
        obtain ⟨rfl, rfl⟩ := nb rfl
        exact law_nn_w f g rb w (by omega) hrb.1 (tuck hva) (tuck hvb) (tuck hA) (tuck hra) (tuck hrb) (tuck hab)
      | some xb =>
        rw [Nat.zero_add, Nat.zero_add] at hab
        exact law_ns_w xb len1 cap1 f g rb w (by omega) hrb.1 (tuck hva) (tuck hvb) (tuck hA) (tuck hra) (tuck hrb) (tuck hab)
    | some xa =>
      cases a1 with
      | none =>
        obtain ⟨rfl, rfl⟩ := nb rfl
        exact law_sn_w xa ra cap0 f g rb w (by omega) hrb.1 (tuck hva) (tuck hvb) (tuck hA) (tuck hra) (tuck hrb) (tuck hab)
      | some xb => exact law_ss_w xa ra cap0 xb len1 cap1 f g rb w (by omega) hrb.1 (tuck hva) (tuck hvb) (tuck hA) (tuck hra) (tuck hrb) (tuck hab)

/-! ### THE ROW's STEP: WRITTEN OUT: LEAVE IT -/
set_option maxRecDepth 100000 in
theorem lifted (os : Os) (started : os.Started) (H : Type) (enc : TypeId × Value → H) :
    ReturnsInHanded {} Try.checked os 3 .any (Rows.fnSpaceOfJoinAtAnyCutSpec.pre6 enc Try.prog Try.f3 Rows.fnSpaceOfJoinAtAnyCutRow.domain false) (Rows.fnSpaceOfJoinAtAnyCutSpec.post enc Try.prog Try.f3 false true false false) := by
  refine returnsInHanded_of_change (C := Try.checked) own started (by kernel_rfl) Try.func3
    (ChangeSpec.witness6 (enc := enc) (C := Try.checked) false ⟨#[], #[.slice none 0 0, .slice none 0 0], []⟩ 8 (by kernel_rfl) (by kernel_rfl) (by kernel_rfl) (by kernel_rfl)) ?_
  intro W base args ds gs before hval0 hW hcnd _
  have hval : ∀ (j : Nat) t v, Try.f3.params[j]? = some t → args[j]? = some v → Value.okWide Try.prog W .any base t v := hval0
  have hW' := hW
  obtain ⟨p, q, hA0, hV, rfl, hfz, hnd⟩ := hW
  have hA : DataW.TrodAll enc Try.prog W 0 (fun _ => true) true Try.f3.params.toList args.toList ds p := hA0
  rw [Try.params3] at hA hval
  obtain ⟨v0, vs0, d0, ds0, p0, q0, hargs, rfl, rfl, h0, r0⟩ := trodAll_cons hA
  obtain ⟨v1, vs1, d1, ds1, p1, q1, rfl, rfl, rfl, h1, r1⟩ := trodAll_cons r0
  obtain ⟨rfl, rfl, rfl⟩ := trodAll_nil r1
  obtain rfl : args = #[v0, v1] := by cases args; simp_all
  obtain ⟨rfl, rfl⟩ := trodVars_none hV
  obtain ⟨a0, len0, cap0, rfl⟩ := okWide_slice Try.underlying22 (hval 0 22 v0 rfl rfl)
  have k0 := h0
  have lt0 : ∀ x ∈ p0, x.block < W.heap.size := by obtain ⟨m, hm⟩ := k0; exact DataW.trod_lt m _ _ _ hm
  obtain ⟨z0, w0⟩ : ∃ zs, IsRow .u8 W a0 len0 cap0 zs := by
    obtain ⟨fuel, hf⟩ := h0
    rcases open_ints Try.underlying22 Try.underlying5 (by kernel_rfl) hf with ⟨hcs, _⟩ | ⟨x, l, c, zs, hcs, _, hl, hm, hz, _, hcell, hwz⟩
    · simp [Value.cells] at hcs
      obtain ⟨rfl, rfl, rfl⟩ := hcs
      exact ⟨[], .inl ⟨rfl, rfl, rfl, rfl⟩⟩
    · simp [Value.cells] at hcs
      obtain ⟨rfl, rfl, rfl⟩ := hcs
      exact ⟨zs, .inr ⟨_, rfl, hl, hm, by simpa using hz, hcell, hwz⟩⟩
  obtain ⟨a1, len1, cap1, rfl⟩ := okWide_slice Try.underlying22 (hval 1 22 v1 rfl rfl)
  have k1 := h1
  have lt1 : ∀ x ∈ p1, x.block < W.heap.size := by obtain ⟨m, hm⟩ := k1; exact DataW.trod_lt m _ _ _ hm
  obtain ⟨z1, w1⟩ : ∃ zs, IsRow .u8 W a1 len1 cap1 zs := by
    obtain ⟨fuel, hf⟩ := h1
    rcases open_ints Try.underlying22 Try.underlying5 (by kernel_rfl) hf with ⟨hcs, _⟩ | ⟨x, l, c, zs, hcs, _, hl, hm, hz, _, hcell, hwz⟩
    · simp [Value.cells] at hcs
      obtain ⟨rfl, rfl, rfl⟩ := hcs
      exact ⟨[], .inl ⟨rfl, rfl, rfl, rfl⟩⟩
    · simp [Value.cells] at hcs
      obtain ⟨rfl, rfl, rfl⟩ := hcs
      exact ⟨zs, .inr ⟨_, rfl, hl, hm, by simpa using hz, hcell, hwz⟩⟩
  clear hA0 hval0
  refine (walk a0 len0 cap0 z0 a1 len1 cap1 z1 W w0 w1).mono fun e W' ⟨he, bel⟩ => ?_
  subst he
  exact ⟨_, rfl, _, _, _, [], _, [], hW', trodAll_mk1 (shut_bool Try.underlying4 _), (trodAll_cons_mk (Below.trod laidOut (by kernel_rfl) (of_decide_eq_true (by kernel_rfl)) k0 bel lt0) (trodAll_cons_mk (Below.trod laidOut (by kernel_rfl) (of_decide_eq_true (by kernel_rfl)) k1 bel lt1) trodAll_mk0)), rfl, bel.frame _, fun h => by cases h⟩

theorem over : Rows.fnSpaceOfJoinAtAnyCutRow.holds Try.pinned (OpenSpec.ofChange Rows.fnSpaceOfJoinAtAnyCutSpec) :=
  OpenClaim.holds_of_wide 3 Try.f3 rfl rfl rfl rfl rfl rfl rfl ⟨rfl, rfl, rfl, rfl, rfl⟩ rfl rfl rfl rfl rfl (by kernel_rfl) Try.func3 (by kernel_rfl)
    (of_decide_eq_true (by kernel_rfl)) (by unfold Func.isWrapper; first | (rw [if_pos (by decide +kernel)]; kernel_rfl) | (rw [if_neg (by decide +kernel)]; exact ⟨rfl, rfl⟩))
    (fun os started H enc _ => lifted os started H enc)

/-- ████ THE STATEMENT ████ -/
theorem proved : Rows.FnSpaceOfJoinAtAnyCutSaid := over
end Go.Proofs.Qxb6614723a.fnSpaceOfJoinAtAnyCut
