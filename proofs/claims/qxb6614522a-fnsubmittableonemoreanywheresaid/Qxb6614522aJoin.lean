/- The law 'join at any cut': its walk, the calls by their contracts. -/
import Derived.Test.Qxb6614522aView
namespace Go.Proofs.Qxb6614522a.SubmParts
open Go.RowKit

theorem tuckv {p : Prop} (h : p) : Hid p := h

theorem subm_o (base g n : Nat) (f : Nat → Int) (o : Bool) (w : World) (hl : n ≤ 65537) (hr : Hid (ResRow w base g n f)) (ho : Hid (allP f n = o)) :
    Calls Try.prog 8 #[.slice (some ⟨g, 0, none⟩) n n] w fun e w' => e = .returned (.bool o) ∧ Below w.heap.size w w' := by
  rw [← ho.out]
  exact subm_any base g n f w hl hr.out

theorem allpass_o (a : Option Addr) (len cap : Nat) (f : Nat → Int) (o : Bool) (w : World) (hl : len ≤ 65537) (hv : Hid (View w a len f)) (ho : Hid (allP f len = o)) :
    Calls Try.prog 10 #[.slice a len cap] w fun e w' => e = .returned (.bool o) ∧ w' = w := by
  rw [← ho.out]
  exact allpass_view a len cap f w hl hv

/-- The whole list, its left part and its right part, each given its answer. The cut lies inside the array. -/
theorem join_in (b off len cap cut : Nat) (f : Nat → Int) (l r o : Bool) (w : World) (hl : len ≤ 65536) (_hlc : len ≤ cap) (hcap : cap ≤ 9223372036854775807) (hcut : cut ≤ len) (hlt : cut < cap)
    (hv : Hid (View w (some ⟨b, off, none⟩) len f)) (hv1 : ∀ w', Hid (Below w.heap.size w w') → Hid (View w' (some ⟨b, off, none⟩) cut f))
    (hv2 : ∀ w', Hid (Below w.heap.size w w') → Hid (View w' (some ⟨b, off + cut, none⟩) (len - cut) (fun i => f (cut + i))))
    (hW : Hid (allP f len = o)) (hL : Hid (allP f cut = l)) (hR : Hid (allP (fun i => f (cut + i)) (len - cut) = r)) (he : o = (l && r)) :
    Calls Try.prog 3 #[.slice (some ⟨b, off, none⟩) len cap, .int .i64 cut] w fun e w' => e = .returned (.bool true) ∧ Below w.heap.size w w' := by
  cases l <;> cases r <;> simp at he <;> subst he
  all_goals
    go_enter Try.func3, Try.ntmps3
    go_wp2_with fail
    refine (bytes7_small _ _ _ _ _ (by omega)).mono ?_
    rintro e w' ⟨rfl, rfl⟩
    go_wp2_with fail
    refine (results_view _ _ _ f _ (by omega) hv).mono ?_
    rintro e w1 ⟨rfl, hr1, hb1⟩
    go_wp2_with fail
    refine (subm_o _ _ _ f _ _ (by omega) hr1 hW).mono ?_
    rintro e w2 ⟨rfl, hb2⟩
    have HB : Hid (Below w'.heap.size w' w2) := hb1.trans (hb2.mono hb1.size)
    clear hr1 hb1 hb2
    go_wp2_with fail
    refine (results_view _ _ _ f _ (by omega) (hv1 _ HB)).mono ?_
    rintro e w3 ⟨rfl, hr1, hb1⟩
    go_wp2_with fail
    refine (subm_o _ _ _ f _ _ (by omega) hr1 hL).mono ?_
    rintro e w4 ⟨rfl, hb2⟩
    have HB2 : Hid (Below w'.heap.size w' w4) := HB.out.trans ((hb1.trans (hb2.mono hb1.size)).mono HB.out.size)
    clear hr1 hb1 hb2 HB
    go_wp2_with fail
    refine (results_view _ _ _ (fun i => f (cut + i)) _ (by omega) (hv2 _ HB2)).mono ?_
    rintro e w5 ⟨rfl, hr1, hb1⟩
    go_wp2_with fail
    refine (subm_o _ _ _ (fun i => f (cut + i)) _ _ (by omega) hr1 hR).mono ?_
    rintro e w6 ⟨rfl, hb2⟩
    have HB3 : Hid (Below w'.heap.size w' w6) := HB2.out.trans ((hb1.trans (hb2.mono hb1.size)).mono HB2.out.size)
    clear hr1 hb1 hb2 HB2
    go_wp2_with fail
    refine (allpass_o _ _ _ f _ _ (by omega) (tuckv (hv.out.below HB3.out)) hW).mono ?_
    rintro e w7 ⟨rfl, rfl⟩
    go_wp2
    go_ret
    exact ⟨rfl, HB3.out⟩

/-- The cut lies at the array's end: then it is the list's end too. -/
theorem join_end (x : Addr) (cut : Nat) (f : Nat → Int) (o : Bool) (w : World) (hl : cut ≤ 65536)
    (hv : Hid (View w (some x) cut f)) (hv1 : ∀ w', Hid (Below w.heap.size w w') → Hid (View w' (some x) cut f))
    (hv2 : ∀ w', Hid (Below w.heap.size w w') → Hid (View w' (some x) 0 (fun i => f (cut + i))))
    (hW : Hid (allP f cut = o)) (hL : Hid (allP f cut = o)) (hR : Hid (allP (fun i => f (cut + i)) 0 = true)) :
    Calls Try.prog 3 #[.slice (some x) cut cut, .int .i64 cut] w fun e w' => e = .returned (.bool true) ∧ Below w.heap.size w w' := by
  cases o
  all_goals
    go_enter Try.func3, Try.ntmps3
    go_wp2_with fail
    refine (bytes7_small _ _ _ _ _ (by omega)).mono ?_
    rintro e w' ⟨rfl, rfl⟩
    go_wp2_with fail
    refine (results_view _ _ _ f _ (by omega) hv).mono ?_
    rintro e w1 ⟨rfl, hr1, hb1⟩
    go_wp2_with fail
    refine (subm_o _ _ _ f _ _ (by omega) hr1 hW).mono ?_
    rintro e w2 ⟨rfl, hb2⟩
    have HB : Hid (Below w'.heap.size w' w2) := hb1.trans (hb2.mono hb1.size)
    clear hr1 hb1 hb2
    go_wp2_with fail
    refine (results_view _ _ _ f _ (by omega) (hv1 _ HB)).mono ?_
    rintro e w3 ⟨rfl, hr1, hb1⟩
    go_wp2_with fail
    refine (subm_o _ _ _ f _ _ (by omega) hr1 hL).mono ?_
    rintro e w4 ⟨rfl, hb2⟩
    have HB2 : Hid (Below w'.heap.size w' w4) := HB.out.trans ((hb1.trans (hb2.mono hb1.size)).mono HB.out.size)
    clear hr1 hb1 hb2 HB
    go_wp2_with fail
    refine (results_view _ _ _ (fun i => f (cut + i)) _ (by omega) (hv2 _ HB2)).mono ?_
    rintro e w5 ⟨rfl, hr1, hb1⟩
    go_wp2_with fail
    refine (subm_o _ _ _ (fun i => f (cut + i)) _ _ (by omega) hr1 hR).mono ?_
    rintro e w6 ⟨rfl, hb2⟩
    have HB3 : Hid (Below w'.heap.size w' w6) := HB2.out.trans ((hb1.trans (hb2.mono hb1.size)).mono HB2.out.size)
    clear hr1 hb1 hb2 HB2
    go_wp2_with fail
    refine (allpass_o _ _ _ f _ _ (by omega) (tuckv (hv.out.below HB3.out)) hW).mono ?_
    rintro e w7 ⟨rfl, rfl⟩
    go_wp2
    go_ret
    exact ⟨rfl, HB3.out⟩

/-- A nil slice. -/
theorem join_nil (f : Nat → Int) (cut : Nat) (w : World)
    (hv : Hid (View w none 0 f)) (hv1 : ∀ w', Hid (Below w.heap.size w w') → Hid (View w' none 0 f))
    (hv2 : ∀ w', Hid (Below w.heap.size w w') → Hid (View w' none 0 (fun i => f (cut + i))))
    (hW : Hid (allP f 0 = true)) (hL : Hid (allP f 0 = true)) (hR : Hid (allP (fun i => f (cut + i)) 0 = true)) :
    Calls Try.prog 3 #[.slice none 0 0, .int .i64 0] w fun e w' => e = .returned (.bool true) ∧ Below w.heap.size w w' := by
  · skip
    go_enter Try.func3, Try.ntmps3
    go_wp2_with fail
    refine (bytes7_small _ _ _ _ _ (by omega)).mono ?_
    rintro e w' ⟨rfl, rfl⟩
    go_wp2_with fail
    refine (results_view _ _ _ f _ (by omega) hv).mono ?_
    rintro e w1 ⟨rfl, hr1, hb1⟩
    go_wp2_with fail
    refine (subm_o _ _ _ f _ _ (by omega) hr1 hW).mono ?_
    rintro e w2 ⟨rfl, hb2⟩
    have HB : Hid (Below w'.heap.size w' w2) := hb1.trans (hb2.mono hb1.size)
    clear hr1 hb1 hb2
    go_wp2_with fail
    refine (results_view _ _ _ f _ (by omega) (hv1 _ HB)).mono ?_
    rintro e w3 ⟨rfl, hr1, hb1⟩
    go_wp2_with fail
    refine (subm_o _ _ _ f _ _ (by omega) hr1 hL).mono ?_
    rintro e w4 ⟨rfl, hb2⟩
    have HB2 : Hid (Below w'.heap.size w' w4) := HB.out.trans ((hb1.trans (hb2.mono hb1.size)).mono HB.out.size)
    clear hr1 hb1 hb2 HB
    go_wp2_with fail
    refine (results_view _ _ _ (fun i => f (cut + i)) _ (by omega) (hv2 _ HB2)).mono ?_
    rintro e w5 ⟨rfl, hr1, hb1⟩
    go_wp2_with fail
    refine (subm_o _ _ _ (fun i => f (cut + i)) _ _ (by omega) hr1 hR).mono ?_
    rintro e w6 ⟨rfl, hb2⟩
    have HB3 : Hid (Below w'.heap.size w' w6) := HB2.out.trans ((hb1.trans (hb2.mono hb1.size)).mono HB2.out.size)
    clear hr1 hb1 hb2 HB2
    go_wp2_with fail
    refine (allpass_o _ _ _ f _ _ (by omega) (tuckv (hv.out.below HB3.out)) hW).mono ?_
    rintro e w7 ⟨rfl, rfl⟩
    go_wp2
    go_ret
    exact ⟨rfl, HB3.out⟩

/-- Too long, or a cut that lies outside: the law says true at once. -/
theorem join_bytes (a : Option Addr) (len cap : Nat) (c : Int) (w : World) (hl : 1048576 < len) :
    Calls Try.prog 3 #[.slice a len cap, .int .i64 c] w fun e w' => e = .returned (.bool true) ∧ Below w.heap.size w w' := by
  go_enter Try.func3, Try.ntmps3
  go_wp2_with fail
  refine (bytes7_large _ _ _ _ _ hl).mono ?_
  rintro e w' ⟨rfl, rfl⟩
  go_wp2
  go_ret
  exact ⟨rfl, Below.refl _ _⟩

theorem join_long (a : Option Addr) (len cap : Nat) (c : Int) (w : World) (h0 : len ≤ 1048576) (hl : 65536 < len) :
    Calls Try.prog 3 #[.slice a len cap, .int .i64 c] w fun e w' => e = .returned (.bool true) ∧ Below w.heap.size w w' := by
  go_enter Try.func3, Try.ntmps3
  go_wp2_with fail
  refine (bytes7_small _ _ _ _ _ h0).mono ?_
  rintro e w' ⟨rfl, rfl⟩
  go_wp2
  go_ret
  exact ⟨rfl, Below.refl _ _⟩

theorem join_neg (a : Option Addr) (len cap : Nat) (c : Int) (w : World) (h0 : len ≤ 65536) (hl : c < 0) :
    Calls Try.prog 3 #[.slice a len cap, .int .i64 c] w fun e w' => e = .returned (.bool true) ∧ Below w.heap.size w w' := by
  go_enter Try.func3, Try.ntmps3
  go_wp2_with fail
  refine (bytes7_small _ _ _ _ _ (by omega)).mono ?_
  rintro e w' ⟨rfl, rfl⟩
  go_wp2
  go_ret
  exact ⟨rfl, Below.refl _ _⟩

theorem join_past (a : Option Addr) (len cap : Nat) (c : Int) (w : World) (h0 : len ≤ 65536) (hn : ¬ c < 0) (hl : (len : Int) < c) :
    Calls Try.prog 3 #[.slice a len cap, .int .i64 c] w fun e w' => e = .returned (.bool true) ∧ Below w.heap.size w w' := by
  go_enter Try.func3, Try.ntmps3
  go_wp2_with fail
  refine (bytes7_small _ _ _ _ _ (by omega)).mono ?_
  rintro e w' ⟨rfl, rfl⟩
  go_wp2
  go_ret
  exact ⟨rfl, Below.refl _ _⟩

end Go.Proofs.Qxb6614522a.SubmParts
