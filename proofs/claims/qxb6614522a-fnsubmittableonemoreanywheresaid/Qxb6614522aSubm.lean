/- Submittable over a row of Results that the call's caller made. -/
import Derived.Test.Qxb6614522aRes
namespace Go.Proofs.Qxb6614522a.SubmParts
open Go.RowKit

theorem res_alloc {w : World} {base g n : Nat} {f : Nat → Int} (h : ResRow w base g n f) (o : Obj) : ResRow (w.alloc o) base g n f := by
  obtain ⟨xs, ho, hx⟩ := h
  exact ⟨xs, ho.alloc o, hx⟩

theorem subm_any (base g n : Nat) (f : Nat → Int) (w : World) (hl : n ≤ 65537) (hr : ResRow w base g n f) :
    Calls Try.prog 8 #[.slice (some ⟨g, 0, none⟩) n n] w fun e w' => e = .returned (.bool (allP f n)) ∧ Below w.heap.size w w' := by
  have HR : Hid (ResRow w base g n f) := hr
  clear hr
  go_enter Try.func8, Try.ntmps8
  go_wp2
  go_loopw [7] (fun i wr => ∃ k : Nat, k ≤ n ∧ i = .int .i64 k ∧ ResRow wr base g n f ∧ Below w.heap.size w wr ∧ allP f k = true) (fun i _ => n - (intOf i).toNat)
  case atStart => exact ⟨0, Nat.zero_le _, rfl, HR.out, Below.refl _ _, rfl⟩
  case round =>
    obtain ⟨k, hk, rfl, hrow, hbel, hP⟩ := hrel
    have HP : Hid (allP f k = true) := hP
    clear hP HR
    by_cases hlt : k < n
    · obtain ⟨h0, h1, h2, h3, h4⟩ := res_cell hrow k hlt
      have HRow : Hid (ResRow wr base g n f) := hrow
      clear hrow
      cases hp : pss (f k)
      · go_wp2_with (go_at_call 12; refine (blocks_any _ _).mono ?_; rintro e w' ⟨rfl, rfl⟩; rw [hp])
        go_ret
        exact ⟨ret_bool (allP_stop f k n hlt hp).symm, hbel.alloc hbel.size _⟩
      · go_wp2_with (go_at_call 12; refine (blocks_any _ _).mono ?_; rintro e w' ⟨rfl, rfl⟩; rw [hp])
        go_roundw
        case rel => exact ⟨k + 1, by omega, by go_num, res_alloc HRow.out _, hbel.alloc hbel.size _, by unfold allP; rw [HP.out, hp]; rfl⟩
        case measure => simp [intOf]; omega
    · go_wp2
      go_ret
      exact ⟨ret_bool (by rw [show n = k from by omega]; exact HP.out.symm), hbel⟩

end Go.Proofs.Qxb6614522a.SubmParts
