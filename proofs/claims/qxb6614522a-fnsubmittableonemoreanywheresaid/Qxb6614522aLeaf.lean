/- Contracts of the functions that only compute or read: Blocks, zzPasses, the two zzBytes_.., zzAllPass. -/
import Derived.Test.Qxb6614522aRows
import Derived.WalkKit
import Derived.WalkSpells
namespace Go.Proofs.Qxb6614522a.SubmParts
open Go.RowKit

/-- The statuses that let a change through. -/
def pss (z : Int) : Bool := z == 1 || z == 3 || z == 4

theorem pss_cases (z : Int) : ((z == 1) = true ∧ pss z = true) ∨ ((z == 1) = false ∧ (z == 3) = true ∧ pss z = true) ∨ ((z == 1) = false ∧ (z == 3) = false ∧ (z == 4) = true ∧ pss z = true) ∨
    ((z == 1) = false ∧ (z == 3) = false ∧ (z == 4) = false ∧ pss z = false) := by
  unfold pss
  cases h1 : (z == 1) <;> cases h3 : (z == 3) <;> cases h4 : (z == 4) <;> simp

theorem ret_bool {a b : Bool} (h : a = b) : Ending.returned (.bool a) = .returned (.bool b) := by rw [h]

theorem passes_any (z : Int) (w : World) :
    Calls Try.prog 13 #[.int .i64 z] w fun e w' => e = .returned (.bool (pss z)) ∧ w' = w := by
  rcases pss_cases z with ⟨h1, hp⟩ | ⟨h1, h3, hp⟩ | ⟨h1, h3, h4, hp⟩ | ⟨h1, h3, h4, hp⟩ <;> rw [hp] <;> clear hp
  all_goals
    go_enter Try.func13, Try.ntmps13
    go_wp2
    go_ret
    exact ⟨rfl, rfl⟩

theorem blocks_any (z : Int) (w : World) :
    Calls Try.prog 12 #[.int .i64 z] w fun e w' => e = .returned (.bool (!pss z)) ∧ w' = w := by
  rcases pss_cases z with ⟨h1, hp⟩ | ⟨h1, h3, hp⟩ | ⟨h1, h3, h4, hp⟩ | ⟨h1, h3, h4, hp⟩ <;> rw [hp] <;> clear hp
  all_goals
    go_enter Try.func12, Try.ntmps12
    go_wp2
    go_ret
    exact ⟨rfl, rfl⟩

/-- The bound on the total length that was laid by program: 1 << 20. -/
theorem bytes7_small (a : Option Addr) (len cap : Nat) (c : Int) (w : World) (h : len ≤ 1048576) :
    Calls Try.prog 7 #[.slice a len cap, .int .i64 c] w fun e w' => e = .returned (.bool true) ∧ w' = w := by
  go_enter Try.func7, Try.ntmps7
  go_wp2
  go_ret
  exact ⟨rfl, rfl⟩
theorem bytes7_large (a : Option Addr) (len cap : Nat) (c : Int) (w : World) (h : 1048576 < len) :
    Calls Try.prog 7 #[.slice a len cap, .int .i64 c] w fun e w' => e = .returned (.bool false) ∧ w' = w := by
  go_enter Try.func7, Try.ntmps7
  go_wp2
  go_ret
  exact ⟨rfl, rfl⟩
theorem bytes11_small (a : Option Addr) (len cap : Nat) (c d : Int) (w : World) (h : len ≤ 1048576) :
    Calls Try.prog 11 #[.slice a len cap, .int .i64 c, .int .i64 d] w fun e w' => e = .returned (.bool true) ∧ w' = w := by
  go_enter Try.func11, Try.ntmps11
  go_wp2
  go_ret
  exact ⟨rfl, rfl⟩
theorem bytes11_large (a : Option Addr) (len cap : Nat) (c d : Int) (w : World) (h : 1048576 < len) :
    Calls Try.prog 11 #[.slice a len cap, .int .i64 c, .int .i64 d] w fun e w' => e = .returned (.bool false) ∧ w' = w := by
  go_enter Try.func11, Try.ntmps11
  go_wp2
  go_ret
  exact ⟨rfl, rfl⟩

/-! ### zzAllPass -/
/-- Do the first k numbers of f pass? -/
def allP (f : Nat → Int) : Nat → Bool
  | 0 => true
  | k + 1 => allP f k && pss (f k)

theorem allP_stop (f : Nat → Int) (k n : Nat) (h : k < n) (hk : pss (f k) = false) : allP f n = false := by
  induction n with
  | zero => omega
  | succ n ih =>
    unfold allP
    by_cases e : k = n
    · subst e; simp [hk]
    · rw [ih (by omega)]; rfl

theorem allP_congr (f g : Nat → Int) (n : Nat) (h : ∀ i, i < n → f i = g i) : allP f n = allP g n := by
  induction n with
  | zero => rfl
  | succ n ih => unfold allP; rw [ih (fun i hi => h i (by omega)), h n (by omega)]

theorem allpass_any (b off len cap : Nat) (f : Nat → Int) (w : World) (hl : len ≤ 65537)
    (hc : ∀ i, i < len → w.cell? ⟨b, off + i, none⟩ = some (.int .i64 (f i))) :
    Calls Try.prog 10 #[.slice (some ⟨b, off, none⟩) len cap] w fun e w' => e = .returned (.bool (allP f len)) ∧ w' = w := by
  go_enter Try.func10, Try.ntmps10
  go_wp2
  go_loop [3] (fun i => ∃ k : Nat, k ≤ len ∧ i = .int .i64 k ∧ allP f k = true) (fun i => len - (intOf i).toNat)
  case atStart => exact ⟨0, Nat.zero_le _, rfl, rfl⟩
  case round =>
    obtain ⟨k, hk, rfl, hP⟩ := hrel
    by_cases hlt : k < len
    · have hcell := hc k hlt
      have HP : Hid (allP f k = true) := hP
      clear hP hc
      cases hp : pss (f k)
      · go_wp2_with (go_at_call 13; refine (passes_any _ _).mono ?_; rintro e w' ⟨rfl, rfl⟩; rw [hp])
        go_ret
        exact ⟨ret_bool (allP_stop f k len hlt hp).symm, rfl⟩
      · go_wp2_with (go_at_call 13; refine (passes_any _ _).mono ?_; rintro e w' ⟨rfl, rfl⟩; rw [hp])
        go_round
        case rel => exact ⟨k + 1, by omega, by go_num, by unfold allP; rw [HP.out, hp]; rfl⟩
        case measure => simp [intOf]; omega
    · have HP : Hid (allP f k = true) := hP
      clear hP
      go_wp2
      go_ret
      exact ⟨ret_bool (by rw [show len = k from by omega]; exact HP.out.symm), rfl⟩

/-- An empty slice, whatever its address. -/
theorem allpass_none (a : Option Addr) (cap : Nat) (w : World) :
    Calls Try.prog 10 #[.slice a 0 cap] w fun e w' => e = .returned (.bool true) ∧ w' = w := by
  go_enter Try.func10, Try.ntmps10
  go_wp2
  refine wp_loop_rounds 1 ?_
  rw [rounds_succ]
  go_wp2
  go_ret
  exact ⟨rfl, rfl⟩

end Go.Proofs.Qxb6614522a.SubmParts
