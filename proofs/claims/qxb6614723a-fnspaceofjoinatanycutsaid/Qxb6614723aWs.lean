/- White space: zzWS, zzAllWS, space, Space; the bound on the total length. -/
import Derived.Test.Qxb6614723aRows
import Derived.WalkKit
import Derived.WalkSpells
namespace Go.Proofs.Qxb6614723a.WsParts
open Go.RowKit

theorem tuck {p : Prop} (h : p) : Hid p := h
theorem ret_bool {a b : Bool} (h : a = b) : Ending.returned (.bool a) = .returned (.bool b) := by rw [h]
theorem ret_int {k : IntKind} {a b : Int} (h : a = b) : Ending.returned (.int k a) = .returned (.int k b) := by rw [h]

def wsB (c : Int) : Bool := c == 32 || c == 9 || c == 10 || c == 13

theorem ws_cases (c : Int) : ((c == 32) = true ∧ wsB c = true) ∨ ((c == 32) = false ∧ (c == 9) = true ∧ wsB c = true) ∨ ((c == 32) = false ∧ (c == 9) = false ∧ (c == 10) = true ∧ wsB c = true) ∨
    ((c == 32) = false ∧ (c == 9) = false ∧ (c == 10) = false ∧ (c == 13) = true ∧ wsB c = true) ∨ ((c == 32) = false ∧ (c == 9) = false ∧ (c == 10) = false ∧ (c == 13) = false ∧ wsB c = false) := by
  unfold wsB
  cases h1 : (c == 32) <;> cases h2 : (c == 9) <;> cases h3 : (c == 10) <;> cases h4 : (c == 13) <;> simp

theorem ws_any (c : Int) (w : World) : Calls Try.prog 12 #[.int .u8 c] w fun e w' => e = .returned (.bool (wsB c)) ∧ w' = w := by
  rcases ws_cases c with ⟨h1, hp⟩ | ⟨h1, h2, hp⟩ | ⟨h1, h2, h3, hp⟩ | ⟨h1, h2, h3, h4, hp⟩ | ⟨h1, h2, h3, h4, hp⟩ <;> rw [hp] <;> clear hp
  all_goals
    go_enter Try.func12, Try.ntmps12
    go_wp2
    go_ret
    exact ⟨rfl, rfl⟩

/-- What is known of a slice of len bytes at a: it is empty, or its cells hold f 0, f 1, .. -/
def BV (w : World) (a : Option Addr) (len : Nat) (f : Nat → Int) : Prop :=
  len = 0 ∨ ∃ b off, a = some ⟨b, off, none⟩ ∧ b < w.heap.size ∧ ∀ i, i < len → w.cell? ⟨b, off + i, none⟩ = some (.int .u8 (f i))

theorem BV.below {w w' : World} {a : Option Addr} {len : Nat} {f : Nat → Int} (h : BV w a len f) (hb : Below w.heap.size w w') : BV w' a len f := by
  rcases h with h | ⟨b, off, h1, h2, h3⟩
  · exact .inl h
  · exact .inr ⟨b, off, h1, Nat.lt_of_lt_of_le h2 hb.size, fun i hi => (hb.cell (by exact h2)).trans (h3 i hi)⟩

/-- Are the first k numbers of f white? -/
def allW (f : Nat → Int) : Nat → Bool
  | 0 => true
  | k + 1 => allW f k && wsB (f k)

theorem allW_stop (f : Nat → Int) (k n : Nat) (h : k < n) (hk : wsB (f k) = false) : allW f n = false := by
  induction n with
  | zero => omega
  | succ n ih =>
    unfold allW
    by_cases e : k = n
    · subst e; simp [hk]
    · rw [ih (by omega)]; rfl

theorem allws_some (b off len cap : Nat) (f : Nat → Int) (w : World) (hl : len ≤ 4000000)
    (hc : ∀ i, i < len → w.cell? ⟨b, off + i, none⟩ = some (.int .u8 (f i))) :
    Calls Try.prog 8 #[.slice (some ⟨b, off, none⟩) len cap] w fun e w' => e = .returned (.bool (allW f len)) ∧ w' = w := by
  go_enter Try.func8, Try.ntmps8
  go_wp2
  go_loop [3] (fun i => ∃ k : Nat, k ≤ len ∧ i = .int .i64 k ∧ allW f k = true) (fun i => len - (intOf i).toNat)
  case atStart => exact ⟨0, Nat.zero_le _, rfl, rfl⟩
  case round =>
    obtain ⟨k, hk, rfl, hP⟩ := hrel
    have HP := tuck hP
    clear hP
    by_cases hlt : k < len
    · have hcell := hc k hlt
      clear hc
      cases hp : wsB (f k)
      · go_wp2_with (go_at_call 12; refine (ws_any _ _).mono ?_; rintro e w' ⟨rfl, rfl⟩; rw [hp])
        go_ret
        exact ⟨ret_bool (allW_stop f k len hlt hp).symm, rfl⟩
      · go_wp2_with (go_at_call 12; refine (ws_any _ _).mono ?_; rintro e w' ⟨rfl, rfl⟩; rw [hp])
        go_round
        case rel => exact ⟨k + 1, by omega, by go_num, by unfold allW; rw [HP.out, hp]; rfl⟩
        case measure => simp [intOf]; omega
    · go_wp2
      go_ret
      exact ⟨ret_bool (by rw [show len = k from by omega]; exact HP.out.symm), rfl⟩

theorem allws_none (a : Option Addr) (cap : Nat) (w : World) :
    Calls Try.prog 8 #[.slice a 0 cap] w fun e w' => e = .returned (.bool true) ∧ w' = w := by
  go_enter Try.func8, Try.ntmps8
  go_wp2
  refine wp_loop_rounds 1 ?_
  rw [rounds_succ]
  go_wp2
  go_ret
  exact ⟨rfl, rfl⟩

theorem allws_o (a : Option Addr) (len cap : Nat) (f : Nat → Int) (o : Bool) (w : World) (hl : len ≤ 4000000) (hv : Hid (BV w a len f)) (ho : Hid (allW f len = o)) :
    Calls Try.prog 8 #[.slice a len cap] w fun e w' => e = .returned (.bool o) ∧ w' = w := by
  rw [← ho.out]
  rcases hv.out with h | ⟨b, off, h1, h2, h3⟩
  · subst h
    exact allws_none a cap w
  · subst h1
    exact allws_some b off len cap f w hl h3

/-- r is where the white space at f's start ends. -/
def IsLead (f : Nat → Int) (n r : Nat) : Prop := r ≤ n ∧ (∀ i, i < r → wsB (f i) = true) ∧ (r < n → wsB (f r) = false)

theorem space_some (b off len cap r : Nat) (f : Nat → Int) (w : World) (hl : len ≤ 4000000) (hr : Hid (IsLead f len r))
    (hc : ∀ i, i < len → w.cell? ⟨b, off + i, none⟩ = some (.int .u8 (f i))) :
    Calls Try.prog 11 #[.slice (some ⟨b, off, none⟩) len cap, .int .i64 0] w fun e w' => e = .returned (.int .i64 r) ∧ w' = w := by
  have hrl : r ≤ len := hr.out.1
  go_enter Try.func11, Try.ntmps11
  go_wp2
  go_loop [1] (fun i => ∃ k : Nat, k ≤ r ∧ i = .int .i64 k) (fun i => len - (intOf i).toNat)
  case atStart => exact ⟨0, Nat.zero_le _, rfl⟩
  case round =>
    obtain ⟨k, hk, rfl⟩ := hrel
    by_cases hlt : k < len
    · have hcell := hc k hlt
      clear hc
      by_cases hkr : k < r
      · have hw := hr.out.2.1 k hkr
        rcases ws_cases (f k) with ⟨h1, hp⟩ | ⟨h1, h2, hp⟩ | ⟨h1, h2, h3, hp⟩ | ⟨h1, h2, h3, h4, hp⟩ | ⟨h1, h2, h3, h4, hp⟩
        · clear hw hp
          go_wp2
          go_round
          case rel => exact ⟨k + 1, by omega, by go_num⟩
          case measure => simp [intOf]; omega
        · clear hw hp
          go_wp2
          go_round
          case rel => exact ⟨k + 1, by omega, by go_num⟩
          case measure => simp [intOf]; omega
        · clear hw hp
          go_wp2
          go_round
          case rel => exact ⟨k + 1, by omega, by go_num⟩
          case measure => simp [intOf]; omega
        · clear hw hp
          go_wp2
          go_round
          case rel => exact ⟨k + 1, by omega, by go_num⟩
          case measure => simp [intOf]; omega
        · rw [hw] at hp
          cases hp
      · obtain rfl : k = r := by omega
        have hw := hr.out.2.2 hlt
        rcases ws_cases (f k) with ⟨h1, hp⟩ | ⟨h1, h2, hp⟩ | ⟨h1, h2, h3, hp⟩ | ⟨h1, h2, h3, h4, hp⟩ | ⟨h1, h2, h3, h4, hp⟩
        · rw [hw] at hp
          cases hp
        · rw [hw] at hp
          cases hp
        · rw [hw] at hp
          cases hp
        · rw [hw] at hp
          cases hp
        · clear hw hp
          go_wp2
          go_ret
          exact ⟨rfl, rfl⟩
    · go_wp2
      go_ret
      exact ⟨ret_int (by omega), rfl⟩

theorem space_none (a : Option Addr) (cap : Nat) (w : World) :
    Calls Try.prog 11 #[.slice a 0 cap, .int .i64 0] w fun e w' => e = .returned (.int .i64 0) ∧ w' = w := by
  go_enter Try.func11, Try.ntmps11
  go_wp2
  refine wp_loop_rounds 1 ?_
  rw [rounds_succ]
  go_wp2
  go_ret
  exact ⟨rfl, rfl⟩

theorem space_o (a : Option Addr) (len cap r : Nat) (f : Nat → Int) (w : World) (hl : len ≤ 4000000) (hv : Hid (BV w a len f)) (hr : Hid (IsLead f len r)) :
    Calls Try.prog 11 #[.slice a len cap, .int .i64 0] w fun e w' => e = .returned (.int .i64 r) ∧ w' = w := by
  rcases hv.out with h | ⟨b, off, h1, h2, h3⟩
  · subst h
    obtain rfl : r = 0 := by have := hr.out.1; omega
    exact space_none a cap w
  · subst h1
    exact space_some b off len cap r f w hl hr h3

/-- Space. -/
theorem lead_o (a : Option Addr) (len cap r : Nat) (f : Nat → Int) (w : World) (hl : len ≤ 4000000) (hv : Hid (BV w a len f)) (hr : Hid (IsLead f len r)) :
    Calls Try.prog 7 #[.slice a len cap] w fun e w' => e = .returned (.int .i64 r) ∧ w' = w := by
  go_enter Try.func7, Try.ntmps7
  go_wp2_with fail
  refine (space_o _ _ _ r f _ hl hv hr).mono ?_
  rintro e w' ⟨rfl, rfl⟩
  go_wp2
  go_ret
  exact ⟨rfl, rfl⟩

theorem bytes5_any (a b : Option Addr) (la ca lb cb : Nat) (w : World) :
    Calls Try.prog 5 #[.slice a la ca, .slice b lb cb] w fun e w' => ((e = .returned (.bool true)) ∨ (e = .returned (.bool false) ∧ 1048576 < la + lb)) ∧ w' = w := by
  go_enter Try.func5, Try.ntmps5
  go_wp2
  all_goals go_ret
  all_goals first
    | exact ⟨.inl rfl, rfl⟩
    | exact ⟨.inr ⟨rfl, by omega⟩, rfl⟩

end Go.Proofs.Qxb6614723a.WsParts
