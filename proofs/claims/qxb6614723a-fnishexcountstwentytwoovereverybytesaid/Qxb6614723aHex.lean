/- isDigit, isHex and their shims; how many bytes are which. -/
import Derived.Test.Qxb6614723aRows
import Derived.WalkKit
import Derived.WalkSpells
namespace Go.Proofs.Qxb6614723a.HexParts
open Go.RowKit

theorem tuck {p : Prop} (h : p) : Hid p := h
theorem ret_bool {a b : Bool} (h : a = b) : Ending.returned (.bool a) = .returned (.bool b) := by rw [h]

def digB (c : Int) : Bool := decide (48 ≤ c) && decide (c ≤ 57)
def hexB (c : Int) : Bool := digB c || (decide (97 ≤ c) && decide (c ≤ 102)) || (decide (65 ≤ c) && decide (c ≤ 70))

/-- Where a byte lies, and what it is. -/
theorem kinds (c : Int) : (c < 48 ∧ digB c = false ∧ hexB c = false) ∨ (48 ≤ c ∧ c ≤ 57 ∧ digB c = true ∧ hexB c = true) ∨ (57 < c ∧ c < 65 ∧ digB c = false ∧ hexB c = false) ∨
    (65 ≤ c ∧ c ≤ 70 ∧ digB c = false ∧ hexB c = true) ∨ (70 < c ∧ c < 97 ∧ digB c = false ∧ hexB c = false) ∨ (97 ≤ c ∧ c ≤ 102 ∧ digB c = false ∧ hexB c = true) ∨ (102 < c ∧ digB c = false ∧ hexB c = false) := by
  have h : c < 48 ∨ (48 ≤ c ∧ c ≤ 57) ∨ (57 < c ∧ c < 65) ∨ (65 ≤ c ∧ c ≤ 70) ∨ (70 < c ∧ c < 97) ∨ (97 ≤ c ∧ c ≤ 102) ∨ 102 < c := by omega
  rcases h with h | h | h | h | h | h | h
  · exact .inl ⟨h, by simp [digB]; omega, by simp [hexB, digB]; omega⟩
  · exact .inr (.inl ⟨h.1, h.2, by simp [digB]; omega, by simp [hexB, digB]; omega⟩)
  · exact .inr (.inr (.inl ⟨h.1, h.2, by simp [digB]; omega, by simp [hexB, digB]; omega⟩))
  · exact .inr (.inr (.inr (.inl ⟨h.1, h.2, by simp [digB]; omega, by simp [hexB, digB]; omega⟩)))
  · exact .inr (.inr (.inr (.inr (.inl ⟨h.1, h.2, by simp [digB]; omega, by simp [hexB, digB]; omega⟩))))
  · exact .inr (.inr (.inr (.inr (.inr (.inl ⟨h.1, h.2, by simp [digB]; omega, by simp [hexB, digB]; omega⟩)))))
  · exact .inr (.inr (.inr (.inr (.inr (.inr ⟨h, by simp [digB]; omega, by simp [hexB, digB]; omega⟩)))))

theorem dig_any (c : Int) (w : World) : Calls Try.prog 14 #[.int .u8 c] w fun e w' => e = .returned (.bool (digB c)) ∧ w' = w := by
  rcases kinds c with ⟨h1, hd, _⟩ | ⟨h1, h2, hd, _⟩ | ⟨h1, h2, hd, _⟩ | ⟨h1, h2, hd, _⟩ | ⟨h1, h2, hd, _⟩ | ⟨h1, h2, hd, _⟩ | ⟨h1, hd, _⟩ <;> rw [hd] <;> clear hd
  all_goals
    go_enter Try.func14, Try.ntmps14
    go_wp2
    go_ret
    first | exact ⟨rfl, rfl⟩ | exact ⟨ret_bool (by simp; omega), rfl⟩

theorem dig_o (c : Int) (o : Bool) (w : World) (h : Hid (digB c = o)) : Calls Try.prog 14 #[.int .u8 c] w fun e w' => e = .returned (.bool o) ∧ w' = w := by
  rw [← h.out]
  exact dig_any c w

theorem hex_any (c : Int) (w : World) : Calls Try.prog 13 #[.int .u8 c] w fun e w' => e = .returned (.bool (hexB c)) ∧ w' = w := by
  rcases kinds c with ⟨h1, hd, hh⟩ | ⟨h1, h2, hd, hh⟩ | ⟨h1, h2, hd, hh⟩ | ⟨h1, h2, hd, hh⟩ | ⟨h1, h2, hd, hh⟩ | ⟨h1, h2, hd, hh⟩ | ⟨h1, hd, hh⟩ <;> rw [hh] <;> clear hh
  all_goals
    have HD := tuck hd
    clear hd
    go_enter Try.func13, Try.ntmps13
    go_wp2_with fail
    refine (dig_o _ _ _ HD).mono ?_
    rintro e w' ⟨rfl, rfl⟩
    go_wp2
    go_ret
    first | exact ⟨rfl, rfl⟩ | exact ⟨ret_bool (by simp; omega), rfl⟩

theorem zzhex (c : Int) (o : Bool) (w : World) (h : Hid (hexB c = o)) : Calls Try.prog 9 #[.int .u8 c] w fun e w' => e = .returned (.bool o) ∧ w' = w := by
  go_enter Try.func9, Try.ntmps9
  go_wp2_with fail
  refine (hex_any _ _).mono ?_
  rintro e w' ⟨rfl, rfl⟩
  go_wp2
  go_ret
  exact ⟨ret_bool h.out, rfl⟩

theorem zzdig (c : Int) (o : Bool) (w : World) (h : Hid (digB c = o)) : Calls Try.prog 10 #[.int .u8 c] w fun e w' => e = .returned (.bool o) ∧ w' = w := by
  go_enter Try.func10, Try.ntmps10
  go_wp2_with fail
  refine (dig_any _ _).mono ?_
  rintro e w' ⟨rfl, rfl⟩
  go_wp2
  go_ret
  exact ⟨ret_bool h.out, rfl⟩

/-- How many of the first k numbers p says yes to. -/
def cnt (p : Int → Bool) : Nat → Nat
  | 0 => 0
  | k + 1 => cnt p k + (if p (k : Int) then 1 else 0)

theorem cnt_le (p : Int → Bool) (k : Nat) : cnt p k ≤ k := by
  induction k with
  | zero => exact Nat.le_refl _
  | succ k ih => unfold cnt; split <;> omega

theorem cnt_hex : cnt hexB 256 = 22 := by decide +kernel
theorem cnt_dig : cnt digB 256 = 10 := by decide +kernel

/-- A capital is hex just where its small letter is. -/
theorem hex_small (c : Int) (h1 : 65 ≤ c) (h2 : c ≤ 90) : hexB (c + 32) = hexB c := by
  unfold hexB digB
  by_cases h : c ≤ 70
  · have : decide (97 ≤ c + 32) = true := by simp; omega
    have : decide (c + 32 ≤ 102) = true := by simp; omega
    simp_all
  · have a1 : decide (48 ≤ c) = true := by simp; omega
    have a2 : decide (c ≤ 57) = false := by simp; omega
    have a3 : decide (c + 32 ≤ 57) = false := by simp; omega
    have a4 : decide (c + 32 ≤ 102) = false := by simp; omega
    have a5 : decide (c + 32 ≤ 70) = false := by simp; omega
    have a6 : decide (97 ≤ c) = false := by simp; omega
    have a7 : decide (c ≤ 70) = false := by simpa using h
    rw [a1, a2, a3, a4, a5, a6, a7]
    simp

end Go.Proofs.Qxb6614723a.HexParts
