/- The callees of ZZhas: the closure, IndexFunc, ContainsFunc, named, has. And neededHeldB1. -/
import Derived.Test.Qxb6614596aRows
import Derived.WalkKit
import Derived.WalkSpells
namespace Go.Proofs.Qxb6614596a.HasParts
open Go.RowKit

/-- A span, as plain fields. -/
structure Sp where
  st : Int
  en : Int
  ok : Bool
  gv : Bool

theorem tuck {p : Prop} (h : p) : Hid p := h
theorem ret_bool {a b : Bool} (h : a = b) : Ending.returned (.bool a) = .returned (.bool b) := by rw [h]

/-- The four cells of span i of a row at (g, o). -/
def SpAt (w : World) (g o i : Nat) (s : Sp) : Prop :=
  w.cell? ⟨g, o + i * 4, none⟩ = some (.int .i64 s.st) ∧ w.cell? ⟨g, o + i * 4 + 1, none⟩ = some (.int .i64 s.en) ∧ w.cell? ⟨g, o + i * 4 + 2, none⟩ = some (.bool s.ok) ∧ w.cell? ⟨g, o + i * 4 + 3, none⟩ = some (.bool s.gv)

def anyOk (f : Nat → Sp) : Nat → Bool
  | 0 => false
  | k + 1 => anyOk f k || (f k).ok

theorem anyOk_stop (f : Nat → Sp) (k n : Nat) (h : k < n) (hk : (f k).ok = true) : anyOk f n = true := by
  induction n with
  | zero => omega
  | succ n ih =>
    unfold anyOk
    by_cases e : k = n
    · subst e; simp [hk]
    · rw [ih (by omega)]; rfl

/-- has's closure, on a span by value. -/
theorem clo_any (s e : Int) (o g : Bool) (w : World) :
    Calls Try.prog 23 #[.agg #[.int .i64 s, .int .i64 e, .bool o, .bool g]] w fun e' w' => e' = .returned (.bool o) ∧ w' = w.alloc (.cells #[.int .i64 s, .int .i64 e, .bool o, .bool g] 51) := by
  go_enter Try.func23, Try.ntmps23
  go_wp2
  go_ret
  exact ⟨rfl, rfl⟩

theorem named_any (g n need : Nat) (w : World) (hn : (need + 1) * 2 ≤ n) (hl : n ≤ 40000) :
    Calls Try.prog 25 #[.slice (some ⟨g, 0, none⟩) n n, .int .i64 need] w fun e' w' => e' = .returned (.slice (some ⟨g, need * 2 * 4, none⟩) 2 (n - need * 2)) ∧ w' = w := by
  have h2 : (need + 1) * 2 - need * 2 = 2 := by omega
  go_enter Try.func25, Try.ntmps25
  go_wp2
  go_ret
  exact ⟨congrArg (fun m => Ending.returned (.slice (some ⟨g, need * 2 * 4, none⟩) m (n - need * 2))) h2, rfl⟩

theorem idx_any (g o n c : Nat) (f : Nat → Sp) (w : World) (hg : g < w.heap.size) (hl : n ≤ 40000) (hc : Hid (∀ i, i < n → SpAt w g o i (f i))) :
    Calls Try.prog 30 #[.slice (some ⟨g, o, none⟩) n c, .func (Fn.func 23) #[] #[]] w fun e w' => ∃ r : Int, e = .returned (.int .i64 r) ∧ decide (0 ≤ r) = anyOk f n ∧ Below w.heap.size w w' := by
  go_enter Try.func30, Try.ntmps30
  go_wp2
  go_loopw [8] (fun i wr => ∃ k : Nat, k ≤ n ∧ i = .int .i64 k ∧ anyOk f k = false ∧ Below w.heap.size w wr) (fun i _ => n - (intOf i).toNat)
  case atStart => exact ⟨0, Nat.zero_le _, rfl, rfl, Below.refl _ _⟩
  case round =>
    obtain ⟨k, hk, rfl, hP, hbel⟩ := hrel
    have HP : Hid (anyOk f k = false) := hP
    clear hP
    by_cases hlt : k < n
    · obtain ⟨h0, h1, h2, h3⟩ := hc.out k hlt
      have g0 := (hbel.cell (p := ⟨g, o + k * 4, none⟩) hg).trans h0
      have g1 := (hbel.cell (p := ⟨g, o + k * 4 + 1, none⟩) hg).trans h1
      have g2 := (hbel.cell (p := ⟨g, o + k * 4 + 2, none⟩) hg).trans h2
      have g3 := (hbel.cell (p := ⟨g, o + k * 4 + 3, none⟩) hg).trans h3
      clear h0 h1 h2 h3
      cases hp : (f k).ok
      · go_wp2_with (go_at_call 23; refine (clo_any _ _ _ _ _).mono ?_; rintro e w' ⟨rfl, rfl⟩)
        go_roundw
        case rel => exact ⟨k + 1, by omega, by go_num, by unfold anyOk; rw [HP.out, hp]; rfl, hbel.alloc hbel.size _⟩
        case measure => simp [intOf]; omega
      · go_wp2_with (go_at_call 23; refine (clo_any _ _ _ _ _).mono ?_; rintro e w' ⟨rfl, rfl⟩)
        go_ret
        exact ⟨_, rfl, by rw [anyOk_stop f k n hlt hp]; simp, hbel.alloc hbel.size _⟩
    · go_wp2
      go_ret
      exact ⟨_, rfl, by rw [show n = k from by omega, HP.out]; rfl, hbel⟩

theorem contains_any (g o n c : Nat) (f : Nat → Sp) (w : World) (hg : g < w.heap.size) (hl : n ≤ 40000) (hc : Hid (∀ i, i < n → SpAt w g o i (f i))) :
    Calls Try.prog 24 #[.slice (some ⟨g, o, none⟩) n c, .func (Fn.func 23) #[] #[]] w fun e w' => e = .returned (.bool (anyOk f n)) ∧ Below w.heap.size w w' := by
  go_enter Try.func24, Try.ntmps24
  go_wp2_with fail
  refine (idx_any _ _ _ _ f _ hg hl hc).mono ?_
  rintro e w1 ⟨r, rfl, hr, hb⟩
  have HR : Hid (decide (0 ≤ r) = anyOk f n) := hr
  clear hr
  go_wp2
  go_ret
  exact ⟨ret_bool HR.out, hb⟩

/-- What has answers. -/
def held (need : Nat) (f : Nat → Sp) : Bool := need == 0 || (f (need * 2)).ok || (f (need * 2 + 1)).ok

theorem has_zero (nm : ByteArray) (fa : Option Addr) (fl fc : Nat) (v : Value) (w : World) :
    Calls Try.prog 20 #[.agg #[.string nm, .slice fa fl fc, .int .i64 0], v] w fun e w' => e = .returned (.bool true) ∧ Below w.heap.size w w' := by
  go_enter Try.func20, Try.ntmps20
  go_wp2
  go_ret
  exact ⟨rfl, (Below.refl _ _).alloc (Nat.le_refl _) _⟩

theorem has_some (nm : ByteArray) (fa : Option Addr) (fl fc : Nat) (need g n : Nat) (f : Nat → Sp) (w : World) (h0 : 0 < need) (hn : (need + 1) * 2 ≤ n) (hl : n ≤ 40000) (hg : g < w.heap.size)
    (hc : Hid (∀ i, i < n → SpAt w g 0 i (f i))) :
    Calls Try.prog 20 #[.agg #[.string nm, .slice fa fl fc, .int .i64 need], .slice (some ⟨g, 0, none⟩) n n] w fun e w' => e = .returned (.bool (held need f)) ∧ Below w.heap.size w w' := by
  have hz : ((need : Int) == 0) = false := by simp; omega
  go_enter Try.func20, Try.ntmps20
  go_wp2_with fail
  refine (named_any _ _ _ _ hn hl).mono ?_
  rintro e w1 ⟨rfl, rfl⟩
  go_wp2_with fail
  refine (contains_any _ _ _ _ (fun i => f (need * 2 + i)) _ ?_ (by omega) ?_).mono ?_
  · simp; omega
  · intro i hi
    have hx := hc.out (need * 2 + i) (by omega)
    obtain ⟨h0, h1, h2, h3⟩ := hx
    have e : 0 + (need * 2 + i) * 4 = need * 2 * 4 + i * 4 := by omega
    rw [e] at h0 h1 h2 h3
    have hb := (Below.refl w.heap.size w).alloc (Nat.le_refl _) (.cells #[.string nm, .slice fa fl fc, .int .i64 need] 53)
    exact ⟨(hb.cell (by exact hg)).trans h0, (hb.cell (by exact hg)).trans h1, (hb.cell (by exact hg)).trans h2, (hb.cell (by exact hg)).trans h3⟩
  · rintro e w1 ⟨rfl, hb⟩
    go_wp2
    go_ret
    refine ⟨ret_bool ?_, ((Below.refl _ _).alloc (Nat.le_refl _) _).trans (hb.mono (by simp))⟩
    have hz' : (need == 0) = false := by simp; omega
    unfold held
    rw [hz']
    simp [anyOk]

end Go.Proofs.Qxb6614596a.HasParts
