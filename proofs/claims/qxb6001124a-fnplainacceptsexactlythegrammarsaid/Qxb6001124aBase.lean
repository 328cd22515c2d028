/-
  zzAllDigits (7), zzBytes (4).
-/
import Derived.Test.Qxb6001124aRows
import Derived.WalkKit
import Derived.ProofKit
import Derived.OpenShut
import Derived.ShutString
import Derived.ChangeOld
import Derived.Below
import Derived.WalkSmall
import Derived.WalkSpells
import Derived.WalkLawsBesides
import Derived.Outline
import Derived.PlainAid
namespace Go.Proofs.Qxb6001124a
open Go.ChangeShapes Go.WideShapes Go.ChangeAt Go.RowKit Go.PlainAid
set_option linter.unusedVariables false
set_option linter.unusedSimpArgs false

theorem hide {p : Prop} (h : p) : Hid p := h
theorem unhide {p : Prop} (h : Hid p) : p := h

/-- A decimal digit. -/
def dg (c : Int) : Bool := decide (48 ≤ c) && decide (c ≤ 57)
theorem dg_iff (c : Int) : dg c = true ↔ 48 ≤ c ∧ c ≤ 57 := by simp [dg]
theorem dg_no (c : Int) : dg c = false ↔ ¬ (48 ≤ c ∧ c ≤ 57) := by rw [← dg_iff]; simp

def AllDig (s : ByteArray) : Prop := ∀ k, k < s.size → dg (bt s k) = true

set_option maxHeartbeats 400000 in
theorem digits_any (s : ByteArray) (w : World) (hn : s.size ≤ 1048576) :
    Calls Try.prog 7 #[.string s] w fun e w' => w = w' ∧ ((AllDig s ∧ e = .returned (.bool true)) ∨ (¬ AllDig s ∧ e = .returned (.bool false))) := by
  have hb := get_bt s
  go_enter Try.func7, Try.ntmps7
  go_wp2
  go_loop [3] (fun t => ∃ k : Nat, k ≤ s.size ∧ t = .int .i64 k ∧ ∀ j, j < k → dg (bt s j) = true) (fun t => s.size - (intOf t).toNat)
  case atStart => exact ⟨0, Nat.zero_le _, rfl, fun j hj => by omega⟩
  case round =>
    obtain ⟨k, hk, rfl, hall⟩ := hrel
    have HA := hide hall
    clear hall
    by_cases hlt : k < s.size
    · by_cases h1 : bt s k < 48
      · have hno : Hid (¬ AllDig s) := fun h => by have := (dg_iff _).1 (h k hlt); omega
        go_wp2
        go_ret
        exact ⟨rfl, .inr ⟨unhide hno, rfl⟩⟩
      · by_cases h2 : 57 < bt s k
        · have hno : Hid (¬ AllDig s) := fun h => by have := (dg_iff _).1 (h k hlt); omega
          go_wp2
          go_ret
          exact ⟨rfl, .inr ⟨unhide hno, rfl⟩⟩
        · have hd : Hid (dg (bt s k) = true) := (dg_iff _).2 ⟨by omega, by omega⟩
          go_wp2
          go_round
          case rel => exact ⟨k + 1, by omega, by go_num, fun j h2 => by rcases Nat.lt_succ_iff_lt_or_eq.1 h2 with h3 | rfl; exact unhide HA j h3; exact unhide hd⟩
          case measure => simp [intOf]; omega
    · obtain rfl : s.size = k := by omega
      go_wp2
      go_ret
      exact ⟨rfl, .inl ⟨unhide HA, rfl⟩⟩

theorem bytes_yes (s : ByteArray) (w : World) (h : s.size ≤ 1048576) :
    Calls Try.prog 4 #[.string s] w fun e w' => e = .returned (.bool true) ∧ w = w' := by
  go_enter Try.func4, Try.ntmps4
  go_wp2
  go_ret
  exact ⟨rfl, rfl⟩
theorem bytes_no (s : ByteArray) (w : World) (h : 1048576 < s.size) :
    Calls Try.prog 4 #[.string s] w fun e w' => e = .returned (.bool false) ∧ w = w' := by
  have h' : (1048576 : Int) < (s.size : Int) := by omega
  go_enter Try.func4, Try.ntmps4
  go_wp2
  go_ret
  exact ⟨rfl, rfl⟩

end Go.Proofs.Qxb6001124a
