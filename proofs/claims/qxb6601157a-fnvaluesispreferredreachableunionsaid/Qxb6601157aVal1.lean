/-
  SetOf (21), the closure of values (22).
-/
import Derived.Test.Qxb6601157aBase
import Derived.Deep.RegionHeld3
namespace Go.Proofs.Qxb6601157a
open Go.ChangeShapes Go.WideShapes Go.ChangeAt Go.RowKit
set_option linter.unusedVariables false
set_option linter.unusedSimpArgs false

theorem setof0 (w : World) : Calls Try.prog 21 #[.int .u8 0] w fun e w' => e = .returned (.int .u8 1) ∧ w = w' := by
  go_enter Try.func21, Try.ntmps21
  go_wp2
  go_ret
  exact ⟨rfl, rfl⟩
theorem setof1 (w : World) : Calls Try.prog 21 #[.int .u8 1] w fun e w' => e = .returned (.int .u8 2) ∧ w = w' := by
  go_enter Try.func21, Try.ntmps21
  go_wp2
  go_ret
  exact ⟨rfl, rfl⟩

/-- The set c can be had: q senders' sets, of which a are {0}, b are {1}, d are both. -/
def posB (q : Int) (a b d : Nat) (c : Int) : Bool :=
  if c = 3 then decide (q ≤ (a : Int) + b + d) && (decide (0 < d) || (decide (0 < a) && decide (0 < b))) else if c = 1 then decide (q ≤ a) else if c = 2 then decide (q ≤ b) else false

/-- What the closure reads: the total, the quorum, the four counts. -/
structure Cells (gt gq gc : Nat) (q : Int) (a b d : Nat) (w : World) : Prop where
  tot : w.cell? ⟨gt, 0, none⟩ = some (.int .i64 ((a : Int) + b + d))
  quo : w.cell? ⟨gq, 0, none⟩ = some (.int .i64 q)
  c0 : w.cell? ⟨gc, 0, none⟩ = some (.int .i64 0)
  c1 : w.cell? ⟨gc, 1, none⟩ = some (.int .i64 (a : Int))
  c2 : w.cell? ⟨gc, 2, none⟩ = some (.int .i64 (b : Int))
  c3 : w.cell? ⟨gc, 3, none⟩ = some (.int .i64 (d : Int))

theorem ret_bool {a b : Bool} (h : a = b) : Ending.returned (.bool a) = .returned (.bool b) := by rw [h]

set_option maxHeartbeats 400000 in
theorem poss0 (gt gq gc : Nat) (q : Int) (a b d : Nat) (w : World) (hq : 1 ≤ q) (h : Cells gt gq gc q a b d w) :
    Calls Try.prog 22 #[.int .u8 0, .pointer (some ⟨gt, 0, none⟩), .pointer (some ⟨gq, 0, none⟩), .pointer (some ⟨gc, 0, none⟩)] w fun e w' => e = .returned (.bool (posB q a b d 0)) ∧ ∃ nq, w' = w.drewN nq := by
  obtain ⟨h1, h2, h3, h4, h5, h6⟩ := h
  have hp : posB q a b d 0 = decide (q ≤ 0) := by simp [posB]; omega
  rw [hp]
  clear hp
  go_enter Try.func22, Try.ntmps22
  go_wp2
  go_quiet (fail)
  go_wp2
  go_ret
  exact ⟨rfl, _, rfl⟩

set_option maxHeartbeats 400000 in
theorem poss1 (gt gq gc : Nat) (q : Int) (a b d : Nat) (w : World) (hq : 1 ≤ q) (h : Cells gt gq gc q a b d w) :
    Calls Try.prog 22 #[.int .u8 1, .pointer (some ⟨gt, 0, none⟩), .pointer (some ⟨gq, 0, none⟩), .pointer (some ⟨gc, 0, none⟩)] w fun e w' => e = .returned (.bool (posB q a b d 1)) ∧ ∃ nq, w' = w.drewN nq := by
  obtain ⟨h1, h2, h3, h4, h5, h6⟩ := h
  have hp : posB q a b d 1 = decide (q ≤ (a : Int)) := by simp [posB]
  rw [hp]
  clear hp
  go_enter Try.func22, Try.ntmps22
  go_wp2
  go_quiet (fail)
  go_wp2
  go_ret
  exact ⟨rfl, _, rfl⟩

set_option maxHeartbeats 400000 in
theorem poss2 (gt gq gc : Nat) (q : Int) (a b d : Nat) (w : World) (hq : 1 ≤ q) (h : Cells gt gq gc q a b d w) :
    Calls Try.prog 22 #[.int .u8 2, .pointer (some ⟨gt, 0, none⟩), .pointer (some ⟨gq, 0, none⟩), .pointer (some ⟨gc, 0, none⟩)] w fun e w' => e = .returned (.bool (posB q a b d 2)) ∧ ∃ nq, w' = w.drewN nq := by
  obtain ⟨h1, h2, h3, h4, h5, h6⟩ := h
  have hp : posB q a b d 2 = decide (q ≤ (b : Int)) := by simp [posB]
  rw [hp]
  clear hp
  go_enter Try.func22, Try.ntmps22
  go_wp2
  go_quiet (fail)
  go_wp2
  go_ret
  exact ⟨rfl, _, rfl⟩

set_option maxHeartbeats 1000000 in
theorem poss3 (gt gq gc : Nat) (q : Int) (a b d : Nat) (w : World) (hq : 1 ≤ q) (h : Cells gt gq gc q a b d w) :
    Calls Try.prog 22 #[.int .u8 3, .pointer (some ⟨gt, 0, none⟩), .pointer (some ⟨gq, 0, none⟩), .pointer (some ⟨gc, 0, none⟩)] w fun e w' => e = .returned (.bool (posB q a b d 3)) ∧ ∃ nq, w' = w.drewN nq := by
  obtain ⟨h1, h2, h3, h4, h5, h6⟩ := h
  have hp : posB q a b d 3 = (decide (q ≤ (a : Int) + b + d) && (decide (0 < d) || (decide (0 < a) && decide (0 < b)))) := by simp [posB]
  rw [hp]
  clear hp
  by_cases k1 : q ≤ (a : Int) + b + d
  · by_cases k2 : 0 < d
    · have k2' : (0 : Int) < (d : Int) := by omega
      go_enter Try.func22, Try.ntmps22
      go_wp2_with (first | (go_at_call_of 21 (Value.int IntKind.u8 0); refine (setof0 _).mono ?_; rintro e w' ⟨rfl, rfl⟩) | (go_at_call_of 21 (Value.int IntKind.u8 1); refine (setof1 _).mono ?_; rintro e w' ⟨rfl, rfl⟩))
      go_ret
      exact ⟨ret_bool (by simp [k1, k2]), 0, rfl⟩
    · have k2' : decide ((0 : Int) < (d : Int)) = false := by simp; omega
      by_cases k3 : 0 < a
      · have k3' : (0 : Int) < (a : Int) := by omega
        by_cases k4 : 0 < b
        · have k4' : (0 : Int) < (b : Int) := by omega
          go_enter Try.func22, Try.ntmps22
          go_wp2_with (first | (go_at_call_of 21 (Value.int IntKind.u8 0); refine (setof0 _).mono ?_; rintro e w' ⟨rfl, rfl⟩) | (go_at_call_of 21 (Value.int IntKind.u8 1); refine (setof1 _).mono ?_; rintro e w' ⟨rfl, rfl⟩))
          go_ret
          exact ⟨ret_bool (by simp [k1, k2, k3, k4]), 0, rfl⟩
        · have k4' : decide ((0 : Int) < (b : Int)) = false := by simp; omega
          go_enter Try.func22, Try.ntmps22
          go_wp2_with (first | (go_at_call_of 21 (Value.int IntKind.u8 0); refine (setof0 _).mono ?_; rintro e w' ⟨rfl, rfl⟩) | (go_at_call_of 21 (Value.int IntKind.u8 1); refine (setof1 _).mono ?_; rintro e w' ⟨rfl, rfl⟩))
          go_ret
          exact ⟨ret_bool (by simp [k1, k2, k3, k4]), 0, rfl⟩
      · have k3' : decide ((0 : Int) < (a : Int)) = false := by simp; omega
        go_enter Try.func22, Try.ntmps22
        go_wp2_with (first | (go_at_call_of 21 (Value.int IntKind.u8 0); refine (setof0 _).mono ?_; rintro e w' ⟨rfl, rfl⟩) | (go_at_call_of 21 (Value.int IntKind.u8 1); refine (setof1 _).mono ?_; rintro e w' ⟨rfl, rfl⟩))
        go_ret
        exact ⟨ret_bool (by simp [k1, k2, k3]), 0, rfl⟩
  · have k1' : decide (q ≤ (a : Int) + b + d) = false := by simp; omega
    go_enter Try.func22, Try.ntmps22
    go_wp2_with (first | (go_at_call_of 21 (Value.int IntKind.u8 0); refine (setof0 _).mono ?_; rintro e w' ⟨rfl, rfl⟩) | (go_at_call_of 21 (Value.int IntKind.u8 1); refine (setof1 _).mono ?_; rintro e w' ⟨rfl, rfl⟩))
    go_ret
    exact ⟨ret_bool (by first | (simp; done) | (simp; omega)), 0, rfl⟩

theorem poss_any (gt gq gc : Nat) (q : Int) (a b d : Nat) (c : Int) (w : World) (hq : 1 ≤ q) (h0 : 0 ≤ c) (h3 : c ≤ 3) (h : Cells gt gq gc q a b d w) :
    Calls Try.prog 22 #[.int .u8 c, .pointer (some ⟨gt, 0, none⟩), .pointer (some ⟨gq, 0, none⟩), .pointer (some ⟨gc, 0, none⟩)] w fun e w' => e = .returned (.bool (posB q a b d c)) ∧ ∃ nq, w' = w.drewN nq := by
  have hc : c = 0 ∨ c = 1 ∨ c = 2 ∨ c = 3 := by omega
  rcases hc with rfl | rfl | rfl | rfl
  · exact poss0 gt gq gc q a b d w hq h
  · exact poss1 gt gq gc q a b d w hq h
  · exact poss2 gt gq gc q a b d w hq h
  · exact poss3 gt gq gc q a b d w hq h

end Go.Proofs.Qxb6601157a
