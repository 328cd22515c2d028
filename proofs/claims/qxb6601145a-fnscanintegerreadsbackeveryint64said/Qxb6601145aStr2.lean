/-
  FnScanStringReadsBackPlainText (6): the walk. A slice that came in: told by 'View': its address is known wherever it has an element.
-/
import Derived.Test.Qxb6601145aStr1
namespace Go.Proofs.Qxb6601145a
open Go.ChangeShapes Go.WideShapes Go.ChangeAt Go.RowKit
set_option linter.unusedVariables false
set_option linter.unusedSimpArgs false

/-- The first n cells of a slice at address a are the bytes f. -/
def View (w : World) (a : Option Addr) (n : Nat) (f : Nat → Int) : Prop := ∀ k, k < n → ∃ b off, a = some ⟨b, off, none⟩ ∧ w.cell? ⟨b, off + k, none⟩ = some (.int .u8 (f k))

theorem View.below {w w' : World} {a : Option Addr} {n : Nat} {f : Nat → Int} (h : View w a n f) (hb : Below w.heap.size w w') : View w' a n f := by
  intro k hk
  obtain ⟨b, off, e, hc⟩ := h k hk
  exact ⟨b, off, e, (hb.cell (p := ⟨b, off + k, none⟩) (World.block_lt_of_cell? w _ hc)).trans hc⟩

theorem View.drew {w : World} {a : Option Addr} {n : Nat} {f : Nat → Int} (h : View w a n f) (q : Nat) : View (w.drewN q) a n f := h.below (below_drewN (Below.refl _ _) q)

theorem view_of_row {w : World} {x : Addr} {n : Nat} {zs : List Int} (hn : n ≤ zs.length) (h : ∀ i, i < zs.length → w.cell? (x.add i) = some (.int .u8 (zs.getD i 0))) : View w (some x) n (fun k => zs.getD k 0) := by
  intro k hk
  obtain ⟨b, off, rfl, hc⟩ := ints_at h (by omega)
  exact ⟨b, off, rfl, hc k (by omega)⟩

theorem view_nil (w : World) (a : Option Addr) (f : Nat → Int) : View w a 0 f := fun k hk => absurd hk (Nat.not_lt_zero k)

/-- Two rows of the same n bytes, wherever they lie. -/
theorem same_view (a1 a2 : Option Addr) (c1 c2 n : Nat) (f : Nat → Int) (w : World) (hn : n ≤ 1048576) (h1 : View w a1 n f) (h2 : View w a2 n f) :
    Calls Try.prog 11 #[.slice a1 n c1, .slice a2 n c2] w fun e w' => e = .returned (.bool true) ∧ ∃ nq, w' = w.drewN nq := by
  go_enter Try.func11, Try.ntmps11
  go_wp2
  go_loopw [5] (fun t wr => ∃ k nq : Nat, k ≤ n ∧ t = .int .i64 k ∧ wr = w.drewN nq) (fun t _ => n - (intOf t).toNat)
  case atStart => exact ⟨0, 0, Nat.zero_le _, rfl, rfl⟩
  case round =>
    obtain ⟨k, nq, hkn, rfl, rfl⟩ := hrel
    by_cases hlt : k < n
    · obtain ⟨b1, o1, rfl, g1⟩ := h1 k hlt
      obtain ⟨b2, o2, rfl, g2⟩ := h2 k hlt
      have hlt' : (k : Int) < (n : Int) := by omega
      go_wp2
      go_quiet (fail)
      go_wp2
      go_roundw
      case rel => exact ⟨k + 1, _, by omega, by go_num, rfl⟩
      case measure => simp [intOf]; omega
    · go_wp2
      go_ret
      exact ⟨rfl, nq, rfl⟩

theorem hit_unique {f : Nat → Int} {i n j j' : Nat} (h : Hit f i n j) (h' : Hit f i n j') : j = j' := by
  rcases Nat.lt_trichotomy j j' with c | c | c
  · exact absurd h.2.2.2.1 (h'.2.2.2.2 j h.1 c).1
  · exact c
  · exact absurd h'.2.2.2.1 (h.2.2.2.2 j' h'.1 c).1

theorem bytes17_yes (a0 a1 a2 : Option Addr) (n0 c0 n1 c1 n2 c2 : Nat) (w : World) (h : n0 + n1 + n2 ≤ 1048576) :
    Calls Try.prog 17 #[.slice a0 n0 c0, .slice a1 n1 c1, .slice a2 n2 c2] w fun e w' => e = .returned (.bool true) ∧ w = w' := by
  go_enter Try.func17, Try.ntmps17
  go_wp2
  go_ret
  exact ⟨rfl, rfl⟩
theorem bytes17_no (a0 a1 a2 : Option Addr) (n0 c0 n1 c1 n2 c2 : Nat) (w : World) (h : 1048576 < n0 + n1 + n2) :
    Calls Try.prog 17 #[.slice a0 n0 c0, .slice a1 n1 c1, .slice a2 n2 c2] w fun e w' => e = .returned (.bool false) ∧ w = w' := by
  by_cases h0 : 1048576 < n0
  · have h0' : (1048576 : Int) < (n0 : Int) := by omega
    go_enter Try.func17, Try.ntmps17
    go_wp2
    go_ret
    exact ⟨rfl, rfl⟩
  by_cases h1 : 1048576 < n1
  · have h0' : (1048576 : Int) < (n1 : Int) := by omega
    go_enter Try.func17, Try.ntmps17
    go_wp2
    go_ret
    exact ⟨rfl, rfl⟩
  by_cases h01 : 1048576 < n0 + n1
  · have h0' : (1048576 : Int) < (n0 : Int) + (n1 : Int) := by omega
    go_enter Try.func17, Try.ntmps17
    go_wp2
    go_ret
    exact ⟨rfl, rfl⟩
  by_cases h2 : 1048576 < n2
  · have h0' : (1048576 : Int) < (n2 : Int) := by omega
    go_enter Try.func17, Try.ntmps17
    go_wp2
    go_ret
    exact ⟨rfl, rfl⟩
  · have h0' : (1048576 : Int) < (n0 : Int) + (n1 : Int) + (n2 : Int) := by omega
    go_enter Try.func17, Try.ntmps17
    go_wp2
    go_ret
    exact ⟨rfl, rfl⟩

/-- Too long: true at once. -/
theorem str2_big (a0 a1 a2 : Option Addr) (n0 c0 n1 c1 n2 c2 : Nat) (w : World) (h : 65536 < n0 ∨ 65536 < n1 ∨ 65536 < n2) :
    Calls Try.prog 6 #[.slice a0 n0 c0, .slice a1 n1 c1, .slice a2 n2 c2] w fun e w' => e = .returned (.bool true) ∧ Below w.heap.size w w' := by
  by_cases hs : n0 + n1 + n2 ≤ 1048576
  · by_cases h0 : 65536 < n0
    · have h0' : (65536 : Int) < (n0 : Int) := by omega
      go_enter Try.func6, Try.ntmps6
      go_wp2_with (go_at_call 17; refine (bytes17_yes _ _ _ _ _ _ _ _ _ _ hs).mono ?_; rintro e w' ⟨rfl, rfl⟩)
      go_ret
      exact ⟨rfl, Below.refl _ _⟩
    by_cases h1 : 65536 < n1
    · have h0' : (65536 : Int) < (n1 : Int) := by omega
      go_enter Try.func6, Try.ntmps6
      go_wp2_with (go_at_call 17; refine (bytes17_yes _ _ _ _ _ _ _ _ _ _ hs).mono ?_; rintro e w' ⟨rfl, rfl⟩)
      go_ret
      exact ⟨rfl, Below.refl _ _⟩
    · have h0' : (65536 : Int) < (n2 : Int) := by omega
      go_enter Try.func6, Try.ntmps6
      go_wp2_with (go_at_call 17; refine (bytes17_yes _ _ _ _ _ _ _ _ _ _ hs).mono ?_; rintro e w' ⟨rfl, rfl⟩)
      go_ret
      exact ⟨rfl, Below.refl _ _⟩
  · clear h
    have hs' : 1048576 < n0 + n1 + n2 := by omega
    go_enter Try.func6, Try.ntmps6
    go_wp2_with (go_at_call 17; refine (bytes17_no _ _ _ _ _ _ _ _ _ _ hs').mono ?_; rintro e w' ⟨rfl, rfl⟩)
    go_ret
    exact ⟨rfl, Below.refl _ _⟩

end Go.Proofs.Qxb6601145a
