/-
  THE CALLEES of the scanString laws: holds (21), scanString (20), ZZscanString (15), apiB1PrintableNoEscape (16), apiB1SameBytes (11).
  A slice's bytes are told by a function f : Nat -> Int.
-/
import Derived.Test.Qxb6601145aRows
import Derived.WalkKit
import Derived.ProofKit
import Derived.OpenShut
import Derived.ShutString
import Derived.ChangeOld
import Derived.Below
import Derived.WalkSmall
import Derived.WalkSpells
import Derived.Outline
import Derived.Deep.QuietTactic
import Derived.BigQuiet
import Derived.Laws.CopyOwn
namespace Go.Proofs.Qxb6601145a
open Go.ChangeShapes Go.WideShapes Go.ChangeAt Go.RowKit
set_option linter.unusedVariables false
set_option linter.unusedSimpArgs false

/-- i lies at or past the end. -/
theorem holds_out (a : Option Addr) (n cap : Nat) (i c : Int) (w : World) (h : (n : Int) ≤ i) :
    Calls Try.prog 21 #[.slice a n cap, .int .i64 i, .int .u8 c] w fun e w' => e = .returned (.bool false) ∧ w = w' := by
  have hd : ¬ i < (n : Int) := by omega
  go_enter Try.func21, Try.ntmps21
  go_wp2
  go_ret
  exact ⟨rfl, rfl⟩

theorem holds_in (b off n cap i : Nat) (x c : Int) (w : World) (h : i < n) (hn : n ≤ 9223372036854775807) (hc : w.cell? ⟨b, off + i, none⟩ = some (.int .u8 x)) :
    Calls Try.prog 21 #[.slice (some ⟨b, off, none⟩) n cap, .int .i64 i, .int .u8 c] w fun e w' => e = .returned (.bool (x == c)) ∧ w = w' := by
  go_enter Try.func21, Try.ntmps21
  go_wp2
  go_ret
  exact ⟨rfl, rfl⟩

/-- printable, no backslash. -/
def pr (c : Int) : Bool := decide (32 ≤ c) && decide (c ≤ 126) && (c != 92)

theorem printable_any (c : Int) (w : World) :
    Calls Try.prog 16 #[.int .u8 c] w fun e w' => e = .returned (.bool (pr c)) ∧ w = w' := by
  unfold pr
  by_cases h1 : 32 ≤ c
  · by_cases h2 : c ≤ 126
    · by_cases h3 : c = 92
      · subst h3
        go_enter Try.func16, Try.ntmps16
        go_wp2
        go_ret
        exact ⟨rfl, rfl⟩
      · go_enter Try.func16, Try.ntmps16
        go_wp2
        go_ret
        exact ⟨by simp [h1, h2], rfl⟩
    · go_enter Try.func16, Try.ntmps16
      go_wp2
      go_ret
      exact ⟨by simp; omega, rfl⟩
  · go_enter Try.func16, Try.ntmps16
    go_wp2
    go_ret
    exact ⟨by simp; omega, rfl⟩


/-- j is the closing quote of a plain text that opens at i. -/
def Hit (f : Nat → Int) (i n j : Nat) : Prop := i < j ∧ j < n ∧ f i = 34 ∧ f j = 34 ∧ ∀ k, i < k → k < j → f k ≠ 34 ∧ pr (f k) = true

theorem no_hit_head {f : Nat → Int} {i n : Nat} (h : f i ≠ 34) (j : Nat) : ¬ Hit f i n j := fun ⟨_, _, h', _⟩ => h h'
theorem no_hit_bad {f : Nat → Int} {i n k : Nat} (hk : i < k) (h1 : f k ≠ 34) (h2 : ¬ pr (f k) = true) (hall : ∀ m, i < m → m < k → f m ≠ 34) (j : Nat) : ¬ Hit f i n j := by
  rintro ⟨h3, _, _, h4, h5⟩
  rcases Nat.lt_trichotomy j k with h | h | h
  · exact hall j h3 h h4
  · subst h; exact h1 h4
  · exact h2 (h5 k hk h).2
theorem no_hit_end {f : Nat → Int} {i n : Nat} (hall : ∀ m, i < m → m < n → f m ≠ 34) (j : Nat) : ¬ Hit f i n j := fun ⟨h1, h2, _, h3, _⟩ => hall j h1 h2 h3

set_option maxHeartbeats 400000 in
theorem scan_in (b off n cap i : Nat) (f : Nat → Int) (w : World) (h : i < n) (hnc : n ≤ cap) (hn : n ≤ 1048576) (hcap : cap ≤ 9223372036854775807) (hc : ∀ k, k < n → w.cell? ⟨b, off + k, none⟩ = some (.int .u8 (f k))) :
    Calls Try.prog 20 #[.slice (some ⟨b, off, none⟩) n cap, .int .i64 i] w fun e w' => w = w' ∧
      ((∃ j : Nat, Hit f i n j ∧ e = .returned (.tuple #[.slice (some ⟨b, off + (i + 1), none⟩) (j - (i + 1)) (cap - (i + 1)), .int .i64 ((j : Int) + 1), .bool true])) ∨
       ((∀ j, ¬ Hit f i n j) ∧ e = .returned (.tuple #[.slice none 0 0, .int .i64 i, .bool false]))) := by
  have hci := hc i h
  by_cases hq : f i = 34
  · have hqb : (f i == 34) = true := by simp [hq]
    have H : Hid (∀ k, k < n → w.cell? ⟨b, off + k, none⟩ = some (.int .u8 (f k))) := hc
    clear hc
    go_enter Try.func20, Try.ntmps20
    go_wp2_with (go_at_call 21; refine (holds_in b off n cap i (f i) 34 _ h (by omega) hci).mono ?_; rintro e w' ⟨rfl, rfl⟩)
    go_loop [7] (fun t => ∃ k : Nat, i < k ∧ k ≤ n ∧ t = .int .i64 k ∧ ∀ m, i < m → m < k → f m ≠ 34 ∧ pr (f m) = true) (fun t => n - (intOf t).toNat)
    case atStart => exact ⟨i + 1, by omega, by omega, by go_num, fun m h1 h2 => by omega⟩
    case round =>
      obtain ⟨k, hik, hkn, rfl, hall⟩ := hrel
      have HA : Hid (∀ m, i < m → m < k → f m ≠ 34 ∧ pr (f m) = true) := hall
      clear hall
      by_cases hlt : k < n
      · have hck := H.out k hlt
        by_cases hk : f k = 34
        · have hkb : (f k == 34) = true := by simp [hk]
          go_wp2
          go_ret3
          exact ⟨rfl, .inl ⟨k, ⟨hik, hlt, hq, hk, HA.out⟩, rfl⟩⟩
        · have hkb : (f k == 34) = false := by simp [hk]
          have bad : Hid (¬ pr (f k) = true → ∀ j, ¬ Hit f i n j) := fun hp => no_hit_bad hik hk hp (fun m h1 h2 => (HA.out m h1 h2).1)
          by_cases c1 : f k < 32
          · have hb : Hid (∀ j, ¬ Hit f i n j) := bad.out (by simp [pr]; omega)
            go_wp2
            go_ret3
            exact ⟨rfl, .inr ⟨hb.out, rfl⟩⟩
          · by_cases c2 : 126 < f k
            · have hb : Hid (∀ j, ¬ Hit f i n j) := bad.out (by simp [pr]; omega)
              go_wp2
              go_ret3
              exact ⟨rfl, .inr ⟨hb.out, rfl⟩⟩
            · by_cases c3 : f k = 92
              · have c3b : (f k == 92) = true := by simp [c3]
                have hb : Hid (∀ j, ¬ Hit f i n j) := bad.out (by simp [pr]; omega)
                clear c3
                go_wp2
                go_ret3
                exact ⟨rfl, .inr ⟨hb.out, rfl⟩⟩
              · have c3b : (f k == 92) = false := by simp [c3]
                have hp : Hid (pr (f k) = true) := by show pr (f k) = true; simp [pr]; omega
                go_wp2
                go_round
                case rel => exact ⟨k + 1, by omega, by omega, by go_num, fun m h1 h2 => by rcases Nat.lt_succ_iff_lt_or_eq.1 h2 with h3 | rfl; exact HA.out m h1 h3; exact ⟨hk, hp.out⟩⟩
                case measure => simp [intOf]; omega
      · have hkn' : k = n := by omega
        subst hkn'
        go_wp2
        go_ret3
        exact ⟨rfl, .inr ⟨no_hit_end (fun m h1 h2 => (HA.out m h1 h2).1), rfl⟩⟩
  · have hqb : (f i == 34) = false := by simp [hq]
    have H : Hid (∀ k, k < n → w.cell? ⟨b, off + k, none⟩ = some (.int .u8 (f k))) := hc
    clear hc
    go_enter Try.func20, Try.ntmps20
    go_wp2_with (go_at_call 21; refine (holds_in b off n cap i (f i) 34 _ h (by omega) hci).mono ?_; rintro e w' ⟨rfl, rfl⟩)
    go_ret3
    exact ⟨rfl, .inr ⟨no_hit_head hq, rfl⟩⟩


theorem scan_out (a : Option Addr) (n cap : Nat) (i : Int) (w : World) (h : (n : Int) ≤ i) :
    Calls Try.prog 20 #[.slice a n cap, .int .i64 i] w fun e w' => w = w' ∧ e = .returned (.tuple #[.slice none 0 0, .int .i64 i, .bool false]) := by
  go_enter Try.func20, Try.ntmps20
  go_wp2_with (go_at_call 21; refine (holds_out a n cap i 34 _ h).mono ?_; rintro e w' ⟨rfl, rfl⟩)
  go_ret3
  exact ⟨rfl, rfl⟩

theorem zzscan_out (a : Option Addr) (n cap : Nat) (i : Int) (w : World) (h : (n : Int) ≤ i) :
    Calls Try.prog 15 #[.slice a n cap, .int .i64 i] w fun e w' => w = w' ∧ e = .returned (.tuple #[.slice none 0 0, .int .i64 i, .bool false]) := by
  go_enter Try.func15, Try.ntmps15
  go_wp2_with (go_at_call 20; refine (scan_out a n cap i _ h).mono ?_; rintro e w' ⟨rfl, rfl⟩)
  go_ret3
  exact ⟨rfl, rfl⟩

theorem zzscan_in (b off n cap i : Nat) (f : Nat → Int) (w : World) (h : i < n) (hnc : n ≤ cap) (hn : n ≤ 1048576) (hcap : cap ≤ 9223372036854775807) (hc : ∀ k, k < n → w.cell? ⟨b, off + k, none⟩ = some (.int .u8 (f k))) :
    Calls Try.prog 15 #[.slice (some ⟨b, off, none⟩) n cap, .int .i64 i] w fun e w' => w = w' ∧
      ((∃ j : Nat, Hit f i n j ∧ e = .returned (.tuple #[.slice (some ⟨b, off + (i + 1), none⟩) (j - (i + 1)) (cap - (i + 1)), .int .i64 ((j : Int) + 1), .bool true])) ∨
       ((∀ j, ¬ Hit f i n j) ∧ e = .returned (.tuple #[.slice none 0 0, .int .i64 i, .bool false]))) := by
  have H : Hid (∀ k, k < n → w.cell? ⟨b, off + k, none⟩ = some (.int .u8 (f k))) := hc
  clear hc
  go_enter Try.func15, Try.ntmps15
  go_wp2_with fail
  refine (scan_in b off n cap i f _ h hnc hn hcap H.out).mono ?_
  rintro e w' ⟨rfl, hit⟩
  rcases hit with ⟨j, hj, rfl⟩ | ⟨hj, rfl⟩
  · have HJ : Hid (Hit f i n j) := hj
    clear hj
    go_wp2
    go_ret3
    exact ⟨rfl, .inl ⟨j, HJ.out, rfl⟩⟩
  · have HJ : Hid (∀ j, ¬ Hit f i n j) := hj
    clear hj
    go_wp2
    go_ret3
    exact ⟨rfl, .inr ⟨HJ.out, rfl⟩⟩

/-- Two rows of the same n bytes. -/
theorem same_yes (b1 o1 c1 b2 o2 c2 n : Nat) (f : Nat → Int) (w : World) (hn : n ≤ 1048576) (h1 : ∀ k, k < n → w.cell? ⟨b1, o1 + k, none⟩ = some (.int .u8 (f k))) (h2 : ∀ k, k < n → w.cell? ⟨b2, o2 + k, none⟩ = some (.int .u8 (f k))) :
    Calls Try.prog 11 #[.slice (some ⟨b1, o1, none⟩) n c1, .slice (some ⟨b2, o2, none⟩) n c2] w fun e w' => e = .returned (.bool true) ∧ ∃ nq, w' = w.drewN nq := by
  have H1 : Hid (∀ k, k < n → w.cell? ⟨b1, o1 + k, none⟩ = some (.int .u8 (f k))) := h1
  have H2 : Hid (∀ k, k < n → w.cell? ⟨b2, o2 + k, none⟩ = some (.int .u8 (f k))) := h2
  clear h1 h2
  go_enter Try.func11, Try.ntmps11
  go_wp2
  go_loopw [5] (fun t wr => ∃ k nq : Nat, k ≤ n ∧ t = .int .i64 k ∧ wr = w.drewN nq) (fun t _ => n - (intOf t).toNat)
  case atStart => exact ⟨0, 0, Nat.zero_le _, rfl, rfl⟩
  case round =>
    obtain ⟨k, nq, hkn, rfl, rfl⟩ := hrel
    by_cases hlt : k < n
    · have g1 := H1.out k hlt
      have g2 := H2.out k hlt
      have hlt' : (k : Int) < (n : Int) := by omega
      go_wp2
      go_quiet (fail)
      go_wp2
      go_roundw
      case rel => exact ⟨k + 1, _, by omega, by go_num, rfl⟩
      case measure => simp [intOf]; omega
    · go_wp2
      go_ret
      exact ⟨rfl, nq, rfl⟩

end Go.Proofs.Qxb6601145a
