/-
  THE CALLEES of the scanInteger laws: apiB1IsDigit (10), apiB1IsJSONInteger (9), scanInteger (18), ZZscanInteger (8).
-/
import Derived.Test.Qxb6601145aStr2
namespace Go.Proofs.Qxb6601145a
open Go.ChangeShapes Go.WideShapes Go.ChangeAt Go.RowKit
set_option linter.unusedVariables false
set_option linter.unusedSimpArgs false

/-- A decimal digit. -/
def dg (c : Int) : Bool := decide (48 ≤ c) && decide (c ≤ 57)
theorem dg_iff (c : Int) : dg c = true ↔ 48 ≤ c ∧ c ≤ 57 := by simp [dg]
theorem dg_no (c : Int) : dg c = false ↔ ¬ (48 ≤ c ∧ c ≤ 57) := by rw [← dg_iff]; simp

theorem digit_any (c : Int) (w : World) :
    Calls Try.prog 10 #[.int .u8 c] w fun e w' => e = .returned (.bool (dg c)) ∧ w = w' := by
  unfold dg
  by_cases h1 : 48 ≤ c
  · by_cases h2 : c ≤ 57
    · go_enter Try.func10, Try.ntmps10
      go_wp2
      go_ret
      exact ⟨by simp [h1, h2], rfl⟩
    · go_enter Try.func10, Try.ntmps10
      go_wp2
      go_ret
      exact ⟨by simp; omega, rfl⟩
  · go_enter Try.func10, Try.ntmps10
    go_wp2
    go_ret
    exact ⟨by simp; omega, rfl⟩

/-- The bytes s .. k-1 are a JSON integer without its sign. -/
def Dig (f : Nat → Int) (s k : Nat) : Prop := s < k ∧ (f s = 48 → k = s + 1) ∧ ∀ m, s ≤ m → m < k → dg (f m) = true
/-- Where the digits begin. -/
def st (f : Nat → Int) (i : Nat) : Nat := if f i = 45 then i + 1 else i

theorem dig_shift {f : Nat → Int} {i s m : Nat} : Dig (fun q => f (i + q)) s m ↔ Dig f (i + s) (i + m) := by
  constructor
  · rintro ⟨h1, h2, h3⟩
    refine ⟨by omega, fun h => ?_, fun q hq1 hq2 => ?_⟩
    · have := h2 h; omega
    · obtain ⟨r, rfl⟩ : ∃ r, q = i + r := ⟨q - i, by omega⟩
      exact h3 r (by omega) (by omega)
  · rintro ⟨h1, h2, h3⟩
    refine ⟨by omega, fun h => ?_, fun q hq1 hq2 => ?_⟩
    · have := h2 h; omega
    · exact h3 (i + q) (by omega) (by omega)
theorem st_shift {f : Nat → Int} {i : Nat} : i + st (fun q => f (i + q)) 0 = st f i := by
  unfold st
  simp only [Nat.add_zero]
  split <;> omega

/-- j closes an integer at i: no digit follows. -/
def IHit (f : Nat → Int) (i n j : Nat) : Prop := i < j ∧ j ≤ n ∧ Dig f (st f i) j ∧ (j = n ∨ dg (f j) = false)

/-- The rest of apiB1IsJSONInteger's answer: digits alone. -/
theorem dig_none {g : Nat → Int} {s m : Nat} (h : m ≤ s) : ¬ Dig g s m := fun h' => by have := h'.1; omega

set_option maxHeartbeats 400000 in
theorem json_plain (b off m cap : Nat) (g : Nat → Int) (w : World) (h : 0 < m) (hmc : m ≤ cap) (hn : m ≤ 1048576) (hg : g 0 ≠ 45) (hc : ∀ k, k < m → w.cell? ⟨b, off + k, none⟩ = some (.int .u8 (g k))) :
    Calls Try.prog 9 #[.slice (some ⟨b, off, none⟩) m cap] w fun e w' => w = w' ∧ ((Dig g 0 m ∧ e = .returned (.bool true)) ∨ (¬ Dig g 0 m ∧ e = .returned (.bool false))) := by
  have hgb : (g 0 == 45) = false := by simpa using hg
  have hc0 : w.cell? ⟨b, off, none⟩ = some (.int .u8 (g 0)) := hc 0 h
  have H : Hid (∀ k, k < m → w.cell? ⟨b, off + k, none⟩ = some (.int .u8 (g k))) := hc
  have hm0 : (0 : Int) < (m : Int) := by omega
  have hm0b : ((m : Int) == 0) = false := by simp; omega
  clear hc
  by_cases hz : g 0 = 48
  · have hzb : (g 0 == 48) = true := by simpa using hz
    have Hz : Hid (g 0 = 48) := hz
    clear hz hg
    by_cases h1 : m = 1
    · subst h1
      have hyes : Hid (Dig g 0 1) := ⟨by omega, fun _ => rfl, fun q h2 h3 => by obtain rfl : q = 0 := by omega
                                                                                rw [Hz.out]; rfl⟩
      go_enter Try.func9, Try.ntmps9
      go_wp2
      go_ret
      exact ⟨rfl, .inl ⟨hyes.out, rfl⟩⟩
    · have h1b : ((m : Int) == 1) = false := by simp; omega
      have hno : Hid (¬ Dig g 0 m) := fun h' => h1 (h'.2.1 Hz.out)
      go_enter Try.func9, Try.ntmps9
      go_wp2
      go_ret
      exact ⟨rfl, .inr ⟨hno.out, rfl⟩⟩
  · have hzb : (g 0 == 48) = false := by simpa using hz
    go_enter Try.func9, Try.ntmps9
    go_wp2
    go_loop [3] (fun t => ∃ k : Nat, k ≤ m ∧ t = .int .i64 k ∧ ∀ q, q < k → dg (g q) = true) (fun t => m - (intOf t).toNat)
    case atStart => exact ⟨0, Nat.zero_le _, rfl, fun q hq => by omega⟩
    case round =>
      obtain ⟨k, hk, rfl, hall⟩ := hrel
      have HA : Hid (∀ q, q < k → dg (g q) = true) := hall
      clear hall
      by_cases hlt : k < m
      · have hck := H.out k hlt
        cases hd : dg (g k)
        · have hno : Hid (¬ Dig g 0 m) := fun h' => by have := h'.2.2 k (by omega) hlt; rw [hd] at this; cases this
          go_wp2_with (go_at_call 10; refine (digit_any _ _).mono ?_; rintro e w' ⟨rfl, rfl⟩)
          go_ret
          exact ⟨rfl, .inr ⟨hno.out, rfl⟩⟩
        · go_wp2_with (go_at_call 10; refine (digit_any _ _).mono ?_; rintro e w' ⟨rfl, rfl⟩)
          go_round
          case rel => exact ⟨k + 1, by omega, by go_num, fun q h2 => by rcases Nat.lt_succ_iff_lt_or_eq.1 h2 with h3 | rfl; exact HA.out q h3; exact hd⟩
          case measure => simp [intOf]; omega
      · obtain rfl : m = k := by omega
        have hyes : Hid (Dig g 0 m) := ⟨h, fun e => absurd e hz, fun q _ hq => HA.out q hq⟩
        go_wp2
        go_ret
        exact ⟨rfl, .inl ⟨hyes.out, rfl⟩⟩


theorem json_bare (b off cap : Nat) (g : Nat → Int) (w : World) (hmc : 1 ≤ cap) (hg : g 0 = 45) (hc0 : w.cell? ⟨b, off, none⟩ = some (.int .u8 (g 0))) :
    Calls Try.prog 9 #[.slice (some ⟨b, off, none⟩) 1 cap] w fun e w' => w = w' ∧ e = .returned (.bool false) := by
  have hgb : (g 0 == 45) = true := by simpa using hg
  clear hg
  by_cases hcap : cap = 1
  · subst hcap
    go_enter Try.func9, Try.ntmps9
    go_wp2
    go_ret
    exact ⟨rfl, rfl⟩
  · go_enter Try.func9, Try.ntmps9
    go_wp2
    go_ret
    exact ⟨rfl, rfl⟩

set_option maxHeartbeats 400000 in
theorem json_minus (b off m cap : Nat) (g : Nat → Int) (w : World) (h : 0 < m) (hmc : m + 1 ≤ cap) (hn : m + 1 ≤ 1048576) (hg : g 0 = 45) (hc0 : w.cell? ⟨b, off, none⟩ = some (.int .u8 (g 0)))
    (hc : ∀ k, k < m → w.cell? ⟨b, off + 1 + k, none⟩ = some (.int .u8 (g (1 + k)))) :
    Calls Try.prog 9 #[.slice (some ⟨b, off, none⟩) (m + 1) cap] w fun e w' => w = w' ∧ ((Dig g 1 (m + 1) ∧ e = .returned (.bool true)) ∨ (¬ Dig g 1 (m + 1) ∧ e = .returned (.bool false))) := by
  have hgb : (g 0 == 45) = true := by simpa using hg
  clear hg
  have hc1 : w.cell? ⟨b, off + 1, none⟩ = some (.int .u8 (g 1)) := hc 0 h
  have H : Hid (∀ k, k < m → w.cell? ⟨b, off + 1 + k, none⟩ = some (.int .u8 (g (1 + k)))) := hc
  have hm0 : (0 : Int) < (m : Int) := by omega
  have hm0b : ((m : Int) == 0) = false := by simp; omega
  have hcap : ¬ cap = 1 := by omega
  clear hc
  by_cases hz : g 1 = 48
  · have hzb : (g 1 == 48) = true := by simpa using hz
    have Hz : Hid (g 1 = 48) := hz
    clear hz
    by_cases h1 : m = 1
    · subst h1
      have hyes : Hid (Dig g 1 (1 + 1)) := ⟨by omega, fun _ => rfl, fun q h2 h3 => by obtain rfl : q = 1 := by omega
                                                                                      rw [Hz.out]; rfl⟩
      go_enter Try.func9, Try.ntmps9
      go_wp2
      go_ret
      exact ⟨rfl, .inl ⟨hyes.out, rfl⟩⟩
    · have h1b : ((m : Int) == 1) = false := by simp; omega
      have hno : Hid (¬ Dig g 1 (m + 1)) := fun h' => h1 (by have := h'.2.1 Hz.out; omega)
      go_enter Try.func9, Try.ntmps9
      go_wp2
      go_ret
      exact ⟨rfl, .inr ⟨hno.out, rfl⟩⟩
  · have hzb : (g 1 == 48) = false := by simpa using hz
    go_enter Try.func9, Try.ntmps9
    go_wp2
    go_loop [3] (fun t => ∃ k : Nat, k ≤ m ∧ t = .int .i64 k ∧ ∀ q, q < k → dg (g (1 + q)) = true) (fun t => m - (intOf t).toNat)
    case atStart => exact ⟨0, Nat.zero_le _, rfl, fun q hq => by omega⟩
    case round =>
      obtain ⟨k, hk, rfl, hall⟩ := hrel
      have HA : Hid (∀ q, q < k → dg (g (1 + q)) = true) := hall
      clear hall
      by_cases hlt : k < m
      · have hck := H.out k hlt
        cases hd : dg (g (1 + k))
        · have hno : Hid (¬ Dig g 1 (m + 1)) := fun h' => by have := h'.2.2 (1 + k) (by omega) (by omega); rw [hd] at this; cases this
          go_wp2_with (go_at_call 10; refine (digit_any _ _).mono ?_; rintro e w' ⟨rfl, rfl⟩)
          go_ret
          exact ⟨rfl, .inr ⟨hno.out, rfl⟩⟩
        · go_wp2_with (go_at_call 10; refine (digit_any _ _).mono ?_; rintro e w' ⟨rfl, rfl⟩)
          go_round
          case rel => exact ⟨k + 1, by omega, by go_num, fun q h2 => by rcases Nat.lt_succ_iff_lt_or_eq.1 h2 with h3 | rfl; exact HA.out q h3; exact hd⟩
          case measure => simp [intOf]; omega
      · obtain rfl : m = k := by omega
        have hyes : Hid (Dig g 1 (m + 1)) := ⟨by omega, fun e => absurd e hz, fun q hq1 hq2 => by obtain ⟨r, rfl⟩ : ∃ r, q = 1 + r := ⟨q - 1, by omega⟩
                                                                                                  exact HA.out r (by omega)⟩
        go_wp2
        go_ret
        exact ⟨rfl, .inl ⟨hyes.out, rfl⟩⟩

theorem json_any (b off m cap : Nat) (g : Nat → Int) (w : World) (h : 0 < m) (hmc : m ≤ cap) (hn : m ≤ 1048576) (hc : ∀ k, k < m → w.cell? ⟨b, off + k, none⟩ = some (.int .u8 (g k))) :
    Calls Try.prog 9 #[.slice (some ⟨b, off, none⟩) m cap] w fun e w' => w = w' ∧ ((Dig g (st g 0) m ∧ e = .returned (.bool true)) ∨ (¬ Dig g (st g 0) m ∧ e = .returned (.bool false))) := by
  by_cases hg : g 0 = 45
  · have hs : st g 0 = 1 := by simp [st, hg]
    rw [hs]
    by_cases h1 : m = 1
    · subst h1
      exact (json_bare b off cap g w hmc hg (hc 0 h)).mono fun e w' ⟨h1, h2⟩ => ⟨h1, .inr ⟨dig_none (Nat.le_refl _), h2⟩⟩
    · obtain ⟨r, rfl⟩ : ∃ r, m = r + 1 := ⟨m - 1, by omega⟩
      exact json_minus b off r cap g w (by omega) hmc hn hg (hc 0 h) (fun k hk => by rw [Nat.add_assoc]; exact hc (1 + k) (by omega))
  · have hs : st g 0 = 0 := by simp [st, hg]
    rw [hs]
    exact json_plain b off m cap g w h hmc hn hg hc

end Go.Proofs.Qxb6601145a
