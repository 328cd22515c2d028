/-
  plain (8), ZZPlain (5).
-/
import Derived.Test.Qxb6001124aBase
namespace Go.Proofs.Qxb6001124a
open Go.ChangeShapes Go.WideShapes Go.ChangeAt Go.RowKit Go.PlainAid
set_option linter.unusedVariables false
set_option linter.unusedSimpArgs false

/-- digits alone. -/
def P0 (g : Nat → Int) (m : Nat) : Prop := 0 < m ∧ ∀ k, k < m → dg (g k) = true
/-- digits, a point at p, digits. -/
def P1 (g : Nat → Int) (m p : Nat) : Prop := 0 < p ∧ p + 1 < m ∧ g p = 46 ∧ ∀ k, k < m → k ≠ p → dg (g k) = true
def NoP (g : Nat → Int) (m : Nat) : Prop := ¬ P0 g m ∧ ∀ p, ¬ P1 g m p

/-- What the loop has seen of the first k: D digits; the point's place P, or -1. -/
def St (g : Nat → Int) (k D : Nat) (P : Int) : Prop :=
  (P = -1 ∧ D = k ∧ ∀ j, j < k → dg (g j) = true) ∨ (∃ p : Nat, P = p ∧ p < k ∧ D + 1 = k ∧ g p = 46 ∧ ∀ j, j < k → j ≠ p → dg (g j) = true)
theorem st_start (g : Nat → Int) : St g 0 0 (-1) := .inl ⟨rfl, rfl, fun j hj => by omega⟩
theorem st_digit {g : Nat → Int} {k D : Nat} {P : Int} (h : St g k D P) (hd : dg (g k) = true) : St g (k + 1) (D + 1) P := by
  rcases h with ⟨h1, h2, h3⟩ | ⟨p, h1, h2, h3, h4, h5⟩
  · exact .inl ⟨h1, by omega, fun j hj => by rcases Nat.lt_succ_iff_lt_or_eq.1 hj with c | rfl; exact h3 j c; exact hd⟩
  · exact .inr ⟨p, h1, by omega, by omega, h4, fun j hj hne => by rcases Nat.lt_succ_iff_lt_or_eq.1 hj with c | rfl; exact h5 j c hne; exact hd⟩
theorem st_point {g : Nat → Int} {k D : Nat} {P : Int} (h : St g k D P) (hp : P < 0) (hx : g k = 46) : St g (k + 1) D k := by
  rcases h with ⟨h1, h2, h3⟩ | ⟨p, h1, h2, h3, h4, h5⟩
  · exact .inr ⟨k, rfl, by omega, by omega, hx, fun j hj hne => by rcases Nat.lt_succ_iff_lt_or_eq.1 hj with c | c; exact h3 j c; exact absurd c hne⟩
  · omega
theorem st_bounds {g : Nat → Int} {k D : Nat} {P : Int} (h : St g k D P) : D ≤ k ∧ -1 ≤ P ∧ P < k + 1 ∧ (P = -1 ∨ 0 ≤ P) := by
  rcases h with ⟨h1, h2, h3⟩ | ⟨p, h1, h2, h3, h4, h5⟩ <;> omega
theorem dg46 : dg 46 = false := by decide
/-- A byte that is no digit and no first point: refused. -/
theorem st_bad {g : Nat → Int} {k m D : Nat} {P : Int} (h : St g k D P) (hk : k < m) (hd : dg (g k) = false) (hp : g k = 46 → 0 ≤ P) : NoP g m := by
  refine ⟨fun h0 => ?_, fun p h1 => ?_⟩
  · have := h0.2 k hk
    rw [hd] at this; cases this
  · obtain ⟨a1, a2, a3, a4⟩ := h1
    by_cases c : k = p
    · subst c
      rcases h with ⟨b1, b2, b3⟩ | ⟨p', b1, b2, b3, b4, b5⟩
      · have := hp a3; omega
      · have := a4 p' (by omega) (by omega)
        rw [b4, dg46] at this; cases this
    · have := a4 k hk c
      rw [hd] at this; cases this
/-- The end: no digit, or the point first or last: refused. -/
theorem st_no {g : Nat → Int} {m D : Nat} {P : Int} (h : St g m D P) (hx : D = 0 ∨ P = 0 ∨ P = (m : Int) - 1) : NoP g m := by
  refine ⟨fun h0 => ?_, fun p h1 => ?_⟩
  · obtain ⟨c1, c2⟩ := h0
    rcases h with ⟨b1, b2, b3⟩ | ⟨p', b1, b2, b3, b4, b5⟩
    · omega
    · have := c2 p' b2
      rw [b4, dg46] at this; cases this
  · obtain ⟨a1, a2, a3, a4⟩ := h1
    rcases h with ⟨b1, b2, b3⟩ | ⟨p', b1, b2, b3, b4, b5⟩
    · have := b3 p (by omega)
      rw [a3, dg46] at this; cases this
    · by_cases c : p' = p
      · subst c; omega
      · have := a4 p' b2 c
        rw [b4, dg46] at this; cases this
theorem st_yes0 {g : Nat → Int} {m D : Nat} {P : Int} (h : St g m D P) (hP : P < 0) (hD : D ≠ 0) : P0 g m ∧ D = m := by
  rcases h with ⟨b1, b2, b3⟩ | ⟨p', b1, b2, b3, b4, b5⟩
  · exact ⟨⟨by omega, b3⟩, b2⟩
  · omega
theorem st_yes1 {g : Nat → Int} {m D : Nat} {P : Int} (h : St g m D P) (hP : 0 < P) (hl : P ≠ (m : Int) - 1) : ∃ p : Nat, P = p ∧ P1 g m p ∧ D + 1 = m := by
  rcases h with ⟨b1, b2, b3⟩ | ⟨p', b1, b2, b3, b4, b5⟩
  · omega
  · exact ⟨p', b1, ⟨by omega, by omega, b4, b5⟩, b3⟩

/-- What plain answers of the body t. -/
def PPost (t : ByteArray) (w : World) (e : Ending) (w' : World) : Prop := w = w' ∧
  ((P0 (bt t) t.size ∧ ∃ c, e = .returned (.tuple #[.int .i64 c, .int .i32 0, .bool (decide ((t.size : Int) ≤ 18)), .bool true])) ∨
   (∃ p : Nat, P1 (bt t) t.size p ∧ ∃ c, e = .returned (.tuple #[.int .i64 c, .int .i32 ((p : Int) + 1 - t.size), .bool (decide ((t.size : Int) - 1 ≤ 18)), .bool true])) ∨
   (NoP (bt t) t.size ∧ e = .returned (.tuple #[.int .i64 0, .int .i32 0, .bool false, .bool false])))

set_option maxHeartbeats 2000000 in
/-- no sign (an empty text too). -/
theorem plain_bare (t : ByteArray) (w : World) (hn : t.size ≤ 1048576) (hs : t.size = 0 ∨ (0 < t.size ∧ bt t 0 ≠ 45)) : Calls Try.prog 8 #[.string t] w (PPost t w) := by
  have hb := get_bt t
  rcases hs with hs | ⟨hs, h45⟩
  · have hs0 : decide ((0 : Int) < (t.size : Int)) = false := decide_eq_false (by omega)
    have hs1 : t.size ≤ 0 := by omega
    have HN : Hid (NoP (bt t) t.size) := ⟨fun h => by have := h.1; omega, fun p h => by have := h.2.1; omega⟩
    clear hs
    go_enter Try.func8, Try.ntmps8
    go_wp2
    go_loop [2, 3, 7, 8, 9] (fun sc se sd sp t9 => sc = .int .i64 0 ∧ se = .int .i32 0 ∧ sd = .int .i64 0 ∧ sp = .int .i64 (-1) ∧ t9 = .int .i64 0) (fun _ _ _ _ _ => 0)
    case atStart => exact ⟨rfl, rfl, rfl, rfl, rfl⟩
    case round =>
      obtain ⟨rfl, rfl, rfl, rfl, rfl⟩ := hrel
      go_wp2
      exact bodyPost_ret (v := .tuple #[.int .i64 0, .int .i32 0, .bool false, .bool false]) (by simp [results, Try.results8, go_sem]) rfl ⟨rfl, .inr (.inr ⟨unhide HN, rfl⟩)⟩
  · have hs0 : (0 : Int) < (t.size : Int) := by omega
    have h45b : (bt t 0 == 45) = false := by simpa using h45
    clear h45
    go_enter Try.func8, Try.ntmps8
    go_wp2
    go_loop [2, 3, 7, 8, 9] (fun sc se sd sp t9 => ∃ (k D : Nat) (c P : Int), k ≤ t.size ∧ se = .int .i32 0 ∧ t9 = .int .i64 k ∧ sc = .int .i64 c ∧ sd = .int .i64 D ∧ sp = .int .i64 P ∧ St (bt t) k D P) (fun _ _ _ _ t9 => t.size - (intOf t9).toNat)
    case atStart => exact ⟨0, 0, 0, -1, Nat.zero_le _, rfl, rfl, rfl, rfl, rfl, st_start _⟩
    case round =>
      obtain ⟨k, D, c, P, hk, rfl, rfl, rfl, rfl, rfl, hst⟩ := hrel
      have hbd := st_bounds hst
      obtain ⟨hb1, hb2, hb3, hb4⟩ := hbd
      by_cases hlt : k < t.size
      · have hx0 := bt_nonneg t k
        have hx1 := bt_le t k
        by_cases h1 : 48 ≤ bt t k ∧ bt t k ≤ 57
        · have HN := hide (st_digit hst ((dg_iff _).2 h1))
          obtain ⟨h1, h2⟩ := h1
          clear hst
          by_cases h18 : (D : Int) + 1 ≤ 18
          · go_wp2
            go_round
            case rel => exact ⟨k + 1, D + 1, _, P, by omega, rfl, by go_num, rfl, by go_num, rfl, unhide HN⟩
            case measure => simp [intOf]; omega
          · go_wp2
            go_round
            case rel => exact ⟨k + 1, D + 1, _, P, by omega, rfl, by go_num, rfl, by go_num, rfl, unhide HN⟩
            case measure => simp [intOf]; omega
        · by_cases h46 : bt t k = 46
          · have h46b : (bt t k == 46) = true := by simpa using h46
            have hlow : bt t k < 48 := by omega
            by_cases hP : P < 0
            · have HN := hide (st_point hst hP h46)
              clear hst h46 h1
              go_wp2
              go_round
              case rel => exact ⟨k + 1, D, c, k, by omega, rfl, by go_num, rfl, rfl, rfl, unhide HN⟩
              case measure => simp [intOf]; omega
            · have HN := hide (st_bad hst hlt ((dg_no _).2 h1) (fun _ => by omega))
              clear hst h46 h1
              go_wp2
              exact bodyPost_ret (v := .tuple #[.int .i64 0, .int .i32 0, .bool false, .bool false]) (by simp [results, Try.results8, go_sem]) rfl ⟨rfl, .inr (.inr ⟨unhide HN, rfl⟩)⟩
          · have h46b : (bt t k == 46) = false := by simpa using h46
            have HN := hide (st_bad hst hlt ((dg_no _).2 h1) (fun h => absurd h h46))
            have hor : bt t k < 48 ∨ 57 < bt t k := by omega
            clear hst h46 h1
            rcases hor with h1 | h1
            · go_wp2
              exact bodyPost_ret (v := .tuple #[.int .i64 0, .int .i32 0, .bool false, .bool false]) (by simp [results, Try.results8, go_sem]) rfl ⟨rfl, .inr (.inr ⟨unhide HN, rfl⟩)⟩
            · go_wp2
              exact bodyPost_ret (v := .tuple #[.int .i64 0, .int .i32 0, .bool false, .bool false]) (by simp [results, Try.results8, go_sem]) rfl ⟨rfl, .inr (.inr ⟨unhide HN, rfl⟩)⟩
      · obtain rfl : t.size = k := by omega
        by_cases d0 : D = 0
        · have HN := hide (st_no hst (.inl d0))
          have d0b : ((D : Int) == 0) = true := by simp; omega
          clear hst
          go_wp2
          exact bodyPost_ret (v := .tuple #[.int .i64 0, .int .i32 0, .bool false, .bool false]) (by simp [results, Try.results8, go_sem]) rfl ⟨rfl, .inr (.inr ⟨unhide HN, rfl⟩)⟩
        · have d0b : ((D : Int) == 0) = false := by simp; omega
          by_cases p0 : P = 0
          · have HN := hide (st_no hst (.inr (.inl p0)))
            have p0b : (P == 0) = true := by simp [p0]
            clear hst p0
            go_wp2
            exact bodyPost_ret (v := .tuple #[.int .i64 0, .int .i32 0, .bool false, .bool false]) (by simp [results, Try.results8, go_sem]) rfl ⟨rfl, .inr (.inr ⟨unhide HN, rfl⟩)⟩
          · have p0b : (P == 0) = false := by simpa using p0
            by_cases pl : P = (t.size : Int) - 1
            · have HN := hide (st_no hst (.inr (.inr pl)))
              have plb : (P == (t.size : Int) - 1) = true := by simpa using pl
              clear hst pl
              go_wp2
              exact bodyPost_ret (v := .tuple #[.int .i64 0, .int .i32 0, .bool false, .bool false]) (by simp [results, Try.results8, go_sem]) rfl ⟨rfl, .inr (.inr ⟨unhide HN, rfl⟩)⟩
            · have plb : (P == (t.size : Int) - 1) = false := by simpa using pl
              by_cases hP : 0 < P
              · obtain ⟨p, hpe, hp1, hDm⟩ := st_yes1 hst hP pl
                have HN := hide hp1
                have hpm := hp1.2.1
                have hD1 : (D : Int) ≤ (t.size : Int) - 1 := by omega
                have hD2 : (t.size : Int) - 1 ≤ (D : Int) := by omega
                have hE : (D : Int) = (t.size : Int) - 1 := by omega
                have HE := hide hE
                subst hpe
                clear hst hp1 pl hDm hE d0 p0
                go_wp2
                refine bodyPost_ret (v := .tuple #[.int .i64 c, .int .i32 ((p : Int) + 1 - t.size), .bool (decide ((D : Int) ≤ 18)), .bool true]) (by simp [results, Try.results8, go_sem]) rfl ⟨rfl, .inr (.inl ⟨p, unhide HN, c, ?_⟩)⟩
                rw [unhide HE]
              · obtain ⟨hp0, hDm⟩ := st_yes0 hst (by omega) d0
                have HN := hide hp0
                have hE : (D : Int) = (t.size : Int) := by omega
                have HE := hide hE
                clear hst hp0 pl hDm hE d0 p0
                go_wp2
                refine bodyPost_ret (v := .tuple #[.int .i64 c, .int .i32 0, .bool (decide ((D : Int) ≤ 18)), .bool true]) (by simp [results, Try.results8, go_sem]) rfl ⟨rfl, .inl ⟨unhide HN, c, ?_⟩⟩
                rw [unhide HE]

set_option maxHeartbeats 2000000 in
/-- a minus sign, then t. -/
theorem plain_minus (s t : ByteArray) (ht : s.extract 1 s.size = t) (w : World) (hn : s.size ≤ 1048576) (hn' : t.size ≤ 1048576) (hs : 0 < s.size) (h45 : bt s 0 = 45) : Calls Try.prog 8 #[.string s] w (PPost t w) := by
  have hbs := get_bt s
  have hs0 : (0 : Int) < (s.size : Int) := by omega
  have h45b : (bt s 0 == 45) = true := by simpa using h45
  clear h45
  go_enter Try.func8, Try.ntmps8
  go_wp2
  have hb := get_bt t
  clear ht
  go_loop [2, 3, 7, 8, 9] (fun sc se sd sp t9 => ∃ (k D : Nat) (c P : Int), k ≤ t.size ∧ se = .int .i32 0 ∧ t9 = .int .i64 k ∧ sc = .int .i64 c ∧ sd = .int .i64 D ∧ sp = .int .i64 P ∧ St (bt t) k D P) (fun _ _ _ _ t9 => t.size - (intOf t9).toNat)
  case atStart => exact ⟨0, 0, 0, -1, Nat.zero_le _, rfl, rfl, rfl, rfl, rfl, st_start _⟩
  case round =>
    obtain ⟨k, D, c, P, hk, rfl, rfl, rfl, rfl, rfl, hst⟩ := hrel
    have hbd := st_bounds hst
    obtain ⟨hb1, hb2, hb3, hb4⟩ := hbd
    by_cases hlt : k < t.size
    · have hx0 := bt_nonneg t k
      have hx1 := bt_le t k
      by_cases h1 : 48 ≤ bt t k ∧ bt t k ≤ 57
      · have HN := hide (st_digit hst ((dg_iff _).2 h1))
        obtain ⟨h1, h2⟩ := h1
        clear hst
        by_cases h18 : (D : Int) + 1 ≤ 18
        · go_wp2
          go_round
          case rel => exact ⟨k + 1, D + 1, _, P, by omega, rfl, by go_num, rfl, by go_num, rfl, unhide HN⟩
          case measure => simp [intOf]; omega
        · go_wp2
          go_round
          case rel => exact ⟨k + 1, D + 1, _, P, by omega, rfl, by go_num, rfl, by go_num, rfl, unhide HN⟩
          case measure => simp [intOf]; omega
      · by_cases h46 : bt t k = 46
        · have h46b : (bt t k == 46) = true := by simpa using h46
          have hlow : bt t k < 48 := by omega
          by_cases hP : P < 0
          · have HN := hide (st_point hst hP h46)
            clear hst h46 h1
            go_wp2
            go_round
            case rel => exact ⟨k + 1, D, c, k, by omega, rfl, by go_num, rfl, rfl, rfl, unhide HN⟩
            case measure => simp [intOf]; omega
          · have HN := hide (st_bad hst hlt ((dg_no _).2 h1) (fun _ => by omega))
            clear hst h46 h1
            go_wp2
            exact bodyPost_ret (v := .tuple #[.int .i64 0, .int .i32 0, .bool false, .bool false]) (by simp [results, Try.results8, go_sem]) rfl ⟨rfl, .inr (.inr ⟨unhide HN, rfl⟩)⟩
        · have h46b : (bt t k == 46) = false := by simpa using h46
          have HN := hide (st_bad hst hlt ((dg_no _).2 h1) (fun h => absurd h h46))
          have hor : bt t k < 48 ∨ 57 < bt t k := by omega
          clear hst h46 h1
          rcases hor with h1 | h1
          · go_wp2
            exact bodyPost_ret (v := .tuple #[.int .i64 0, .int .i32 0, .bool false, .bool false]) (by simp [results, Try.results8, go_sem]) rfl ⟨rfl, .inr (.inr ⟨unhide HN, rfl⟩)⟩
          · go_wp2
            exact bodyPost_ret (v := .tuple #[.int .i64 0, .int .i32 0, .bool false, .bool false]) (by simp [results, Try.results8, go_sem]) rfl ⟨rfl, .inr (.inr ⟨unhide HN, rfl⟩)⟩
    · obtain rfl : t.size = k := by omega
      by_cases d0 : D = 0
      · have HN := hide (st_no hst (.inl d0))
        have d0b : ((D : Int) == 0) = true := by simp; omega
        clear hst
        go_wp2
        exact bodyPost_ret (v := .tuple #[.int .i64 0, .int .i32 0, .bool false, .bool false]) (by simp [results, Try.results8, go_sem]) rfl ⟨rfl, .inr (.inr ⟨unhide HN, rfl⟩)⟩
      · have d0b : ((D : Int) == 0) = false := by simp; omega
        by_cases p0 : P = 0
        · have HN := hide (st_no hst (.inr (.inl p0)))
          have p0b : (P == 0) = true := by simp [p0]
          clear hst p0
          go_wp2
          exact bodyPost_ret (v := .tuple #[.int .i64 0, .int .i32 0, .bool false, .bool false]) (by simp [results, Try.results8, go_sem]) rfl ⟨rfl, .inr (.inr ⟨unhide HN, rfl⟩)⟩
        · have p0b : (P == 0) = false := by simpa using p0
          by_cases pl : P = (t.size : Int) - 1
          · have HN := hide (st_no hst (.inr (.inr pl)))
            have plb : (P == (t.size : Int) - 1) = true := by simpa using pl
            clear hst pl
            go_wp2
            exact bodyPost_ret (v := .tuple #[.int .i64 0, .int .i32 0, .bool false, .bool false]) (by simp [results, Try.results8, go_sem]) rfl ⟨rfl, .inr (.inr ⟨unhide HN, rfl⟩)⟩
          · have plb : (P == (t.size : Int) - 1) = false := by simpa using pl
            by_cases hP : 0 < P
            · obtain ⟨p, hpe, hp1, hDm⟩ := st_yes1 hst hP pl
              have HN := hide hp1
              have hpm := hp1.2.1
              have hD1 : (D : Int) ≤ (t.size : Int) - 1 := by omega
              have hD2 : (t.size : Int) - 1 ≤ (D : Int) := by omega
              have hE : (D : Int) = (t.size : Int) - 1 := by omega
              have HE := hide hE
              subst hpe
              clear hst hp1 pl hDm hE d0 p0
              go_wp2
              refine bodyPost_ret (v := .tuple #[.int .i64 (wrap64 (-c)), .int .i32 ((p : Int) + 1 - t.size), .bool (decide ((D : Int) ≤ 18)), .bool true]) (by simp [results, Try.results8, go_sem]) rfl ⟨rfl, .inr (.inl ⟨p, unhide HN, (wrap64 (-c)), ?_⟩)⟩
              rw [unhide HE]
            · obtain ⟨hp0, hDm⟩ := st_yes0 hst (by omega) d0
              have HN := hide hp0
              have hE : (D : Int) = (t.size : Int) := by omega
              have HE := hide hE
              clear hst hp0 pl hDm hE d0 p0
              go_wp2
              refine bodyPost_ret (v := .tuple #[.int .i64 (wrap64 (-c)), .int .i32 0, .bool (decide ((D : Int) ≤ 18)), .bool true]) (by simp [results, Try.results8, go_sem]) rfl ⟨rfl, .inl ⟨unhide HN, (wrap64 (-c)), ?_⟩⟩
              rw [unhide HE]

end Go.Proofs.Qxb6001124a
