/-
  ZZPlain (5), zzSplitDecimal (6).
-/
import Derived.Test.Qxb6001124aPlain
namespace Go.Proofs.Qxb6001124a
open Go.ChangeShapes Go.WideShapes Go.ChangeAt Go.RowKit Go.PlainAid
set_option linter.unusedVariables false
set_option linter.unusedSimpArgs false

theorem bt_extract (t : ByteArray) (a b k : Nat) (hb : b ≤ t.size) (hk : k < b - a) : bt (t.extract a b) k = bt t (a + k) := by
  have h1 : k < (t.extract a b).size := by simp; omega
  have h2 : a + k < t.size := by omega
  unfold bt
  rw [dif_pos h1, dif_pos h2]
  rw [ByteArray.getElem_extract]

/-- s without its sign. -/
def body (s : ByteArray) : ByteArray := if 0 < s.size ∧ bt s 0 = 45 then s.extract 1 s.size else s
theorem body_minus {s : ByteArray} (h : 0 < s.size ∧ bt s 0 = 45) : body s = s.extract 1 s.size := by unfold body; rw [if_pos h]
theorem body_bare {s : ByteArray} (h : ¬ (0 < s.size ∧ bt s 0 = 45)) : body s = s := by unfold body; rw [if_neg h]
theorem body_le (s : ByteArray) : (body s).size ≤ s.size := by
  unfold body
  split
  · simp
  · exact Nat.le_refl _

theorem plain_any (s : ByteArray) (w : World) (hn : s.size ≤ 1048576) : Calls Try.prog 8 #[.string s] w (PPost (body s) w) := by
  by_cases h : 0 < s.size ∧ bt s 0 = 45
  · have hl := body_le s
    exact plain_minus s (body s) (body_minus h).symm w hn (by omega) h.1 h.2
  · rw [body_bare h]
    exact plain_bare s w hn (by
      by_cases h0 : s.size = 0
      · exact .inl h0
      · exact .inr ⟨by omega, fun c => h ⟨by omega, c⟩⟩)

theorem zzplain_any (s : ByteArray) (w : World) (hn : s.size ≤ 1048576) : Calls Try.prog 5 #[.string s] w (PPost (body s) w) := by
  go_enter Try.func5, Try.ntmps5
  go_wp2_with fail
  refine (plain_any s w hn).mono ?_
  intro e w' hp
  have HP := hide hp
  obtain ⟨rfl, h⟩ := hp
  rcases h with ⟨_, c, rfl⟩ | ⟨p, _, c, rfl⟩ | ⟨_, rfl⟩
  · generalize decide (((body s).size : Int) ≤ 18) = b at HP ⊢
    go_wp2
    exact bodyPost_ret (v := .tuple #[.int .i64 c, .int .i32 0, .bool b, .bool true]) (by simp [results, Try.results5, go_sem]) rfl (unhide HP)
  · generalize decide (((body s).size : Int) - 1 ≤ 18) = b at HP ⊢
    generalize (p : Int) + 1 - ((body s).size : Int) = x at HP ⊢
    go_wp2
    exact bodyPost_ret (v := .tuple #[.int .i64 c, .int .i32 x, .bool b, .bool true]) (by simp [results, Try.results5, go_sem]) rfl (unhide HP)
  · go_wp2
    exact bodyPost_ret (v := .tuple #[.int .i64 0, .int .i32 0, .bool false, .bool false]) (by simp [results, Try.results5, go_sem]) rfl (unhide HP)

/-- What the loop of zzSplitDecimal has seen of the first k: d points, the first at P, or -1. -/
def Sp (g : Nat → Int) (k d : Nat) (P : Int) : Prop :=
  (P = -1 ∧ d = 0 ∧ ∀ j, j < k → g j ≠ 46) ∨
  (∃ p : Nat, P = p ∧ p < k ∧ g p = 46 ∧ 1 ≤ d ∧ d ≤ k ∧ (∀ j, j < p → g j ≠ 46) ∧ (d = 1 → ∀ j, j < k → j ≠ p → g j ≠ 46) ∧ (2 ≤ d → ∃ j, j < k ∧ j ≠ p ∧ g j = 46))
theorem sp_start (g : Nat → Int) : Sp g 0 0 (-1) := .inl ⟨rfl, rfl, fun j hj => by omega⟩
theorem sp_other {g : Nat → Int} {k d : Nat} {P : Int} (h : Sp g k d P) (hx : g k ≠ 46) : Sp g (k + 1) d P := by
  rcases h with ⟨h1, h2, h3⟩ | ⟨p, h1, h2, h3, h4, h5, h6, h7, h8⟩
  · exact .inl ⟨h1, h2, fun j hj => by rcases Nat.lt_succ_iff_lt_or_eq.1 hj with c | rfl; exact h3 j c; exact hx⟩
  · refine .inr ⟨p, h1, by omega, h3, h4, by omega, h6, fun hd j hj hne => ?_, fun hd => ?_⟩
    · rcases Nat.lt_succ_iff_lt_or_eq.1 hj with c | rfl
      · exact h7 hd j c hne
      · exact hx
    · obtain ⟨j, a, b, c⟩ := h8 hd
      exact ⟨j, by omega, b, c⟩
theorem sp_first {g : Nat → Int} {k d : Nat} {P : Int} (h : Sp g k d P) (hP : P < 0) (hx : g k = 46) : Sp g (k + 1) (d + 1) k := by
  rcases h with ⟨h1, h2, h3⟩ | ⟨p, h1, h2, h3, h4, h5, h6, h7, h8⟩
  · refine .inr ⟨k, rfl, by omega, hx, by omega, by omega, h3, fun _ j hj hne => ?_, fun hd => by omega⟩
    rcases Nat.lt_succ_iff_lt_or_eq.1 hj with c | c
    · exact h3 j c
    · exact absurd c hne
  · omega
theorem sp_more {g : Nat → Int} {k d : Nat} {P : Int} (h : Sp g k d P) (hP : ¬ P < 0) (hx : g k = 46) : Sp g (k + 1) (d + 1) P := by
  rcases h with ⟨h1, h2, h3⟩ | ⟨p, h1, h2, h3, h4, h5, h6, h7, h8⟩
  · omega
  · exact .inr ⟨p, h1, by omega, h3, by omega, by omega, h6, fun hd => by omega, fun _ => ⟨k, by omega, by omega, hx⟩⟩
theorem sp_bounds {g : Nat → Int} {k d : Nat} {P : Int} (h : Sp g k d P) : d ≤ k ∧ -1 ≤ P ∧ P < k + 1 := by
  rcases h with ⟨h1, h2, h3⟩ | ⟨p, h1, h2, h3, h4, h5, h6, h7, h8⟩ <;> omega

/-- What zzSplitDecimal answers of the body t. -/
def SPost (t : ByteArray) (w : World) (e : Ending) (w' : World) : Prop := w = w' ∧
  (((∀ j, j < t.size → bt t j ≠ 46) ∧ ∃ b, e = .returned (.tuple #[.bool b, .string t, .string ⟨#[]⟩, .bool false, .int .i64 0])) ∨
   (∃ p d : Nat, Sp (bt t) t.size d p ∧ ∃ b, e = .returned (.tuple #[.bool b, .string (t.extract 0 p), .string (t.extract (p + 1) t.size), .bool true, .int .i64 d])))

set_option maxHeartbeats 2000000 in
theorem split_empty (t : ByteArray) (w : World) (hs1 : t.size ≤ 0) : Calls Try.prog 6 #[.string t] w (SPost t w) := by
  have hb := get_bt t
  have hs0 : decide ((0 : Int) < (t.size : Int)) = false := decide_eq_false (by omega)
  have hno : Hid (∀ j, j < t.size → bt t j ≠ 46) := fun j hj => by omega
  go_enter Try.func6, Try.ntmps6
  go_wp2
  go_loop [6, 8, 9] (fun sd sp t9 => sd = .int .i64 0 ∧ sp = .int .i64 (-1) ∧ t9 = .int .i64 0) (fun _ _ _ => 0)
  case atStart => exact ⟨rfl, rfl, rfl⟩
  case round =>
    obtain ⟨rfl, rfl, rfl⟩ := hrel
    go_wp2
    exact bodyPost_ret (v := .tuple #[.bool false, .string t, .string ⟨#[]⟩, .bool false, .int .i64 0]) (by simp [results, Try.results6, go_sem]) rfl ⟨rfl, .inl ⟨unhide hno, false, rfl⟩⟩

set_option maxHeartbeats 2000000 in
theorem split_bare (t : ByteArray) (w : World) (hn : t.size ≤ 1048576) (hs : 0 < t.size) (h45 : bt t 0 ≠ 45) : Calls Try.prog 6 #[.string t] w (SPost t w) := by
  have hb := get_bt t
  have hs0 : (0 : Int) < (t.size : Int) := by omega
  have h45b : (bt t 0 == 45) = false := by simpa using h45
  clear h45
  go_enter Try.func6, Try.ntmps6
  go_wp2
  go_loop [6, 8, 9] (fun sd sp t9 => ∃ (k d : Nat) (P : Int), k ≤ t.size ∧ t9 = .int .i64 k ∧ sd = .int .i64 d ∧ sp = .int .i64 P ∧ Sp (bt t) k d P) (fun _ _ t9 => t.size - (intOf t9).toNat)
  case atStart => exact ⟨0, 0, -1, Nat.zero_le _, rfl, rfl, rfl, sp_start _⟩
  case round =>
    obtain ⟨k, d, P, hk, rfl, rfl, rfl, hsp⟩ := hrel
    obtain ⟨hb1, hb2, hb3⟩ := sp_bounds hsp
    by_cases hlt : k < t.size
    · by_cases hx : bt t k = 46
      · have hxb : (bt t k == 46) = true := by simpa using hx
        by_cases hP : P < 0
        · have HN := hide (sp_first hsp hP hx)
          clear hsp hx
          go_wp2
          go_round
          case rel => exact ⟨k + 1, d + 1, k, by omega, by go_num, by go_num, rfl, unhide HN⟩
          case measure => simp [intOf]; omega
        · have HN := hide (sp_more hsp hP hx)
          clear hsp hx
          go_wp2
          go_round
          case rel => exact ⟨k + 1, d + 1, P, by omega, by go_num, by go_num, rfl, unhide HN⟩
          case measure => simp [intOf]; omega
      · have hxb : (bt t k == 46) = false := by simpa using hx
        have HN := hide (sp_other hsp hx)
        clear hsp hx
        go_wp2
        go_round
        case rel => exact ⟨k + 1, d, P, by omega, by go_num, rfl, rfl, unhide HN⟩
        case measure => simp [intOf]; omega
    · obtain rfl : t.size = k := by omega
      by_cases hP : P < 0
      · have hno : Hid (∀ j, j < t.size → bt t j ≠ 46) := by
          rcases hsp with ⟨h1, h2, h3⟩ | ⟨p, h1, h2, _⟩
          · exact h3
          · omega
        have hd0 : d = 0 := by
          rcases hsp with ⟨h1, h2, h3⟩ | ⟨p, h1, h2, _⟩
          · exact h2
          · omega
        subst hd0
        clear hsp
        go_wp2
        exact bodyPost_ret (v := .tuple #[.bool false, .string t, .string ⟨#[]⟩, .bool false, .int .i64 0]) (by simp [results, Try.results6, go_sem]) rfl ⟨rfl, .inl ⟨unhide hno, false, rfl⟩⟩
      · obtain ⟨p, rfl⟩ := Int.eq_ofNat_of_zero_le (show 0 ≤ P by omega)
        have HN := hide hsp
        have hpm : p < t.size := by
          rcases hsp with ⟨h1, h2, h3⟩ | ⟨p', h1, h2, _⟩ <;> omega
        clear hsp
        go_wp2
        exact bodyPost_ret (v := .tuple #[.bool false, .string (t.extract 0 p), .string (t.extract (p + 1) t.size), .bool true, .int .i64 d]) (by simp [results, Try.results6, go_sem]) rfl ⟨rfl, .inr ⟨p, d, unhide HN, false, rfl⟩⟩

set_option maxHeartbeats 2000000 in
theorem split_minus (s t : ByteArray) (ht : s.extract 1 s.size = t) (w : World) (hn : s.size ≤ 1048576) (hn' : t.size ≤ 1048576) (hs : 0 < s.size) (h45 : bt s 0 = 45) : Calls Try.prog 6 #[.string s] w (SPost t w) := by
  have hbs := get_bt s
  have hs0 : (0 : Int) < (s.size : Int) := by omega
  have h45b : (bt s 0 == 45) = true := by simpa using h45
  clear h45
  go_enter Try.func6, Try.ntmps6
  go_wp2
  have hb := get_bt t
  clear ht
  go_loop [6, 8, 9] (fun sd sp t9 => ∃ (k d : Nat) (P : Int), k ≤ t.size ∧ t9 = .int .i64 k ∧ sd = .int .i64 d ∧ sp = .int .i64 P ∧ Sp (bt t) k d P) (fun _ _ t9 => t.size - (intOf t9).toNat)
  case atStart => exact ⟨0, 0, -1, Nat.zero_le _, rfl, rfl, rfl, sp_start _⟩
  case round =>
    obtain ⟨k, d, P, hk, rfl, rfl, rfl, hsp⟩ := hrel
    obtain ⟨hb1, hb2, hb3⟩ := sp_bounds hsp
    by_cases hlt : k < t.size
    · by_cases hx : bt t k = 46
      · have hxb : (bt t k == 46) = true := by simpa using hx
        by_cases hP : P < 0
        · have HN := hide (sp_first hsp hP hx)
          clear hsp hx
          go_wp2
          go_round
          case rel => exact ⟨k + 1, d + 1, k, by omega, by go_num, by go_num, rfl, unhide HN⟩
          case measure => simp [intOf]; omega
        · have HN := hide (sp_more hsp hP hx)
          clear hsp hx
          go_wp2
          go_round
          case rel => exact ⟨k + 1, d + 1, P, by omega, by go_num, by go_num, rfl, unhide HN⟩
          case measure => simp [intOf]; omega
      · have hxb : (bt t k == 46) = false := by simpa using hx
        have HN := hide (sp_other hsp hx)
        clear hsp hx
        go_wp2
        go_round
        case rel => exact ⟨k + 1, d, P, by omega, by go_num, rfl, rfl, unhide HN⟩
        case measure => simp [intOf]; omega
    · obtain rfl : t.size = k := by omega
      by_cases hP : P < 0
      · have hno : Hid (∀ j, j < t.size → bt t j ≠ 46) := by
          rcases hsp with ⟨h1, h2, h3⟩ | ⟨p, h1, h2, _⟩
          · exact h3
          · omega
        have hd0 : d = 0 := by
          rcases hsp with ⟨h1, h2, h3⟩ | ⟨p, h1, h2, _⟩
          · exact h2
          · omega
        subst hd0
        clear hsp
        go_wp2
        exact bodyPost_ret (v := .tuple #[.bool true, .string t, .string ⟨#[]⟩, .bool false, .int .i64 0]) (by simp [results, Try.results6, go_sem]) rfl ⟨rfl, .inl ⟨unhide hno, true, rfl⟩⟩
      · obtain ⟨p, rfl⟩ := Int.eq_ofNat_of_zero_le (show 0 ≤ P by omega)
        have HN := hide hsp
        have hpm : p < t.size := by
          rcases hsp with ⟨h1, h2, h3⟩ | ⟨p', h1, h2, _⟩ <;> omega
        clear hsp
        go_wp2
        exact bodyPost_ret (v := .tuple #[.bool true, .string (t.extract 0 p), .string (t.extract (p + 1) t.size), .bool true, .int .i64 d]) (by simp [results, Try.results6, go_sem]) rfl ⟨rfl, .inr ⟨p, d, unhide HN, true, rfl⟩⟩

theorem split_any (s : ByteArray) (w : World) (hn : s.size ≤ 1048576) : Calls Try.prog 6 #[.string s] w (SPost (body s) w) := by
  by_cases h : 0 < s.size ∧ bt s 0 = 45
  · have hl := body_le s
    exact split_minus s (body s) (body_minus h).symm w hn (by omega) h.1 h.2
  · rw [body_bare h]
    by_cases h0 : s.size = 0
    · exact split_empty s w (by omega)
    · exact split_bare s w hn (by omega) (fun c => h ⟨by omega, c⟩)

end Go.Proofs.Qxb6001124a
