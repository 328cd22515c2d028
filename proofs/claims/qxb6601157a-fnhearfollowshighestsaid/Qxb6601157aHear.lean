/-
  hear (18), ZZHear (10).
-/
import Derived.Test.Qxb6601157aBase
namespace Go.Proofs.Qxb6601157a
open Go.ChangeShapes Go.WideShapes Go.ChangeAt Go.RowKit
set_option linter.unusedVariables false
set_option linter.unusedSimpArgs false

set_option maxHeartbeats 400000 in
theorem hear_low (s g n : Nat) (f : Nat → Int) (mark r : Int) (i : Nat) (w : World) (hn : n ≤ 1048576) (hi : i < n) (hrow : Row g n f w) (h9 : w.cell? ⟨s, 9, none⟩ = some (.slice (some ⟨g, 0, none⟩) n n)) (hle : r ≤ f i) :
    Calls Try.prog 18 #[.pointer (some ⟨s, 0, none⟩), .int .i64 ((i : Int) + 1), .int .u64 r] w fun e w' => w = w' ∧ e = .returned (.tuple #[.bool false, .bool false]) := by
  obtain ⟨hc, hf⟩ := hrow i hi
  clear hrow
  go_enter Try.func18, Try.ntmps18
  go_wp2
  go_ret2
  exact ⟨rfl, rfl⟩

set_option maxHeartbeats 400000 in
theorem hear_mid (s g n : Nat) (f : Nat → Int) (mark r : Int) (i : Nat) (w : World) (hn : n ≤ 1048576) (hi : i < n) (hrow : Row g n f w) (h9 : w.cell? ⟨s, 9, none⟩ = some (.slice (some ⟨g, 0, none⟩) n n))
    (h10 : w.cell? ⟨s, 10, none⟩ = some (.int .u64 mark)) (hgs : g < s) (hgt : f i < r) (hle : r ≤ mark) :
    Calls Try.prog 18 #[.pointer (some ⟨s, 0, none⟩), .int .i64 ((i : Int) + 1), .int .u64 r] w fun e w' => w.setCell ⟨g, i, none⟩ (.int .u64 r) = w' ∧ e = .returned (.tuple #[.bool true, .bool false]) := by
  obtain ⟨hc, hf⟩ := hrow i hi
  clear hrow
  go_enter Try.func18, Try.ntmps18
  go_wp2
  go_ret2
  exact ⟨rfl, rfl⟩

/-- l is the lowest of the numbers above mark. -/
def Least (n : Nat) (f : Nat → Int) (mark l : Int) : Prop := mark < l ∧ (∃ q, q < n ∧ f q = l) ∧ ∀ q, q < n → mark < f q → l ≤ f q

/-- What the loop has seen of the first k: a of them lie above mark, the lowest of these (or r) is l. -/
def Scan (f : Nat → Int) (mark r : Int) (k a : Nat) (l : Int) : Prop := mark < l ∧ l ≤ r ∧ (l = r ∨ ∃ q, q < k ∧ f q = l) ∧ (∀ q, q < k → mark < f q → l ≤ f q) ∧ (a = 0 → ∀ q, q < k → f q ≤ mark)
theorem scan_start (f : Nat → Int) {mark r : Int} (h : mark < r) : Scan f mark r 0 0 r := ⟨h, Int.le_refl _, .inl rfl, fun q hq => by omega, fun _ q hq => by omega⟩
theorem scan_skip {f : Nat → Int} {mark r l : Int} {k a : Nat} (h : Scan f mark r k a l) (hk : f k ≤ mark) : Scan f mark r (k + 1) a l := by
  obtain ⟨h1, h2, h3, h4, h5⟩ := h
  refine ⟨h1, h2, ?_, fun q hq hm => ?_, fun ha q hq => ?_⟩
  · rcases h3 with h3 | ⟨q, hq, e⟩
    · exact .inl h3
    · exact .inr ⟨q, by omega, e⟩
  · rcases Nat.lt_succ_iff_lt_or_eq.1 hq with c | rfl
    · exact h4 q c hm
    · omega
  · rcases Nat.lt_succ_iff_lt_or_eq.1 hq with c | rfl
    · exact h5 ha q c
    · exact hk
theorem scan_take {f : Nat → Int} {mark r l : Int} {k a : Nat} (h : Scan f mark r k a l) (hk : mark < f k) : Scan f mark r (k + 1) (a + 1) (if f k < l then f k else l) := by
  obtain ⟨h1, h2, h3, h4, h5⟩ := h
  by_cases c : f k < l
  · rw [if_pos c]
    refine ⟨by omega, by omega, .inr ⟨k, by omega, rfl⟩, fun q hq hm => ?_, fun ha => by omega⟩
    rcases Nat.lt_succ_iff_lt_or_eq.1 hq with d | rfl
    · have := h4 q d hm; omega
    · omega
  · rw [if_neg c]
    refine ⟨by omega, by omega, ?_, fun q hq hm => ?_, fun ha => by omega⟩
    · rcases h3 with h3 | ⟨q, hq, e⟩
      · exact .inl h3
      · exact .inr ⟨q, by omega, e⟩
    · rcases Nat.lt_succ_iff_lt_or_eq.1 hq with d | rfl
      · exact h4 q d hm
      · omega
theorem scan_end {f : Nat → Int} {mark r l : Int} {n a i : Nat} (h : Scan f mark r n a l) (hi : i < n) (hr : f i = r) (hm : mark < r) : Least n f mark l ∧ l ≤ r ∧ 0 < a := by
  obtain ⟨h1, h2, h3, h4, h5⟩ := h
  refine ⟨⟨h1, ?_, h4⟩, h2, ?_⟩
  · rcases h3 with h3 | h3
    · exact ⟨i, hi, by rw [hr, h3]⟩
    · exact h3
  · rcases Nat.eq_zero_or_pos a with c | c
    · have := h5 c i hi; omega
    · exact c

set_option maxHeartbeats 400000 in
theorem hear_high (s g n : Nat) (f : Nat → Int) (mark r : Int) (i : Nat) (w : World) (hn : n ≤ 1048576) (hi : i < n) (hrow : Row g n f w) (h9 : w.cell? ⟨s, 9, none⟩ = some (.slice (some ⟨g, 0, none⟩) n n))
    (h10 : w.cell? ⟨s, 10, none⟩ = some (.int .u64 mark)) (h10f : w.frozen? ⟨s, 10, none⟩ = false) (h0 : w.cell? ⟨s, 0, none⟩ = some (.int .i64 0)) (hgs : g < s) (hs : s < w.heap.size) (hgt : f i < r) (hmr : mark < r) :
    Calls Try.prog 18 #[.pointer (some ⟨s, 0, none⟩), .int .i64 ((i : Int) + 1), .int .u64 r] w fun e w' => ∃ l, Least n (upd f i r) mark l ∧ l ≤ r ∧
      ((w.setCell ⟨g, i, none⟩ (.int .u64 r)).setCell ⟨s, 10, none⟩ (.int .u64 l)).alloc (.cells #[.int .i64 0] 40) = w' ∧ e = .returned (.tuple #[.bool true, .bool true]) := by
  obtain ⟨hc, hf⟩ := hrow i hi
  have hr' := hrow.set i r
  have hfi : upd f i r i = r := upd_same f i r
  have h9' : (w.setCell ⟨g, i, none⟩ (.int .u64 r)).cell? ⟨s, 9, none⟩ = some (.slice (some ⟨g, 0, none⟩) n n) := (World.cell?_setCell_other _ _ _ _ (fun c => absurd (congrArg Addr.block c) (show ¬ g = s by omega))).trans h9
  have h10' : (w.setCell ⟨g, i, none⟩ (.int .u64 r)).cell? ⟨s, 10, none⟩ = some (.int .u64 mark) := (World.cell?_setCell_other _ _ _ _ (fun c => absurd (congrArg Addr.block c) (show ¬ g = s by omega))).trans h10
  have h0' : (w.setCell ⟨g, i, none⟩ (.int .u64 r)).cell? ⟨s, 0, none⟩ = some (.int .i64 0) := (World.cell?_setCell_other _ _ _ _ (fun c => absurd (congrArg Addr.block c) (show ¬ g = s by omega))).trans h0
  have hf' : (w.setCell ⟨g, i, none⟩ (.int .u64 r)).frozen? ⟨s, 10, none⟩ = false := by rw [World.frozen?_setCell]; exact h10f
  have hs' : s < (w.setCell ⟨g, i, none⟩ (.int .u64 r)).heap.size := by simpa using hs
  generalize hF : upd f i r = F at hr' hfi
  have HF := hide hF
  have HR := hide hr'
  have HI := hide hfi
  have H9 := hide h9'
  have H10 := hide h10'
  have H0 := hide h0'
  have HZ := hide hf'
  have HS := hide hs'
  clear hrow hF hr' hfi h9' h10' h0' hf' hs'
  go_enter Try.func18, Try.ntmps18
  go_wp2
  clear hc hf h9 h10 h10f h0
  obtain ⟨wm, hwm⟩ : ∃ wm, wm = w.setCell ⟨g, i, none⟩ (.int .u64 r) := ⟨_, rfl⟩
  rw [← hwm] at HR H9 H10 H0 HZ HS ⊢
  have h9 := unhide H9
  have h10 := unhide H10
  have h0 := unhide H0
  have h10f := unhide HZ
  have hsm := unhide HS
  clear H9 H10 H0 HZ HS
  have HW := hide hwm
  clear hwm
  go_loop [8, 9, 42] (fun sa sl t => ∃ (k a : Nat) (l : Int), k ≤ n ∧ a ≤ k ∧ sa = .int .i64 a ∧ sl = .int .u64 l ∧ t = .int .i64 k ∧ Scan F mark r k a l) (fun _ _ t => n - (intOf t).toNat)
  case atStart => exact ⟨0, 0, r, Nat.zero_le _, Nat.le_refl _, rfl, rfl, rfl, scan_start F hmr⟩
  case round =>
    obtain ⟨k, a, l, hk, ha, rfl, rfl, rfl, hscan⟩ := hrel
    by_cases hlt : k < n
    · obtain ⟨hck, _⟩ := (unhide HR) k hlt
      by_cases hm : mark < F k
      · have hnew := hide (scan_take hscan hm)
        clear hscan
        go_wp2
        go_round
        case rel => exact ⟨k + 1, a + 1, _, by omega, by omega, by go_num, rfl, by go_num, unhide hnew⟩
        case measure => simp [intOf]; omega
      · have hnew := hide (scan_skip hscan (by omega))
        clear hscan
        go_wp2
        go_round
        case rel => exact ⟨k + 1, a, l, by omega, by omega, rfl, rfl, by go_num, unhide hnew⟩
        case measure => simp [intOf]; omega
    · obtain rfl : n = k := by omega
      have hend := scan_end hscan hi (unhide HI) hmr
      have hl1 := hend.1.1
      have ha1 := hend.2.2
      have HE := hide hend
      clear hscan hend
      go_wp2_with (go_at_call 20; refine (T_zero _).mono ?_; rintro e w' ⟨rfl, rfl⟩)
      go_ret2
      exact ⟨l, (unhide HE).1, (unhide HE).2.1, by rw [unhide HW], rfl⟩

end Go.Proofs.Qxb6601157a
