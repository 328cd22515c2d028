/-
  FnHearFollowsHighest (3): the walk.
-/
import Derived.Test.Qxb6601157aZz
namespace Go.Proofs.Qxb6601157a
open Go.ChangeShapes Go.WideShapes Go.ChangeAt Go.RowKit
set_option linter.unusedVariables false
set_option linter.unusedSimpArgs false

theorem bytes7_yes (a : Option Addr) (n cap : Nat) (x y z : Int) (w : World) (h : n ≤ 1048576) :
    Calls Try.prog 7 #[.slice a n cap, .int .u64 x, .int .i64 y, .int .u64 z] w fun e w' => e = .returned (.bool true) ∧ w = w' := by
  go_enter Try.func7, Try.ntmps7
  go_wp2
  go_ret
  exact ⟨rfl, rfl⟩
theorem bytes7_no (a : Option Addr) (n cap : Nat) (x y z : Int) (w : World) (h : 1048576 < n) :
    Calls Try.prog 7 #[.slice a n cap, .int .u64 x, .int .i64 y, .int .u64 z] w fun e w' => e = .returned (.bool false) ∧ w = w' := by
  have h' : (1048576 : Int) < (n : Int) := by omega
  go_enter Try.func7, Try.ntmps7
  go_wp2
  go_ret
  exact ⟨rfl, rfl⟩

theorem ismax_unique {n : Nat} {f : Nat → Int} {a b : Int} (h : IsMax n f a) (k : IsMax n f b) : a = b := by
  obtain ⟨h1, h2, h3⟩ := h
  obtain ⟨k1, k2, k3⟩ := k
  have hab : a ≤ b := by
    rcases h3 with h3 | ⟨q, hq, e⟩
    · omega
    · have := k2 q hq; omega
  have hba : b ≤ a := by
    rcases k3 with k3 | ⟨q, hq, e⟩
    · omega
    · have := h2 q hq; omega
  omega
theorem max_mid {n i : Nat} {f : Nat → Int} {mark r : Int} (h : IsMax n f mark) (hgt : f i < r) (hle : r ≤ mark) : IsMax n (upd f i r) mark := by
  obtain ⟨h1, h2, h3⟩ := h
  refine ⟨h1, fun q hq => ?_, ?_⟩
  · unfold upd
    split
    · exact hle
    · exact h2 q hq
  · rcases h3 with h3 | ⟨q, hq, e⟩
    · exact .inl h3
    · refine .inr ⟨q, hq, ?_⟩
      rw [upd_other f r (fun c => by subst c; omega)]
      exact e
theorem max_high {n i : Nat} {f : Nat → Int} {mark r l : Int} (h : IsMax n f mark) (hi : i < n) (hr0 : 0 ≤ r) (hm : mark < r) (hl : Least n (upd f i r) mark l) : IsMax n (upd f i r) l := by
  obtain ⟨h1, h2, h3⟩ := h
  obtain ⟨l1, ⟨q, hq, e⟩, l3⟩ := hl
  have hqi : q = i := by
    by_cases c : q = i
    · exact c
    · rw [upd_other f r c] at e
      have := h2 q hq
      omega
  subst hqi
  rw [upd_same] at e
  subst e
  refine ⟨hr0, fun p hp => ?_, .inr ⟨q, hq, upd_same f q r⟩⟩
  unfold upd
  split
  · exact Int.le_refl _
  · have := h2 p hp; omega
theorem upd_nonneg {n i : Nat} {f : Nat → Int} {r : Int} (h : ∀ q, q < n → 0 ≤ f q) (hr0 : 0 ≤ r) : ∀ q, q < n → 0 ≤ upd f i r q := by
  intro q hq
  unfold upd
  split
  · exact hr0
  · exact h q hq

set_option maxHeartbeats 2000000 in
theorem fol_low (b off n cap : Nat) (f : Nat → Int) (mark r : Int) (i : Nat) (w : World) (hn : n ≤ 131072) (hi : i < n) (hr0 : 0 ≤ r) (hf : ∀ q, q < n → 0 ≤ f q) (hc : ∀ k, k < n → w.cell? ⟨b, off + k, none⟩ = some (.int .u64 (f k))) (hle : r ≤ f i) :
    Calls Try.prog 3 #[.slice (some ⟨b, off, none⟩) n cap, .int .u64 mark, .int .i64 ((i : Int) + 1), .int .u64 r] w fun e w' => e = .returned (.bool true) ∧ Below w.heap.size w w' := by
  have H := hide hc
  have HF := hide hf
  have hd1 : ¬ ((i : Int) + 1 < 1) := by omega
  have hd2 : ¬ ((n : Int) < (i : Int) + 1) := by omega
  clear hc hf
  go_enter Try.func3, Try.ntmps3
  go_wp2_with (go_at_call 7; refine (bytes7_yes _ _ _ _ _ _ _ (by omega)).mono ?_; rintro e w' ⟨rfl, rfl⟩)
  refine (max_any b off n cap f w (by omega) (unhide HF) (unhide H)).mono ?_
  rintro e w' ⟨rfl, m0, hm0, rfl⟩
  by_cases hmm : mark = m0
  case neg =>
    have hmb : (mark != m0) = true := by simpa using hmm
    clear hm0
    go_wp2_with fail
    go_ret
    exact ⟨rfl, Below.refl _ _⟩
  subst hmm
  have HM := hide hm0
  clear hm0
  go_wp2_with fail
  refine (clone_any b off n cap f w (by omega) (unhide H)).mono ?_
  rintro e w1 ⟨rfl, hr1, hb1, hs1⟩
  have HR1 := hide hr1
  have HB1 := hide hb1
  clear hr1 hb1 H
  go_wp2_with fail
  refine (clone_any w.heap.size 0 n n f w1 (by omega) (fun k hk => by rw [Nat.zero_add]; exact (unhide HR1 k hk).1)).mono ?_
  rintro e w2 ⟨rfl, hr2, hb2, hs2⟩
  have HR2 := hide hr2
  have HB2 := hide hb2
  clear hr2 hb2
  go_wp2_with fail
  refine (zz_low w1.heap.size n f mark r i w2 (by omega) hi (unhide HR2) hle).mono ?_
  rintro e w3 ⟨rfl, hr3, hg3⟩
  have HMF := HM
  have hrm : ¬ mark < r := by have := (unhide HM).2.1 i hi; omega
  have hr13 : Row w.heap.size n f w3 := ((unhide HR1).below (unhide HB2) hs1).grown hg3 (by simp; omega)
  have hb3 : Below w.heap.size w w3 := ((unhide HB1).trans ((unhide HB2).mono (by omega))).grown hg3 (by have := hg3.size; omega) (fun k hk => by cases hk; omega)
  have HR3 := hide hr3
  have HR13 := hide hr13
  have HB3 := hide hb3
  have hci := (hr13 i hi).1
  clear hr3 hr13 hb3 hg3 HR1 HR2 HB1 HB2
  go_wp2_with fail
  go_loop [14] (fun t => ∃ k : Nat, k ≤ n ∧ t = .int .i64 k) (fun t => n - (intOf t).toNat)
  case atStart => exact ⟨0, Nat.zero_le _, rfl⟩
  case round =>
    obtain ⟨k, hk, rfl⟩ := hrel
    by_cases hlt : k < n
    · have hcf := (unhide HR13 k hlt).1
      have hcF := (unhide HR3 k hlt).1
      by_cases hki : k = i
      · subst hki
        clear hci
        go_wp2
        go_round
        case rel => exact ⟨k + 1, by omega, by go_num⟩
        case measure => simp [intOf]; omega
      · have hkb : ((k : Int) == (i : Int)) = false := by simp; omega
        go_wp2
        go_round
        case rel => exact ⟨k + 1, by omega, by go_num⟩
        case measure => simp [intOf]; omega
    · go_wp2_with fail
      refine (max_any w1.heap.size 0 n n f w3 (by omega) (unhide HF) (fun q hq => by rw [Nat.zero_add]; exact (unhide HR3 q hq).1)).mono ?_
      rintro e w' ⟨rfl, m1, hm1, rfl⟩
      obtain rfl := ismax_unique (unhide HMF) hm1
      clear hm1
      go_wp2
      go_ret
      exact ⟨by simp, unhide HB3⟩

set_option maxHeartbeats 2000000 in
theorem fol_mid (b off n cap : Nat) (f : Nat → Int) (mark r : Int) (i : Nat) (w : World) (hn : n ≤ 131072) (hi : i < n) (hr0 : 0 ≤ r) (hf : ∀ q, q < n → 0 ≤ f q) (hc : ∀ k, k < n → w.cell? ⟨b, off + k, none⟩ = some (.int .u64 (f k))) (hgt : f i < r) (hle : r ≤ mark) :
    Calls Try.prog 3 #[.slice (some ⟨b, off, none⟩) n cap, .int .u64 mark, .int .i64 ((i : Int) + 1), .int .u64 r] w fun e w' => e = .returned (.bool true) ∧ Below w.heap.size w w' := by
  have H := hide hc
  have HF := hide hf
  have hd1 : ¬ ((i : Int) + 1 < 1) := by omega
  have hd2 : ¬ ((n : Int) < (i : Int) + 1) := by omega
  clear hc hf
  go_enter Try.func3, Try.ntmps3
  go_wp2_with (go_at_call 7; refine (bytes7_yes _ _ _ _ _ _ _ (by omega)).mono ?_; rintro e w' ⟨rfl, rfl⟩)
  refine (max_any b off n cap f w (by omega) (unhide HF) (unhide H)).mono ?_
  rintro e w' ⟨rfl, m0, hm0, rfl⟩
  by_cases hmm : mark = m0
  case neg =>
    have hmb : (mark != m0) = true := by simpa using hmm
    clear hm0
    go_wp2_with fail
    go_ret
    exact ⟨rfl, Below.refl _ _⟩
  subst hmm
  have HM := hide hm0
  clear hm0
  go_wp2_with fail
  refine (clone_any b off n cap f w (by omega) (unhide H)).mono ?_
  rintro e w1 ⟨rfl, hr1, hb1, hs1⟩
  have HR1 := hide hr1
  have HB1 := hide hb1
  clear hr1 hb1 H
  go_wp2_with fail
  refine (clone_any w.heap.size 0 n n f w1 (by omega) (fun k hk => by rw [Nat.zero_add]; exact (unhide HR1 k hk).1)).mono ?_
  rintro e w2 ⟨rfl, hr2, hb2, hs2⟩
  have HR2 := hide hr2
  have HB2 := hide hb2
  clear hr2 hb2
  go_wp2_with fail
  refine (zz_mid w1.heap.size n f mark r i w2 (by omega) hi (unhide HR2) hgt hle).mono ?_
  rintro e w3 ⟨rfl, hr3, hg3⟩
  have HMF := hide (max_mid (unhide HM) hgt hle)
  have hr13 : Row w.heap.size n f w3 := ((unhide HR1).below (unhide HB2) hs1).grown hg3 (by simp; omega)
  have hb3 : Below w.heap.size w w3 := ((unhide HB1).trans ((unhide HB2).mono (by omega))).grown hg3 (by have := hg3.size; omega) (fun k hk => by cases hk; omega)
  have HR3 := hide hr3
  have HR13 := hide hr13
  have HB3 := hide hb3
  have hci := (hr13 i hi).1
  clear hr3 hr13 hb3 hg3 HR1 HR2 HB1 HB2
  go_wp2_with fail
  go_loop [14] (fun t => ∃ k : Nat, k ≤ n ∧ t = .int .i64 k) (fun t => n - (intOf t).toNat)
  case atStart => exact ⟨0, Nat.zero_le _, rfl⟩
  case round =>
    obtain ⟨k, hk, rfl⟩ := hrel
    by_cases hlt : k < n
    · have hcf := (unhide HR13 k hlt).1
      by_cases hki : k = i
      · subst hki
        have hcF := (unhide HR3 k hlt).1
        rw [upd_same] at hcF
        clear hci
        go_wp2
        go_round
        case rel => exact ⟨k + 1, by omega, by go_num⟩
        case measure => simp [intOf]; omega
      · have hkb : ((k : Int) == (i : Int)) = false := by simp; omega
        have hcF := (unhide HR3 k hlt).1
        rw [upd_other f r hki] at hcF
        go_wp2
        go_round
        case rel => exact ⟨k + 1, by omega, by go_num⟩
        case measure => simp [intOf]; omega
    · go_wp2_with fail
      refine (max_any w1.heap.size 0 n n (upd f i r) w3 (by omega) (upd_nonneg (unhide HF) hr0) (fun q hq => by rw [Nat.zero_add]; exact (unhide HR3 q hq).1)).mono ?_
      rintro e w' ⟨rfl, m1, hm1, rfl⟩
      obtain rfl := ismax_unique (unhide HMF) hm1
      clear hm1
      go_wp2
      go_ret
      exact ⟨by simp, unhide HB3⟩

set_option maxHeartbeats 2000000 in
theorem fol_high (b off n cap : Nat) (f : Nat → Int) (mark r : Int) (i : Nat) (w : World) (hn : n ≤ 131072) (hi : i < n) (hr0 : 0 ≤ r) (hf : ∀ q, q < n → 0 ≤ f q) (hc : ∀ k, k < n → w.cell? ⟨b, off + k, none⟩ = some (.int .u64 (f k))) (hgt : f i < r) (hmr : mark < r) :
    Calls Try.prog 3 #[.slice (some ⟨b, off, none⟩) n cap, .int .u64 mark, .int .i64 ((i : Int) + 1), .int .u64 r] w fun e w' => e = .returned (.bool true) ∧ Below w.heap.size w w' := by
  have H := hide hc
  have HF := hide hf
  have hd1 : ¬ ((i : Int) + 1 < 1) := by omega
  have hd2 : ¬ ((n : Int) < (i : Int) + 1) := by omega
  clear hc hf
  go_enter Try.func3, Try.ntmps3
  go_wp2_with (go_at_call 7; refine (bytes7_yes _ _ _ _ _ _ _ (by omega)).mono ?_; rintro e w' ⟨rfl, rfl⟩)
  refine (max_any b off n cap f w (by omega) (unhide HF) (unhide H)).mono ?_
  rintro e w' ⟨rfl, m0, hm0, rfl⟩
  by_cases hmm : mark = m0
  case neg =>
    have hmb : (mark != m0) = true := by simpa using hmm
    clear hm0
    go_wp2_with fail
    go_ret
    exact ⟨rfl, Below.refl _ _⟩
  subst hmm
  have HM := hide hm0
  clear hm0
  go_wp2_with fail
  refine (clone_any b off n cap f w (by omega) (unhide H)).mono ?_
  rintro e w1 ⟨rfl, hr1, hb1, hs1⟩
  have HR1 := hide hr1
  have HB1 := hide hb1
  clear hr1 hb1 H
  go_wp2_with fail
  refine (clone_any w.heap.size 0 n n f w1 (by omega) (fun k hk => by rw [Nat.zero_add]; exact (unhide HR1 k hk).1)).mono ?_
  rintro e w2 ⟨rfl, hr2, hb2, hs2⟩
  have HR2 := hide hr2
  have HB2 := hide hb2
  clear hr2 hb2
  go_wp2_with fail
  refine (zz_high w1.heap.size n f mark r i w2 (by omega) hi (unhide HR2) hgt hmr).mono ?_
  rintro e w3 ⟨l, hl1, hl2, rfl, hr3, hg3⟩
  have HMF := hide (max_high (unhide HM) hi hr0 hmr hl1)
  clear hl1
  have hr13 : Row w.heap.size n f w3 := ((unhide HR1).below (unhide HB2) hs1).grown hg3 (by simp; omega)
  have hb3 : Below w.heap.size w w3 := ((unhide HB1).trans ((unhide HB2).mono (by omega))).grown hg3 (by have := hg3.size; omega) (fun k hk => by cases hk; omega)
  have HR3 := hide hr3
  have HR13 := hide hr13
  have HB3 := hide hb3
  have hci := (hr13 i hi).1
  clear hr3 hr13 hb3 hg3 HR1 HR2 HB1 HB2
  go_wp2_with fail
  go_loop [14] (fun t => ∃ k : Nat, k ≤ n ∧ t = .int .i64 k) (fun t => n - (intOf t).toNat)
  case atStart => exact ⟨0, Nat.zero_le _, rfl⟩
  case round =>
    obtain ⟨k, hk, rfl⟩ := hrel
    by_cases hlt : k < n
    · have hcf := (unhide HR13 k hlt).1
      by_cases hki : k = i
      · subst hki
        have hcF := (unhide HR3 k hlt).1
        rw [upd_same] at hcF
        clear hci
        go_wp2
        go_round
        case rel => exact ⟨k + 1, by omega, by go_num⟩
        case measure => simp [intOf]; omega
      · have hkb : ((k : Int) == (i : Int)) = false := by simp; omega
        have hcF := (unhide HR3 k hlt).1
        rw [upd_other f r hki] at hcF
        go_wp2
        go_round
        case rel => exact ⟨k + 1, by omega, by go_num⟩
        case measure => simp [intOf]; omega
    · go_wp2_with fail
      refine (max_any w1.heap.size 0 n n (upd f i r) w3 (by omega) (upd_nonneg (unhide HF) hr0) (fun q hq => by rw [Nat.zero_add]; exact (unhide HR3 q hq).1)).mono ?_
      rintro e w' ⟨rfl, m1, hm1, rfl⟩
      obtain rfl := ismax_unique (unhide HMF) hm1
      clear hm1
      go_wp2
      go_ret
      exact ⟨by simp, unhide HB3⟩


theorem fol_big (a : Option Addr) (n cap : Nat) (x y z : Int) (w : World) (h : 131072 < n) :
    Calls Try.prog 3 #[.slice a n cap, .int .u64 x, .int .i64 y, .int .u64 z] w fun e w' => e = .returned (.bool true) ∧ Below w.heap.size w w' := by
  by_cases h2 : n ≤ 1048576
  · have h3 : (131072 : Int) < (n : Int) := by omega
    go_enter Try.func3, Try.ntmps3
    go_wp2_with (go_at_call 7; refine (bytes7_yes _ _ _ _ _ _ _ h2).mono ?_; rintro e w' ⟨rfl, rfl⟩)
    go_ret
    exact ⟨rfl, Below.refl _ _⟩
  · have h3 : 1048576 < n := by omega
    go_enter Try.func3, Try.ntmps3
    go_wp2_with (go_at_call 7; refine (bytes7_no _ _ _ _ _ _ _ h3).mono ?_; rintro e w' ⟨rfl, rfl⟩)
    go_ret
    exact ⟨rfl, Below.refl _ _⟩

theorem fol_from (a : Option Addr) (n cap : Nat) (x y z : Int) (w : World) (hn : n ≤ 131072) (h : y < 1 ∨ (n : Int) < y) :
    Calls Try.prog 3 #[.slice a n cap, .int .u64 x, .int .i64 y, .int .u64 z] w fun e w' => e = .returned (.bool true) ∧ Below w.heap.size w w' := by
  by_cases h1 : y < 1
  · clear h
    go_enter Try.func3, Try.ntmps3
    go_wp2_with (go_at_call 7; refine (bytes7_yes _ _ _ _ _ _ _ (by omega)).mono ?_; rintro e w' ⟨rfl, rfl⟩)
    go_ret
    exact ⟨rfl, Below.refl _ _⟩
  · have h2 : (n : Int) < y := by omega
    clear h
    go_enter Try.func3, Try.ntmps3
    go_wp2_with (go_at_call 7; refine (bytes7_yes _ _ _ _ _ _ _ (by omega)).mono ?_; rintro e w' ⟨rfl, rfl⟩)
    go_ret
    exact ⟨rfl, Below.refl _ _⟩

theorem fol_any (b off n cap : Nat) (f : Nat → Int) (mark r : Int) (i : Nat) (w : World) (hn : n ≤ 131072) (hi : i < n) (hr0 : 0 ≤ r) (hf : ∀ q, q < n → 0 ≤ f q) (hc : ∀ k, k < n → w.cell? ⟨b, off + k, none⟩ = some (.int .u64 (f k))) :
    Calls Try.prog 3 #[.slice (some ⟨b, off, none⟩) n cap, .int .u64 mark, .int .i64 ((i : Int) + 1), .int .u64 r] w fun e w' => e = .returned (.bool true) ∧ Below w.heap.size w w' := by
  by_cases h1 : r ≤ f i
  · exact fol_low b off n cap f mark r i w hn hi hr0 hf hc h1
  · by_cases h2 : r ≤ mark
    · exact fol_mid b off n cap f mark r i w hn hi hr0 hf hc (by omega) h2
    · exact fol_high b off n cap f mark r i w hn hi hr0 hf hc (by omega) (by omega)

end Go.Proofs.Qxb6601157a
