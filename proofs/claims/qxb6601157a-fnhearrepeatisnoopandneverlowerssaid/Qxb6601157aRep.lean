/-
  FnHearRepeatIsNoOpAndNeverLowers (4): the walk.
-/
import Derived.Test.Qxb6601157aZz
namespace Go.Proofs.Qxb6601157a
open Go.ChangeShapes Go.WideShapes Go.ChangeAt Go.RowKit
set_option linter.unusedVariables false
set_option linter.unusedSimpArgs false

theorem bytes11_yes (a : Option Addr) (n cap : Nat) (x y z : Int) (w : World) (h : n ≤ 1048576) :
    Calls Try.prog 11 #[.slice a n cap, .int .u64 x, .int .i64 y, .int .u64 z] w fun e w' => e = .returned (.bool true) ∧ w = w' := by
  go_enter Try.func11, Try.ntmps11
  go_wp2
  go_ret
  exact ⟨rfl, rfl⟩
theorem bytes11_no (a : Option Addr) (n cap : Nat) (x y z : Int) (w : World) (h : 1048576 < n) :
    Calls Try.prog 11 #[.slice a n cap, .int .u64 x, .int .i64 y, .int .u64 z] w fun e w' => e = .returned (.bool false) ∧ w = w' := by
  have h' : (1048576 : Int) < (n : Int) := by omega
  go_enter Try.func11, Try.ntmps11
  go_wp2
  go_ret
  exact ⟨rfl, rfl⟩

set_option maxHeartbeats 2000000 in
theorem rep_low (b off n cap : Nat) (f : Nat → Int) (mark r : Int) (i : Nat) (w : World) (hn : n ≤ 131072) (hi : i < n) (hc : ∀ k, k < n → w.cell? ⟨b, off + k, none⟩ = some (.int .u64 (f k))) (hle : r ≤ f i) :
    Calls Try.prog 4 #[.slice (some ⟨b, off, none⟩) n cap, .int .u64 mark, .int .i64 ((i : Int) + 1), .int .u64 r] w fun e w' => e = .returned (.bool true) ∧ Below w.heap.size w w' := by
  have H := hide hc
  have hd1 : ¬ ((i : Int) + 1 < 1) := by omega
  have hd2 : ¬ ((n : Int) < (i : Int) + 1) := by omega
  clear hc
  go_enter Try.func4, Try.ntmps4
  go_wp2_with (go_at_call 11; refine (bytes11_yes _ _ _ _ _ _ _ (by omega)).mono ?_; rintro e w' ⟨rfl, rfl⟩)
  refine (clone_any b off n cap f w (by omega) (unhide H)).mono ?_
  rintro e w1 ⟨rfl, hr1, hb1, hs1⟩
  have HR1 := hide hr1
  have HB1 := hide hb1
  clear hr1 hb1 H
  go_wp2_with fail
  refine (clone_any w.heap.size 0 n n f w1 (by omega) (fun k hk => by rw [Nat.zero_add]; exact (unhide HR1 k hk).1)).mono ?_
  rintro e w2 ⟨rfl, hr2, hb2, hs2⟩
  have HR2 := hide hr2
  have HB2 := hide hb2
  clear hr2 hb2
  go_wp2_with fail
  refine (zz_low w1.heap.size n f mark r i w2 (by omega) hi (unhide HR2) hle).mono ?_
  rintro e w3 ⟨rfl, hr3, hg3⟩
  have hr13 : Row w.heap.size n f w3 := ((unhide HR1).below (unhide HB2) hs1).grown hg3 (by simp; omega)
  have hb3 : Below w.heap.size w w3 := ((unhide HB1).trans ((unhide HB2).mono (by omega))).grown hg3 (by have := hg3.size; omega) (fun k hk => by cases hk; omega)
  have hs3 : w1.heap.size < w3.heap.size := by have := hg3.size; omega
  have HR3 := hide hr3
  have HR13 := hide hr13
  have HB3 := hide hb3
  have hci := (hr13 i hi).1
  clear hr3 hr13 hb3 hg3 HR1 HR2 HB1 HB2
  go_wp2_with fail
  go_loop [14] (fun t => ∃ k : Nat, k ≤ n ∧ t = .int .i64 k) (fun t => n - (intOf t).toNat)
  case atStart => exact ⟨0, Nat.zero_le _, rfl⟩
  case round =>
    obtain ⟨k, hk, rfl⟩ := hrel
    by_cases hlt : k < n
    · have hcf := (unhide HR13 k hlt).1
      · have hcF := (unhide HR3 k hlt).1
        have hrk : ¬ f k < r ∨ ¬ k = i := by
          by_cases e : k = i
          · subst e; left; omega
          · right; exact e
        by_cases hki : k = i
        · subst hki
          clear hci hrk
          go_wp2
          go_round
          case rel => exact ⟨k + 1, by omega, by go_num⟩
          case measure => simp [intOf]; omega
        · have hkb : ((k : Int) == (i : Int)) = false := by simp; omega
          clear hrk
          go_wp2
          go_round
          case rel => exact ⟨k + 1, by omega, by go_num⟩
          case measure => simp [intOf]; omega
    · go_wp2_with fail
      refine (clone_any w1.heap.size 0 n n f w3 (by omega) (fun q hq => by rw [Nat.zero_add]; exact (unhide HR3 q hq).1)).mono ?_
      rintro e w4 ⟨rfl, hr4, hb4, hs4⟩
      have hr34 := (unhide HR3).below hb4 hs3
      have hb04 : Below w.heap.size w w4 := (unhide HB3).trans (hb4.mono (unhide HB3).size)
      have HR4 := hide hr4
      have HR34 := hide hr34
      have HB4 := hide hb04
      clear hr4 hb4 hr34 hb04 HR3 HR13 HB3
      go_wp2_with fail
      refine (zz_low w1.heap.size n f mark r i w4 (by omega) hi (unhide HR34) hle).mono ?_
      rintro e w5 ⟨rfl, hr5, hg5⟩
      have hr45 : Row w3.heap.size n f w5 := (unhide HR4).grown hg5 (by simp; omega)
      have hb5 : Below w.heap.size w w5 := (unhide HB4).grown hg5 (unhide HB4).size (fun q hq => by cases hq; omega)
      have HR5 := hide hr5
      have HR45 := hide hr45
      have HB5 := hide hb5
      clear hr5 hr45 hb5 hg5 HR4 HR34 HB4
      go_wp2_with fail
      go_loopw [21] (fun t wr => ∃ q nq : Nat, q ≤ n ∧ t = .int .i64 q ∧ wr = w5.drewN nq) (fun t _ => n - (intOf t).toNat)
      case atStart => exact ⟨0, 0, Nat.zero_le _, rfl, rfl⟩
      case round =>
        obtain ⟨q, nq, hqn, rfl, rfl⟩ := hrel
        by_cases hlq : q < n
        · have g1 := (unhide HR5 q hlq).1
          have g2 := (unhide HR45 q hlq).1
          have hlq' : (q : Int) < (n : Int) := by omega
          generalize f q = v at g1 g2
          go_wp2
          go_quiet (fail)
          go_wp2
          go_roundw
          case rel => exact ⟨q + 1, _, by omega, by go_num, rfl⟩
          case measure => simp [intOf]; omega
        · go_wp2
          go_ret
          exact ⟨rfl, below_drewN (unhide HB5) nq⟩

set_option maxHeartbeats 2000000 in
theorem rep_mid (b off n cap : Nat) (f : Nat → Int) (mark r : Int) (i : Nat) (w : World) (hn : n ≤ 131072) (hi : i < n) (hc : ∀ k, k < n → w.cell? ⟨b, off + k, none⟩ = some (.int .u64 (f k))) (hgt : f i < r) (hle : r ≤ mark) :
    Calls Try.prog 4 #[.slice (some ⟨b, off, none⟩) n cap, .int .u64 mark, .int .i64 ((i : Int) + 1), .int .u64 r] w fun e w' => e = .returned (.bool true) ∧ Below w.heap.size w w' := by
  have H := hide hc
  have hd1 : ¬ ((i : Int) + 1 < 1) := by omega
  have hd2 : ¬ ((n : Int) < (i : Int) + 1) := by omega
  clear hc
  go_enter Try.func4, Try.ntmps4
  go_wp2_with (go_at_call 11; refine (bytes11_yes _ _ _ _ _ _ _ (by omega)).mono ?_; rintro e w' ⟨rfl, rfl⟩)
  refine (clone_any b off n cap f w (by omega) (unhide H)).mono ?_
  rintro e w1 ⟨rfl, hr1, hb1, hs1⟩
  have HR1 := hide hr1
  have HB1 := hide hb1
  clear hr1 hb1 H
  go_wp2_with fail
  refine (clone_any w.heap.size 0 n n f w1 (by omega) (fun k hk => by rw [Nat.zero_add]; exact (unhide HR1 k hk).1)).mono ?_
  rintro e w2 ⟨rfl, hr2, hb2, hs2⟩
  have HR2 := hide hr2
  have HB2 := hide hb2
  clear hr2 hb2
  go_wp2_with fail
  refine (zz_mid w1.heap.size n f mark r i w2 (by omega) hi (unhide HR2) hgt hle).mono ?_
  rintro e w3 ⟨rfl, hr3, hg3⟩
  have hr13 : Row w.heap.size n f w3 := ((unhide HR1).below (unhide HB2) hs1).grown hg3 (by simp; omega)
  have hb3 : Below w.heap.size w w3 := ((unhide HB1).trans ((unhide HB2).mono (by omega))).grown hg3 (by have := hg3.size; omega) (fun k hk => by cases hk; omega)
  have hs3 : w1.heap.size < w3.heap.size := by have := hg3.size; omega
  have HR3 := hide hr3
  have HR13 := hide hr13
  have HB3 := hide hb3
  have hci := (hr13 i hi).1
  clear hr3 hr13 hb3 hg3 HR1 HR2 HB1 HB2
  go_wp2_with fail
  go_loop [14] (fun t => ∃ k : Nat, k ≤ n ∧ t = .int .i64 k) (fun t => n - (intOf t).toNat)
  case atStart => exact ⟨0, Nat.zero_le _, rfl⟩
  case round =>
    obtain ⟨k, hk, rfl⟩ := hrel
    by_cases hlt : k < n
    · have hcf := (unhide HR13 k hlt).1
      · by_cases hki : k = i
        · subst hki
          have hcF := (unhide HR3 k hlt).1
          rw [upd_same] at hcF
          clear hci
          go_wp2
          go_round
          case rel => exact ⟨k + 1, by omega, by go_num⟩
          case measure => simp [intOf]; omega
        · have hkb : ((k : Int) == (i : Int)) = false := by simp; omega
          have hcF := (unhide HR3 k hlt).1
          rw [upd_other f r hki] at hcF
          go_wp2
          go_round
          case rel => exact ⟨k + 1, by omega, by go_num⟩
          case measure => simp [intOf]; omega
    · go_wp2_with fail
      refine (clone_any w1.heap.size 0 n n (upd f i r) w3 (by omega) (fun q hq => by rw [Nat.zero_add]; exact (unhide HR3 q hq).1)).mono ?_
      rintro e w4 ⟨rfl, hr4, hb4, hs4⟩
      have hr34 := (unhide HR3).below hb4 hs3
      have hb04 : Below w.heap.size w w4 := (unhide HB3).trans (hb4.mono (unhide HB3).size)
      have HR4 := hide hr4
      have HR34 := hide hr34
      have HB4 := hide hb04
      clear hr4 hb4 hr34 hb04 HR3 HR13 HB3
      go_wp2_with fail
      refine (zz_low w1.heap.size n (upd f i r) mark r i w4 (by omega) hi (unhide HR34) (by rw [upd_same]; exact Int.le_refl _)).mono ?_
      rintro e w5 ⟨rfl, hr5, hg5⟩
      have hr45 : Row w3.heap.size n (upd f i r) w5 := (unhide HR4).grown hg5 (by simp; omega)
      have hb5 : Below w.heap.size w w5 := (unhide HB4).grown hg5 (unhide HB4).size (fun q hq => by cases hq; omega)
      have HR5 := hide hr5
      have HR45 := hide hr45
      have HB5 := hide hb5
      clear hr5 hr45 hb5 hg5 HR4 HR34 HB4
      go_wp2_with fail
      go_loopw [21] (fun t wr => ∃ q nq : Nat, q ≤ n ∧ t = .int .i64 q ∧ wr = w5.drewN nq) (fun t _ => n - (intOf t).toNat)
      case atStart => exact ⟨0, 0, Nat.zero_le _, rfl, rfl⟩
      case round =>
        obtain ⟨q, nq, hqn, rfl, rfl⟩ := hrel
        by_cases hlq : q < n
        · have g1 := (unhide HR5 q hlq).1
          have g2 := (unhide HR45 q hlq).1
          have hlq' : (q : Int) < (n : Int) := by omega
          generalize (upd f i r) q = v at g1 g2
          go_wp2
          go_quiet (fail)
          go_wp2
          go_roundw
          case rel => exact ⟨q + 1, _, by omega, by go_num, rfl⟩
          case measure => simp [intOf]; omega
        · go_wp2
          go_ret
          exact ⟨rfl, below_drewN (unhide HB5) nq⟩

set_option maxHeartbeats 2000000 in
theorem rep_high (b off n cap : Nat) (f : Nat → Int) (mark r : Int) (i : Nat) (w : World) (hn : n ≤ 131072) (hi : i < n) (hc : ∀ k, k < n → w.cell? ⟨b, off + k, none⟩ = some (.int .u64 (f k))) (hgt : f i < r) (hmr : mark < r) :
    Calls Try.prog 4 #[.slice (some ⟨b, off, none⟩) n cap, .int .u64 mark, .int .i64 ((i : Int) + 1), .int .u64 r] w fun e w' => e = .returned (.bool true) ∧ Below w.heap.size w w' := by
  have H := hide hc
  have hd1 : ¬ ((i : Int) + 1 < 1) := by omega
  have hd2 : ¬ ((n : Int) < (i : Int) + 1) := by omega
  clear hc
  go_enter Try.func4, Try.ntmps4
  go_wp2_with (go_at_call 11; refine (bytes11_yes _ _ _ _ _ _ _ (by omega)).mono ?_; rintro e w' ⟨rfl, rfl⟩)
  refine (clone_any b off n cap f w (by omega) (unhide H)).mono ?_
  rintro e w1 ⟨rfl, hr1, hb1, hs1⟩
  have HR1 := hide hr1
  have HB1 := hide hb1
  clear hr1 hb1 H
  go_wp2_with fail
  refine (clone_any w.heap.size 0 n n f w1 (by omega) (fun k hk => by rw [Nat.zero_add]; exact (unhide HR1 k hk).1)).mono ?_
  rintro e w2 ⟨rfl, hr2, hb2, hs2⟩
  have HR2 := hide hr2
  have HB2 := hide hb2
  clear hr2 hb2
  go_wp2_with fail
  refine (zz_high w1.heap.size n f mark r i w2 (by omega) hi (unhide HR2) hgt hmr).mono ?_
  rintro e w3 ⟨l, hl1, hl2, rfl, hr3, hg3⟩
  have hlm := hl1.1
  have HL := hide hl1
  clear hl1
  have hlb : (l != mark) = true := by simp; omega
  have hr13 : Row w.heap.size n f w3 := ((unhide HR1).below (unhide HB2) hs1).grown hg3 (by simp; omega)
  have hb3 : Below w.heap.size w w3 := ((unhide HB1).trans ((unhide HB2).mono (by omega))).grown hg3 (by have := hg3.size; omega) (fun k hk => by cases hk; omega)
  have hs3 : w1.heap.size < w3.heap.size := by have := hg3.size; omega
  have HR3 := hide hr3
  have HR13 := hide hr13
  have HB3 := hide hb3
  have hci := (hr13 i hi).1
  clear hr3 hr13 hb3 hg3 HR1 HR2 HB1 HB2
  go_wp2_with fail
  go_loop [14] (fun t => ∃ k : Nat, k ≤ n ∧ t = .int .i64 k) (fun t => n - (intOf t).toNat)
  case atStart => exact ⟨0, Nat.zero_le _, rfl⟩
  case round =>
    obtain ⟨k, hk, rfl⟩ := hrel
    by_cases hlt : k < n
    · have hcf := (unhide HR13 k hlt).1
      · by_cases hki : k = i
        · subst hki
          have hcF := (unhide HR3 k hlt).1
          rw [upd_same] at hcF
          clear hci
          go_wp2
          go_round
          case rel => exact ⟨k + 1, by omega, by go_num⟩
          case measure => simp [intOf]; omega
        · have hkb : ((k : Int) == (i : Int)) = false := by simp; omega
          have hcF := (unhide HR3 k hlt).1
          rw [upd_other f r hki] at hcF
          go_wp2
          go_round
          case rel => exact ⟨k + 1, by omega, by go_num⟩
          case measure => simp [intOf]; omega
    · go_wp2_with fail
      refine (clone_any w1.heap.size 0 n n (upd f i r) w3 (by omega) (fun q hq => by rw [Nat.zero_add]; exact (unhide HR3 q hq).1)).mono ?_
      rintro e w4 ⟨rfl, hr4, hb4, hs4⟩
      have hr34 := (unhide HR3).below hb4 hs3
      have hb04 : Below w.heap.size w w4 := (unhide HB3).trans (hb4.mono (unhide HB3).size)
      have HR4 := hide hr4
      have HR34 := hide hr34
      have HB4 := hide hb04
      clear hr4 hb4 hr34 hb04 HR3 HR13 HB3
      go_wp2_with fail
      refine (zz_low w1.heap.size n (upd f i r) l r i w4 (by omega) hi (unhide HR34) (by rw [upd_same]; exact Int.le_refl _)).mono ?_
      rintro e w5 ⟨rfl, hr5, hg5⟩
      have hr45 : Row w3.heap.size n (upd f i r) w5 := (unhide HR4).grown hg5 (by simp; omega)
      have hb5 : Below w.heap.size w w5 := (unhide HB4).grown hg5 (unhide HB4).size (fun q hq => by cases hq; omega)
      have HR5 := hide hr5
      have HR45 := hide hr45
      have HB5 := hide hb5
      clear hr5 hr45 hb5 hg5 HR4 HR34 HB4
      go_wp2_with fail
      go_loopw [21] (fun t wr => ∃ q nq : Nat, q ≤ n ∧ t = .int .i64 q ∧ wr = w5.drewN nq) (fun t _ => n - (intOf t).toNat)
      case atStart => exact ⟨0, 0, Nat.zero_le _, rfl, rfl⟩
      case round =>
        obtain ⟨q, nq, hqn, rfl, rfl⟩ := hrel
        by_cases hlq : q < n
        · have g1 := (unhide HR5 q hlq).1
          have g2 := (unhide HR45 q hlq).1
          have hlq' : (q : Int) < (n : Int) := by omega
          generalize (upd f i r) q = v at g1 g2
          go_wp2
          go_quiet (fail)
          go_wp2
          go_roundw
          case rel => exact ⟨q + 1, _, by omega, by go_num, rfl⟩
          case measure => simp [intOf]; omega
        · go_wp2
          go_ret
          exact ⟨rfl, below_drewN (unhide HB5) nq⟩


theorem rep_big (a : Option Addr) (n cap : Nat) (x y z : Int) (w : World) (h : 131072 < n) :
    Calls Try.prog 4 #[.slice a n cap, .int .u64 x, .int .i64 y, .int .u64 z] w fun e w' => e = .returned (.bool true) ∧ Below w.heap.size w w' := by
  by_cases h2 : n ≤ 1048576
  · have h3 : (131072 : Int) < (n : Int) := by omega
    go_enter Try.func4, Try.ntmps4
    go_wp2_with (go_at_call 11; refine (bytes11_yes _ _ _ _ _ _ _ h2).mono ?_; rintro e w' ⟨rfl, rfl⟩)
    go_ret
    exact ⟨rfl, Below.refl _ _⟩
  · have h3 : 1048576 < n := by omega
    go_enter Try.func4, Try.ntmps4
    go_wp2_with (go_at_call 11; refine (bytes11_no _ _ _ _ _ _ _ h3).mono ?_; rintro e w' ⟨rfl, rfl⟩)
    go_ret
    exact ⟨rfl, Below.refl _ _⟩

theorem rep_from (a : Option Addr) (n cap : Nat) (x y z : Int) (w : World) (hn : n ≤ 131072) (h : y < 1 ∨ (n : Int) < y) :
    Calls Try.prog 4 #[.slice a n cap, .int .u64 x, .int .i64 y, .int .u64 z] w fun e w' => e = .returned (.bool true) ∧ Below w.heap.size w w' := by
  by_cases h1 : y < 1
  · clear h
    go_enter Try.func4, Try.ntmps4
    go_wp2_with (go_at_call 11; refine (bytes11_yes _ _ _ _ _ _ _ (by omega)).mono ?_; rintro e w' ⟨rfl, rfl⟩)
    go_ret
    exact ⟨rfl, Below.refl _ _⟩
  · have h2 : (n : Int) < y := by omega
    clear h
    go_enter Try.func4, Try.ntmps4
    go_wp2_with (go_at_call 11; refine (bytes11_yes _ _ _ _ _ _ _ (by omega)).mono ?_; rintro e w' ⟨rfl, rfl⟩)
    go_ret
    exact ⟨rfl, Below.refl _ _⟩

theorem rep_any (b off n cap : Nat) (f : Nat → Int) (mark r : Int) (i : Nat) (w : World) (hn : n ≤ 131072) (hi : i < n) (hc : ∀ k, k < n → w.cell? ⟨b, off + k, none⟩ = some (.int .u64 (f k))) :
    Calls Try.prog 4 #[.slice (some ⟨b, off, none⟩) n cap, .int .u64 mark, .int .i64 ((i : Int) + 1), .int .u64 r] w fun e w' => e = .returned (.bool true) ∧ Below w.heap.size w w' := by
  by_cases h1 : r ≤ f i
  · exact rep_low b off n cap f mark r i w hn hi hc h1
  · by_cases h2 : r ≤ mark
    · exact rep_mid b off n cap f mark r i w hn hi hc (by omega) h2
    · exact rep_high b off n cap f mark r i w hn hi hc (by omega) (by omega)

end Go.Proofs.Qxb6601157a
