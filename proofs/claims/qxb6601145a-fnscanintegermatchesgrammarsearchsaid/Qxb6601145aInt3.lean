/-
  FnScanIntegerMatchesGrammarSearch (3): the walk.
-/
import Derived.Test.Qxb6601145aInt2
namespace Go.Proofs.Qxb6601145a
open Go.ChangeShapes Go.WideShapes Go.ChangeAt Go.RowKit
set_option linter.unusedVariables false
set_option linter.unusedSimpArgs false

theorem bytes7_yes (a : Option Addr) (n cap : Nat) (i : Int) (w : World) (h : n ≤ 1048576) :
    Calls Try.prog 7 #[.slice a n cap, .int .i64 i] w fun e w' => e = .returned (.bool true) ∧ w = w' := by
  go_enter Try.func7, Try.ntmps7
  go_wp2
  go_ret
  exact ⟨rfl, rfl⟩
theorem bytes7_no (a : Option Addr) (n cap : Nat) (i : Int) (w : World) (h : 1048576 < n) :
    Calls Try.prog 7 #[.slice a n cap, .int .i64 i] w fun e w' => e = .returned (.bool false) ∧ w = w' := by
  have h' : (1048576 : Int) < (n : Int) := by omega
  go_enter Try.func7, Try.ntmps7
  go_wp2
  go_ret
  exact ⟨rfl, rfl⟩

theorem int3_big (a : Option Addr) (n cap : Nat) (i : Int) (w : World) (h : 4096 < n) :
    Calls Try.prog 3 #[.slice a n cap, .int .i64 i] w fun e w' => e = .returned (.bool true) ∧ Below w.heap.size w w' := by
  by_cases h2 : n ≤ 1048576
  · have h3 : (4096 : Int) < (n : Int) := by omega
    go_enter Try.func3, Try.ntmps3
    go_wp2_with (go_at_call 7; refine (bytes7_yes _ _ _ _ _ h2).mono ?_; rintro e w' ⟨rfl, rfl⟩)
    go_ret
    exact ⟨rfl, Below.refl _ _⟩
  · have h3 : 1048576 < n := by omega
    go_enter Try.func3, Try.ntmps3
    go_wp2_with (go_at_call 7; refine (bytes7_no _ _ _ _ _ h3).mono ?_; rintro e w' ⟨rfl, rfl⟩)
    go_ret
    exact ⟨rfl, Below.refl _ _⟩

theorem int3_neg (a : Option Addr) (n cap : Nat) (i : Int) (w : World) (h : n ≤ 4096) (hi : i < 0) :
    Calls Try.prog 3 #[.slice a n cap, .int .i64 i] w fun e w' => e = .returned (.bool true) ∧ Below w.heap.size w w' := by
  go_enter Try.func3, Try.ntmps3
  go_wp2_with (go_at_call 7; refine (bytes7_yes _ _ _ _ _ (by omega)).mono ?_; rintro e w' ⟨rfl, rfl⟩)
  go_ret
  exact ⟨rfl, Below.refl _ _⟩

set_option maxHeartbeats 400000 in
theorem int3_nil (i : Int) (w : World) (hi : 0 ≤ i) :
    Calls Try.prog 3 #[.slice none 0 0, .int .i64 i] w fun e w' => e = .returned (.bool true) ∧ Below w.heap.size w w' := by
  have nq := neq22
  have eq := eql22
  go_enter Try.func3, Try.ntmps3
  go_wp2_with (first | (go_at_call 7; refine (bytes7_yes _ _ _ _ _ (by omega)).mono ?_; rintro e w' ⟨rfl, rfl⟩) | (go_at_call 8; refine (zzint_out _ _ _ _ _ (by omega)).mono ?_; rintro e w' ⟨rfl, rfl⟩))
  go_ret
  exact ⟨rfl, Below.refl _ _⟩

/-- apiB1IsJSONInteger(data[i:k]). -/
theorem json_at (b i k c : Nat) (f : Nat → Int) (w : World) (h : i < k) (hmc : k - i ≤ c) (hn : k ≤ 1048576) (hc : ∀ q, q < k → w.cell? ⟨b, q, none⟩ = some (.int .u8 (f q))) :
    Calls Try.prog 9 #[.slice (some ⟨b, i, none⟩) (k - i) c] w fun e w' => w = w' ∧ ((Dig f (st f i) k ∧ e = .returned (.bool true)) ∨ (¬ Dig f (st f i) k ∧ e = .returned (.bool false))) := by
  have hj := json_any b i (k - i) c (fun q => f (i + q)) w (by omega) hmc (by omega) (fun q hq => hc (i + q) (by omega))
  have e : Dig (fun q => f (i + q)) (st (fun q => f (i + q)) 0) (k - i) ↔ Dig f (st f i) k := by
    rw [dig_shift, st_shift, show i + (k - i) = k from by omega]
  rw [e] at hj
  exact hj

set_option maxHeartbeats 1000000 in
theorem int3_some (x : Addr) (n cap : Nat) (f : Nat → Int) (i : Int) (w : World) (hi : 0 ≤ i) (hn : n ≤ 4096) (hc : ∀ k, k < n → w.cell? (x.add k) = some (.int .u8 (f k))) :
    Calls Try.prog 3 #[.slice (some x) n cap, .int .i64 i] w fun e w' => e = .returned (.bool true) ∧ Below w.heap.size w w' := by
  obtain ⟨i0, hi0, hz0, hz1, hz2⟩ := info_parts Try.info5
  have H : Hid (∀ k, k < n → w.cell? (x.add k) = some (.int .u8 (f k))) := hc
  clear hc
  have nq := neq22
  have eq := eql22
  go_enter Try.func3, Try.ntmps3
  go_wp2_with (first | (go_at_call 7; refine (bytes7_yes _ _ _ _ _ (by omega)).mono ?_; rintro e w' ⟨rfl, rfl⟩) | (at_make; refine wpList_make_full _ rfl _ _ 22 rfl w.heap.size 5 i0 (.int .u8 0) 1 Try.underlying22 hi0 hz0 hz1 _ _ _ _ n rfl rfl rfl rfl ?b2 ?b3 (Nat.le_refl _) ?_))
  case b2 => first | omega | (rw [hz2]; omega)
  case b3 => unfold maxLen; omega
  intro w1 hown1 hgrow1
  obtain ⟨w2, hrun, h2, hb2⟩ := copy_run (cap := cap) hown1 hgrow1 H.out
  have H2 : Hid (∀ k, k < n → w2.cell? ⟨w.heap.size, k, none⟩ = some (.int .u8 (f k))) := h2
  clear h2 hown1 hgrow1 H
  go_wp2_with fail
  clear hrun
  by_cases hin : i < (n : Int)
  · obtain ⟨j0, rfl⟩ := Int.eq_ofNat_of_zero_le hi
    have hj0 : j0 < n := by omega
    refine (zzint_in w.heap.size 0 n n j0 f _ hj0 (Nat.le_refl _) (by omega) (by omega) (fun k hk => by rw [Nat.zero_add]; exact H2.out k hk)).mono ?_
    rintro e w' ⟨rfl, hit⟩
    rcases hit with ⟨j, hj, rfl⟩ | ⟨hj, rfl⟩
    · have hj1 := hj.1
      have hj2 := hj.2.1
      have HJ := hide hj
      clear hj
      go_wp2
      go_loop [9, 10, 11] (fun c d t => c = .bool false ∧ d = .int .i64 j0 ∧ ∃ k : Nat, j0 < k ∧ k ≤ j ∧ t = .int .i64 k) (fun _ _ t => n + 1 - (intOf t).toNat)
      case atStart => exact ⟨rfl, rfl, j0 + 1, by omega, by omega, by go_num⟩
      case round =>
        obtain ⟨rfl, rfl, k, hk1, hk2, rfl⟩ := hrel
        go_wp2_with fail
        refine (json_at w.heap.size j0 k _ f _ hk1 (by omega) (by omega) (fun q hq => H2.out q (by omega))).mono ?_
        rintro e w' ⟨rfl, hd⟩
        by_cases hkj : k < j
        · have hkn : k < n := by omega
          have hck := H2.out k hkn
          have hkb : ((k : Int) == (n : Int)) = false := by simp; omega
          rcases hd with ⟨hd, rfl⟩ | ⟨hd, rfl⟩
          · have hdk : dg (f k) = true := (unhide HJ).2.2.1.2.2 k (Nat.le_of_lt hd.1) hkj
            clear hd
            go_wp2_with (go_at_call 10; refine (digit_any _ _).mono ?_; rintro e w' ⟨rfl, rfl⟩)
            go_round
            case rel => exact ⟨rfl, rfl, k + 1, by omega, by omega, by go_num⟩
            case measure => simp [intOf]; omega
          · clear hd
            go_wp2_with fail
            go_round
            case rel => exact ⟨rfl, rfl, k + 1, by omega, by omega, by go_num⟩
            case measure => simp [intOf]; omega
        · obtain rfl : j = k := by omega
          rcases hd with ⟨hd, rfl⟩ | ⟨hd, rfl⟩
          · clear hd
            by_cases hjn : j = n
            · have hkb : ((j : Int) == (n : Int)) = true := by simp; omega
              clear hjn
              go_wp2_with fail
              have hcs : ∀ q, q < j - j0 → w2.cell? ⟨w.heap.size, j0 + q, none⟩ = some (.int .u8 (f (j0 + q))) := fun q hq => H2.out (j0 + q) (by omega)
              refine (same_yes w.heap.size j0 _ w.heap.size j0 _ (j - j0) (fun q => f (j0 + q)) _ (by omega) hcs hcs).mono ?_
              rintro e w' ⟨rfl, nn, rfl⟩
              clear hcs
              go_wp2
              go_ret
              exact ⟨rfl, below_drewN hb2 nn⟩
            · have hkn : j < n := by omega
              have hck := H2.out j hkn
              have hkb : ((j : Int) == (n : Int)) = false := by simp; omega
              have hdk : dg (f j) = false := by
                rcases (unhide HJ).2.2.2 with c | c
                · exact absurd c hjn
                · exact c
              clear hjn
              go_wp2_with (go_at_call 10; refine (digit_any _ _).mono ?_; rintro e w' ⟨rfl, rfl⟩)
              have hcs : ∀ q, q < j - j0 → w2.cell? ⟨w.heap.size, j0 + q, none⟩ = some (.int .u8 (f (j0 + q))) := fun q hq => H2.out (j0 + q) (by omega)
              refine (same_yes w.heap.size j0 _ w.heap.size j0 _ (j - j0) (fun q => f (j0 + q)) _ (by omega) hcs hcs).mono ?_
              rintro e w' ⟨rfl, nn, rfl⟩
              clear hcs
              go_wp2
              go_ret
              exact ⟨rfl, below_drewN hb2 nn⟩
          · exact absurd (unhide HJ).2.2.1 hd
    · have HJ : Hid (∀ j, ¬ IHit f j0 n j) := hj
      clear hj
      go_wp2
      go_loop [9, 10, 11] (fun c d t => c = .bool false ∧ d = .int .i64 j0 ∧ ∃ k : Nat, j0 < k ∧ k ≤ n + 1 ∧ t = .int .i64 k) (fun _ _ t => n + 1 - (intOf t).toNat)
      case atStart => exact ⟨rfl, rfl, j0 + 1, by omega, by omega, by go_num⟩
      case round =>
        obtain ⟨rfl, rfl, k, hk1, hk2, rfl⟩ := hrel
        by_cases hle : k ≤ n
        · go_wp2_with fail
          refine (json_at w.heap.size j0 k _ f _ hk1 (by omega) (by omega) (fun q hq => H2.out q (by omega))).mono ?_
          rintro e w' ⟨rfl, hd⟩
          rcases hd with ⟨hd, rfl⟩ | ⟨hd, rfl⟩
          · by_cases hjn : k = n
            · exact absurd ⟨hk1, hle, hd, .inl hjn⟩ (HJ.out k)
            · have hkn : k < n := by omega
              have hck := H2.out k hkn
              have hkb : ((k : Int) == (n : Int)) = false := by simp; omega
              cases hdk : dg (f k)
              · exact absurd ⟨hk1, hle, hd, .inr hdk⟩ (HJ.out k)
              · clear hd hjn
                go_wp2_with (go_at_call 10; refine (digit_any _ _).mono ?_; rintro e w' ⟨rfl, rfl⟩)
                go_round
                case rel => exact ⟨rfl, rfl, k + 1, by omega, by omega, by go_num⟩
                case measure => simp [intOf]; omega
          · clear hd
            go_wp2_with fail
            go_round
            case rel => exact ⟨rfl, rfl, k + 1, by omega, by omega, by go_num⟩
            case measure => simp [intOf]; omega
        · go_wp2_with fail
          go_ret
          exact ⟨rfl, hb2⟩
  · refine (zzint_out _ _ _ _ _ (by omega)).mono ?_
    rintro e w' ⟨rfl, rfl⟩
    go_wp2
    go_ret
    exact ⟨rfl, hb2⟩

end Go.Proofs.Qxb6601145a
