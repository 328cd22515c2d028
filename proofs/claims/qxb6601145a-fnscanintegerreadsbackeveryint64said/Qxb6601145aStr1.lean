/-
  FnScanStringMatchesTwoPassModel (5): the walk.
-/
import Derived.Test.Qxb6601145aBase
namespace Go.Proofs.Qxb6601145a
open Go.ChangeShapes Go.WideShapes Go.ChangeAt Go.RowKit
set_option linter.unusedVariables false
set_option linter.unusedSimpArgs false

theorem bytes14_yes (a : Option Addr) (n cap : Nat) (i : Int) (w : World) (h : n ≤ 1048576) :
    Calls Try.prog 14 #[.slice a n cap, .int .i64 i] w fun e w' => e = .returned (.bool true) ∧ w = w' := by
  go_enter Try.func14, Try.ntmps14
  go_wp2
  go_ret
  exact ⟨rfl, rfl⟩
theorem bytes14_no (a : Option Addr) (n cap : Nat) (i : Int) (w : World) (h : 1048576 < n) :
    Calls Try.prog 14 #[.slice a n cap, .int .i64 i] w fun e w' => e = .returned (.bool false) ∧ w = w' := by
  have h' : (1048576 : Int) < (n : Int) := by omega
  go_enter Try.func14, Try.ntmps14
  go_wp2
  go_ret
  exact ⟨rfl, rfl⟩

theorem Try.info5 : (Try.prog.info? 5).map (fun i => (i.zero, i.size, i.bytes)) = some (some (.int .u8 0), 1, 1) := by kernel_rfl
theorem Try.size5 : (Try.prog.info? 5).map (·.size) = some 1 := by kernel_rfl

/-- The bytes f 0, .., f (n-1) as cells. -/
def bs (f : Nat → Int) (n : Nat) : List Value := (List.range n).map fun k => .int .u8 (f k)
theorem bs_length (f : Nat → Int) (n : Nat) : (bs f n).length = n := by simp [bs]
theorem bs_get (f : Nat → Int) (n j : Nat) (v : Value) (h : (bs f n)[j]? = some v) : j < n ∧ v = .int .u8 (f j) := by
  have hj : j < n := by have := (List.getElem?_eq_some_iff.1 h).1; rwa [bs_length] at this
  have e : (bs f n)[j]? = some (.int .u8 (f j)) := by simp [bs, hj]
  rw [e] at h
  exact ⟨hj, (Option.some.inj h).symm⟩
theorem bs_at (f : Nat → Int) (n j : Nat) (h : j < n) : (bs f n)[j]? = some (.int .u8 (f j)) := by simp [bs, h]
theorem bs_one (f : Nat → Int) (n : Nat) : ∀ u ∈ bs f n, u.oneCell' = true := by
  intro u hu
  simp [bs] at hu
  obtain ⟨a, _, rfl⟩ := hu
  rfl
theorem owned_heap {w : World} {base : Nat} {e : TypeId} {g n : Nat} {xs : List Value} (h : w.ownsRow base e 1 (.slice (some ⟨g, 0, none⟩) n n) n xs) :
    ∃ cur : List Value, w.heap[g]? = some (.cells cur.toArray e (0, 0)) ∧ cur.length = n := by
  rcases h.2 with ⟨h', _⟩ | ⟨g', cap', cur, h', _, hg, _, _, hs, _⟩
  · simp at h'
  · simp only [Value.slice.injEq, Option.some.injEq, Addr.mk.injEq, and_true, true_and] at h'
    obtain ⟨rfl, rfl⟩ := h'
    exact ⟨cur.toList, by simpa using hg, by simpa using hs⟩

/-- 'copy(zzc, data)' behind 'zzc := make([]byte, len(data))'. -/
theorem copy_run {w w1 : World} {x : Addr} {n cap : Nat} {f : Nat → Int} {xs : List Value} (hown : w1.ownsRow w.heap.size 5 1 (.slice (some ⟨w.heap.size, 0, none⟩) n n) n xs) (hg : w.grownBy w1 none)
    (hc : ∀ k, k < n → w.cell? (x.add k) = some (.int .u8 (f k))) :
    ∃ w2, (∀ ty, (Builtin.copy_ #[22, 22] ty #[.slice (some ⟨w.heap.size, 0, none⟩) n n, .slice (some x) n cap]).run Try.prog w1 = .ok (goInt n) w2) ∧
      (∀ k, k < n → w2.cell? ⟨w.heap.size, k, none⟩ = some (.int .u8 (f k))) ∧ Below w.heap.size w w2 := by
  obtain ⟨cur, hg1, hl1⟩ := owned_heap hown
  have hr := fun ty => run_copy_row (P := Try.prog) w1 22 22 ty 5 w.heap.size 0 n n x n cap cur.toArray 5 (bs f n) Try.underlying22 Try.size5 hg1 (by simp [bs_length])
    (fun j v hv => by obtain ⟨h1, rfl⟩ := bs_get f n j v hv; exact hg.cell (hc j h1) (by simp)) (by simp [bs_length, hl1]) (bs_one f n)
  rw [bs_length] at hr
  refine ⟨_, hr, ?_, ?_⟩
  · intro k hk
    rw [cell_of_row _ _ k _ 5 (0, 0) (setRow_heap w1 _ _ _ 5 _ hg1)]
    have e : List.take 0 cur.toArray.toList ++ bs f n ++ List.drop (0 + n) cur.toArray.toList = bs f n := by
      simp only [List.take_zero, List.nil_append, Nat.zero_add]
      rw [List.drop_of_length_le (by show cur.length ≤ n; omega)]; simp
    rw [e]
    simpa using bs_at f n k hk
  · exact below_setRow ((Below.refl _ _).grown hg (Nat.le_refl _) (fun k h => by cases h)) (Nat.le_refl _) _

theorem neq22 (w : World) (a : Option Addr) (n c : Nat) : (binOp .neq 22 (.slice a n c) (.slice none 0 0)).run Try.prog w = .ok (.bool (!a.isNone)) w := run_neq_slice_nil_any (P := Try.prog) w 22 5 a n c 0 0 Try.underlying22
theorem eql22 (w : World) (a : Option Addr) (n c : Nat) : (binOp .eql 22 (.slice a n c) (.slice none 0 0)).run Try.prog w = .ok (.bool a.isNone) w := Lib.run_eql_slice_nil (P := Try.prog) w 22 5 a n c 0 0 Try.underlying22

set_option maxHeartbeats 400000 in
theorem str1_nil (i : Int) (w : World) (hi : 0 ≤ i) :
    Calls Try.prog 5 #[.slice none 0 0, .int .i64 i] w fun e w' => e = .returned (.bool true) ∧ Below w.heap.size w w' := by
  have nq := neq22
  have eq := eql22
  go_enter Try.func5, Try.ntmps5
  go_wp2_with (first | (go_at_call 14; refine (bytes14_yes _ _ _ _ _ (by omega)).mono ?_; rintro e w' ⟨rfl, rfl⟩) | (go_at_call 15; refine (zzscan_out _ _ _ _ _ (by omega)).mono ?_; rintro e w' ⟨rfl, rfl⟩))
  go_ret
  exact ⟨rfl, Below.refl _ _⟩

set_option maxHeartbeats 400000 in
theorem str1_some (x : Addr) (n cap : Nat) (f : Nat → Int) (i : Int) (w : World) (hi : 0 ≤ i) (hn : n ≤ 65536) (hc : ∀ k, k < n → w.cell? (x.add k) = some (.int .u8 (f k))) :
    Calls Try.prog 5 #[.slice (some x) n cap, .int .i64 i] w fun e w' => e = .returned (.bool true) ∧ Below w.heap.size w w' := by
  obtain ⟨i0, hi0, hz0, hz1, hz2⟩ := info_parts Try.info5
  have H : Hid (∀ k, k < n → w.cell? (x.add k) = some (.int .u8 (f k))) := hc
  clear hc
  have nq := neq22
  have eq := eql22
  go_enter Try.func5, Try.ntmps5
  go_wp2_with (first | (go_at_call 14; refine (bytes14_yes _ _ _ _ _ (by omega)).mono ?_; rintro e w' ⟨rfl, rfl⟩) | (at_make; refine wpList_make_full _ rfl _ _ 22 rfl w.heap.size 5 i0 (.int .u8 0) 1 Try.underlying22 hi0 hz0 hz1 _ _ _ _ n rfl rfl rfl rfl ?b2 ?b3 (Nat.le_refl _) ?_))
  case b2 => rw [hz2]; omega
  case b3 => unfold maxLen; omega
  intro w1 hown1 hgrow1
  obtain ⟨w2, hrun, h2, hb2⟩ := copy_run (cap := cap) hown1 hgrow1 H.out
  have H2 : Hid (∀ k, k < n → w2.cell? ⟨w.heap.size, k, none⟩ = some (.int .u8 (f k))) := h2
  clear h2 hown1 hgrow1 H
  go_wp2_with fail
  by_cases hin : i < (n : Int)
  · obtain ⟨j0, rfl⟩ := Int.eq_ofNat_of_zero_le hi
    have hj0 : j0 < n := by omega
    have hci := H2.out j0 hj0
    refine (zzscan_in w.heap.size 0 n n j0 f _ hj0 (Nat.le_refl _) (by omega) (by omega) (fun k hk => by rw [Nat.zero_add]; exact H2.out k hk)).mono ?_
    rintro e w' ⟨rfl, hit⟩
    rcases hit with ⟨j, hj, rfl⟩ | ⟨hj, rfl⟩
    · obtain ⟨h1, h2, h3, h4, h5⟩ := hj
      have h3b : (f j0 == 34) = true := by simp [h3]
      have H5 : Hid (f j0 = 34 ∧ f j = 34 ∧ ∀ k, j0 < k → k < j → f k ≠ 34 ∧ pr (f k) = true) := ⟨h3, h4, h5⟩
      clear h3 h4 h5
      go_wp2
      go_loop [9, 10] (fun c t => c = .int .i64 (-1) ∧ ∃ k : Nat, j0 < k ∧ k ≤ j ∧ t = .int .i64 k) (fun _ t => n - (intOf t).toNat)
      case atStart => exact ⟨rfl, j0 + 1, by omega, by omega, by go_num⟩
      case round =>
        obtain ⟨rfl, k, hk1, hk2, rfl⟩ := hrel
        have hck := H2.out k (by omega)
        have hkn : k < n := by omega
        by_cases hkj : k < j
        · have hfk : (f k == 34) = false := by simpa using (H5.out.2.2 k hk1 hkj).1
          go_wp2
          go_round
          case rel => exact ⟨rfl, k + 1, by omega, by omega, by go_num⟩
          case measure => simp [intOf]; omega
        · obtain rfl : k = j := by omega
          have hfk : (f k == 34) = true := by simpa using H5.out.2.1
          go_wp2
          go_loop [11, 12] (fun c t => c = .bool true ∧ ∃ m : Nat, j0 < m ∧ m ≤ k ∧ t = .int .i64 m) (fun _ t => k - (intOf t).toNat)
          case atStart => exact ⟨rfl, j0 + 1, by omega, by omega, by go_num⟩
          case round =>
            obtain ⟨rfl, m, hm1, hm2, rfl⟩ := hrel
            by_cases hmk : m < k
            · have hcm := H2.out m (by omega)
              have hmn : m < n := by omega
              have hpm := (H5.out.2.2 m hm1 hmk).2
              go_wp2_with (go_at_call 16; refine (printable_any _ _).mono ?_; rintro e w' ⟨rfl, rfl⟩)
              go_round
              case rel => exact ⟨rfl, m + 1, by omega, by omega, by go_num⟩
              case measure => simp [intOf]; omega
            · obtain rfl : m = k := by omega
              go_wp2_with fail
              have hcs : ∀ q, q < m - (j0 + 1) → w2.cell? ⟨w.heap.size, j0 + 1 + q, none⟩ = some (.int .u8 (f (j0 + 1 + q))) := fun q hq => H2.out (j0 + 1 + q) (by omega)
              refine (same_yes w.heap.size (j0 + 1) _ w.heap.size (j0 + 1) _ (m - (j0 + 1)) (fun q => f (j0 + 1 + q)) _ (by omega) hcs hcs).mono ?_
              rintro e w' ⟨rfl, nn, rfl⟩
              clear hcs
              go_wp2
              go_ret
              exact ⟨rfl, below_drewN hb2 nn⟩
    · have HJ : Hid (∀ j, ¬ Hit f j0 n j) := hj
      clear hj
      by_cases h3 : f j0 = 34
      · have h3b : (f j0 == 34) = true := by simp [h3]
        go_wp2
        go_loop [9, 10] (fun c t => c = .int .i64 (-1) ∧ ∃ k : Nat, j0 < k ∧ k ≤ n ∧ t = .int .i64 k ∧ ∀ m, j0 < m → m < k → f m ≠ 34) (fun _ t => n - (intOf t).toNat)
        case atStart => exact ⟨rfl, j0 + 1, by omega, by omega, by go_num, fun m h1 h2 => by omega⟩
        case round =>
          obtain ⟨rfl, k, hk1, hk2, rfl, hall⟩ := hrel
          have HA : Hid (∀ m, j0 < m → m < k → f m ≠ 34) := hall
          clear hall
          by_cases hkn : k < n
          · have hck := H2.out k hkn
            by_cases hq : f k = 34
            · have hfk : (f k == 34) = true := by simpa using hq
              have HQ : Hid (f j0 = 34 ∧ f k = 34) := ⟨h3, hq⟩
              clear h3 hq
              go_wp2
              go_loop [11, 12] (fun c t => ∃ m : Nat, ∃ b : Bool, c = .bool b ∧ j0 < m ∧ m ≤ k ∧ t = .int .i64 m ∧ (b = true → ∀ q, j0 < q → q < m → pr (f q) = true)) (fun _ t => k - (intOf t).toNat)
              case atStart => exact ⟨j0 + 1, true, rfl, by omega, by omega, by go_num, fun _ q h1 h2 => by omega⟩
              case round =>
                obtain ⟨m, bb, rfl, hm1, hm2, rfl, hbb⟩ := hrel
                have HB : Hid (bb = true → ∀ q, j0 < q → q < m → pr (f q) = true) := hbb
                clear hbb
                by_cases hmk : m < k
                · have hcm := H2.out m (by omega)
                  have hmn : m < n := by omega
                  cases hp : pr (f m)
                  · go_wp2_with (go_at_call 16; refine (printable_any _ _).mono ?_; rintro e w' ⟨rfl, rfl⟩)
                    go_round
                    case rel => exact ⟨m + 1, false, rfl, by omega, by omega, by go_num, fun h => by cases h⟩
                    case measure => simp [intOf]; omega
                  · go_wp2_with (go_at_call 16; refine (printable_any _ _).mono ?_; rintro e w' ⟨rfl, rfl⟩)
                    go_round
                    case rel => exact ⟨m + 1, bb, rfl, by omega, by omega, by go_num, fun h q h1 h2 => by rcases Nat.lt_succ_iff_lt_or_eq.1 h2 with h3 | rfl; exact HB.out h q h1 h3; exact hp⟩
                    case measure => simp [intOf]; omega
                · obtain rfl : m = k := by omega
                  cases bb
                  · go_wp2
                    go_ret
                    exact ⟨rfl, hb2⟩
                  · exact absurd ⟨hk1, hkn, HQ.out.1, HQ.out.2, fun q h1 h2 => ⟨HA.out q h1 h2, HB.out rfl q h1 h2⟩⟩ (HJ.out m)
            · have hfk : (f k == 34) = false := by simpa using hq
              go_wp2
              go_round
              case rel => exact ⟨rfl, k + 1, by omega, by omega, by go_num, fun m h1 h2 => by rcases Nat.lt_succ_iff_lt_or_eq.1 h2 with h3 | rfl; exact HA.out m h1 h3; exact hq⟩
              case measure => simp [intOf]; omega
          · go_wp2
            go_ret
            exact ⟨rfl, hb2⟩
      · have h3b : (f j0 == 34) = false := by simp [h3]
        go_wp2
        go_ret
        exact ⟨rfl, hb2⟩
  · refine (zzscan_out _ _ _ _ _ (by omega)).mono ?_
    rintro e w' ⟨rfl, rfl⟩
    go_wp2
    go_ret
    exact ⟨rfl, hb2⟩


theorem str1_big (a : Option Addr) (n cap : Nat) (i : Int) (w : World) (h : 65536 < n) :
    Calls Try.prog 5 #[.slice a n cap, .int .i64 i] w fun e w' => e = .returned (.bool true) ∧ Below w.heap.size w w' := by
  by_cases h2 : n ≤ 1048576
  · have h3 : (65536 : Int) < (n : Int) := by omega
    go_enter Try.func5, Try.ntmps5
    go_wp2_with (go_at_call 14; refine (bytes14_yes _ _ _ _ _ h2).mono ?_; rintro e w' ⟨rfl, rfl⟩)
    go_ret
    exact ⟨rfl, Below.refl _ _⟩
  · have h3 : 1048576 < n := by omega
    go_enter Try.func5, Try.ntmps5
    go_wp2_with (go_at_call 14; refine (bytes14_no _ _ _ _ _ h3).mono ?_; rintro e w' ⟨rfl, rfl⟩)
    go_ret
    exact ⟨rfl, Below.refl _ _⟩

theorem str1_neg (a : Option Addr) (n cap : Nat) (i : Int) (w : World) (h : n ≤ 65536) (hi : i < 0) :
    Calls Try.prog 5 #[.slice a n cap, .int .i64 i] w fun e w' => e = .returned (.bool true) ∧ Below w.heap.size w w' := by
  go_enter Try.func5, Try.ntmps5
  go_wp2_with (go_at_call 14; refine (bytes14_yes _ _ _ _ _ (by omega)).mono ?_; rintro e w' ⟨rfl, rfl⟩)
  go_ret
  exact ⟨rfl, Below.refl _ _⟩

end Go.Proofs.Qxb6601145a
