/-
  FnScanStringReadsBackPlainText (6): the walk, its main way.
-/
import Derived.Test.Qxb6601145aStr2
namespace Go.Proofs.Qxb6601145a
open Go.ChangeShapes Go.WideShapes Go.ChangeAt Go.RowKit
set_option linter.unusedVariables false
set_option linter.unusedSimpArgs false

theorem bs_succ (F : Nat → Int) (k : Nat) : bs F (k + 1) = bs F k ++ [.int .u8 (F k)] := by simp [bs, List.range_succ]

/-- What the call has made so far: its own row, k bytes F of N. -/
def Made (w : World) (N : Nat) (F : Nat → Int) (k : Nat) (wr : World) : Prop :=
  wr.ownsRow w.heap.size 5 1 (.slice (some ⟨w.heap.size, 0, none⟩) k N) k (bs F k) ∧ Below w.heap.size w wr

theorem View.congr {w : World} {a : Option Addr} {n : Nat} {f g : Nat → Int} (h : View w a n f) (e : ∀ k, k < n → f k = g k) : View w a n g := by
  intro k hk
  obtain ⟨b, off, ea, hc⟩ := h k hk
  exact ⟨b, off, ea, by rw [hc, e k hk]⟩

theorem Made.step {w wr w1 : World} {N k : Nat} {F : Nat → Int} {o : Obj} {x : Int} (h : Made w N F k wr) (hx : F k = x)
    (hown : w1.ownsRow w.heap.size 5 1 (.slice (some ⟨w.heap.size, 0, none⟩) (k + 1) N) (k + 1) (bs F k ++ [.int .u8 x])) (hg : (wr.alloc o).grownBy w1 (some w.heap.size)) : Made w N F (k + 1) w1 := by
  refine ⟨?_, (h.2.alloc h.2.size o).grown hg (by have := h.2.size; simp; omega) (fun j hj => by cases hj; exact Nat.le_refl _)⟩
  rw [bs_succ, hx]; exact hown

theorem Made.view {w wr : World} {N k : Nat} {F : Nat → Int} (h : Made w N F k wr) (m n : Nat) (hmn : m + n ≤ k) : View wr (some ⟨w.heap.size, m, none⟩) n (fun q => F (m + q)) := by
  intro q hq
  refine ⟨_, _, rfl, ?_⟩
  rw [h.1.cellAt (m + q) (by omega)]
  exact bs_at F k (m + q) (by omega)

set_option maxHeartbeats 1000000 in
theorem str2_main (a0 a1 a2 : Option Addr) (n0 c0 n1 c1 n2 c2 : Nat) (f0 f1 f2 F : Nat → Int) (w : World) (h0 : n0 ≤ 65536) (h1 : n1 ≤ 65536) (h2 : n2 ≤ 65536)
    (v0 : View w a0 n0 f0) (v1 : View w a1 n1 f1) (v2 : View w a2 n2 f2)
    (F0 : Hid (∀ k, k < n0 → F k = f0 k)) (Fq : Hid (F n0 = 34)) (F1 : Hid (∀ k, k < n1 → F (n0 + 1 + k) = f1 k)) (Fr : Hid (F (n0 + 1 + n1) = 34)) (F2 : Hid (∀ k, k < n2 → F (n0 + 1 + n1 + 1 + k) = f2 k)) :
    Calls Try.prog 6 #[.slice a0 n0 c0, .slice a1 n1 c1, .slice a2 n2 c2] w fun e w' => e = .returned (.bool true) ∧ Below w.heap.size w w' := by
  obtain ⟨i0, hi0, hz0, hz1, hz2⟩ := info_parts Try.info5
  go_enter Try.func6, Try.ntmps6
  go_wp2_with (go_at_call 17; refine (bytes17_yes _ _ _ _ _ _ _ _ _ _ (by omega)).mono ?_; rintro e w' ⟨rfl, rfl⟩)
  go_loop [7] (fun t => ∃ k : Nat, k ≤ n1 ∧ t = .int .i64 k ∧ ∀ m, m < k → f1 m ≠ 34 ∧ pr (f1 m) = true) (fun t => n1 - (intOf t).toNat)
  case atStart => exact ⟨0, Nat.zero_le _, rfl, fun m hm => by omega⟩
  case round =>
    obtain ⟨k, hk, rfl, hall⟩ := hrel
    have HA : Hid (∀ m, m < k → f1 m ≠ 34 ∧ pr (f1 m) = true) := hall
    clear hall
    by_cases hlt : k < n1
    · obtain ⟨b, off, rfl, hck⟩ := v1 k hlt
      cases hp : pr (f1 k)
      · go_wp2_with (go_at_call 16; refine (printable_any _ _).mono ?_; rintro e w' ⟨rfl, rfl⟩)
        go_ret
        exact ⟨rfl, Below.refl _ _⟩
      · by_cases hq : f1 k = 34
        · have hqb : (f1 k == 34) = true := by simpa using hq
          go_wp2_with (go_at_call 16; refine (printable_any _ _).mono ?_; rintro e w' ⟨rfl, rfl⟩)
          go_ret
          exact ⟨rfl, Below.refl _ _⟩
        · have hqb : (f1 k == 34) = false := by simpa using hq
          go_wp2_with (go_at_call 16; refine (printable_any _ _).mono ?_; rintro e w' ⟨rfl, rfl⟩)
          go_round
          case rel => exact ⟨k + 1, by omega, by go_num, fun m h2 => by rcases Nat.lt_succ_iff_lt_or_eq.1 h2 with h3 | rfl; exact HA.out m h3; exact ⟨hq, hp⟩⟩
          case measure => simp [intOf]; omega
    · obtain rfl : n1 = k := by omega
      have hN : Hid (Hit F n0 (n0 + n1 + n2 + 2) (n0 + 1 + n1)) := by
        refine ⟨by omega, by omega, Fq.out, Fr.out, fun m hm1 hm2 => ?_⟩
        obtain ⟨q, rfl⟩ : ∃ q, m = n0 + 1 + q := ⟨m - (n0 + 1), by omega⟩
        rw [F1.out q (by omega)]
        exact HA.out q (by omega)
      clear HA
      go_wp2_with (at_make; refine wpList_make_own _ rfl _ _ 22 rfl w.heap.size 5 i0 (.int .u8 0) 1 Try.underlying22 hi0 hz0 hz1 _ _ _ (n0 + n1 + n2 + 2) rfl rfl (by omega) ?b2 ?b3 (Nat.le_refl _) ?_)
      case b2 => first | omega | (rw [hz2]; omega)
      case b3 => unfold maxLen; omega
      intro w1 hown1 hgrow1
      have hm0 : Made w (n0 + n1 + n2 + 2) F 0 w1 := ⟨hown1, (Below.refl _ _).grown hgrow1 (Nat.le_refl _) (fun k h => by cases h)⟩
      clear hown1 hgrow1
      go_wp2_with fail
      go_loopw [8, 9] (fun d t wr => ∃ m : Nat, m ≤ n0 ∧ t = .int .i64 m ∧ d = .slice (some ⟨w.heap.size, 0, none⟩) m (n0 + n1 + n2 + 2) ∧ Made w (n0 + n1 + n2 + 2) F m wr) (fun _ t _ => n0 - (intOf t).toNat)
      case atStart => exact ⟨0, Nat.zero_le _, rfl, rfl, hm0⟩
      clear hm0
      case round =>
        obtain ⟨m, hm, rfl, rfl, hmade⟩ := hrel
        by_cases hlt : m < n0
        · obtain ⟨b, off, rfl, hck⟩ := (v0.below hmade.2) m hlt
          go_wp2_with (at_builtin; refine wpList_append_fits _ rfl _ _ 22 rfl w.heap.size 5 i0 1 Try.underlying22 hi0 hz1 w.heap.size m (n0 + n1 + n2 + 2) _ rfl (hmade.1.alloc _) ⟨wr.heap.size, 0, none⟩ 1 1 [.int .u8 (f0 m)] rfl rfl (cell_one_new _ _ _) (by intro u hu; simp at hu; subst hu; rfl) (by omega) ?_)
          intro w2 hown2 hgrow2
          have hmade' := hmade.step (F0.out m hlt) hown2 hgrow2
          clear hown2 hgrow2
          go_wp2
          go_roundw
          case rel => exact ⟨m + 1, by omega, by go_num, rfl, hmade'⟩
          case measure => simp [intOf]; omega
        · obtain rfl : n0 = m := by omega
          go_wp2_with (at_builtin; refine wpList_append_fits _ rfl _ _ 22 rfl w.heap.size 5 i0 1 Try.underlying22 hi0 hz1 w.heap.size n0 (n0 + n1 + n2 + 2) _ rfl (hmade.1.alloc _) ⟨wr.heap.size, 0, none⟩ 1 1 [.int .u8 34] rfl rfl (cell_one_new _ _ _) (by intro u hu; simp at hu; subst hu; rfl) (by omega) ?_)
          intro w2 hown2 hgrow2
          have hmade2 := hmade.step Fq.out hown2 hgrow2
          clear hown2 hgrow2 hmade
          go_wp2_with fail
          go_loopw [8, 10] (fun d t wr => ∃ m : Nat, m ≤ n1 ∧ t = .int .i64 m ∧ d = .slice (some ⟨w.heap.size, 0, none⟩) (n0 + 1 + m) (n0 + n1 + n2 + 2) ∧ Made w (n0 + n1 + n2 + 2) F (n0 + 1 + m) wr) (fun _ t _ => n1 - (intOf t).toNat)
          case atStart => exact ⟨0, Nat.zero_le _, rfl, rfl, hmade2⟩
          clear hmade2
          case round =>
            obtain ⟨m, hm, rfl, rfl, hmade⟩ := hrel
            by_cases hlt : m < n1
            · obtain ⟨b, off, rfl, hck⟩ := (v1.below hmade.2) m hlt
              go_wp2_with (at_builtin; refine wpList_append_fits _ rfl _ _ 22 rfl w.heap.size 5 i0 1 Try.underlying22 hi0 hz1 w.heap.size (n0 + 1 + m) (n0 + n1 + n2 + 2) _ rfl (hmade.1.alloc _) ⟨wr.heap.size, 0, none⟩ 1 1 [.int .u8 (f1 m)] rfl rfl (cell_one_new _ _ _) (by intro u hu; simp at hu; subst hu; rfl) (by omega) ?_)
              intro w2 hown2 hgrow2
              have hmade' := hmade.step (F1.out m hlt) hown2 hgrow2
              clear hown2 hgrow2
              go_wp2
              go_roundw
              case rel => exact ⟨m + 1, by omega, by go_num, rfl, hmade'⟩
              case measure => simp [intOf]; omega
            · obtain rfl : n1 = m := by omega
              go_wp2_with (at_builtin; refine wpList_append_fits _ rfl _ _ 22 rfl w.heap.size 5 i0 1 Try.underlying22 hi0 hz1 w.heap.size (n0 + 1 + n1) (n0 + n1 + n2 + 2) _ rfl (hmade.1.alloc _) ⟨wr.heap.size, 0, none⟩ 1 1 [.int .u8 34] rfl rfl (cell_one_new _ _ _) (by intro u hu; simp at hu; subst hu; rfl) (by omega) ?_)
              intro w2 hown2 hgrow2
              have hmade2 := hmade.step Fr.out hown2 hgrow2
              clear hown2 hgrow2 hmade
              go_wp2_with fail
              go_loopw [8, 11] (fun d t wr => ∃ m : Nat, m ≤ n2 ∧ t = .int .i64 m ∧ d = .slice (some ⟨w.heap.size, 0, none⟩) (n0 + 1 + n1 + 1 + m) (n0 + n1 + n2 + 2) ∧ Made w (n0 + n1 + n2 + 2) F (n0 + 1 + n1 + 1 + m) wr) (fun _ t _ => n2 - (intOf t).toNat)
              case atStart => exact ⟨0, Nat.zero_le _, rfl, rfl, hmade2⟩
              clear hmade2
              case round =>
                obtain ⟨m, hm, rfl, rfl, hmade⟩ := hrel
                by_cases hlt : m < n2
                · obtain ⟨b, off, rfl, hck⟩ := (v2.below hmade.2) m hlt
                  go_wp2_with (at_builtin; refine wpList_append_fits _ rfl _ _ 22 rfl w.heap.size 5 i0 1 Try.underlying22 hi0 hz1 w.heap.size (n0 + 1 + n1 + 1 + m) (n0 + n1 + n2 + 2) _ rfl (hmade.1.alloc _) ⟨wr.heap.size, 0, none⟩ 1 1 [.int .u8 (f2 m)] rfl rfl (cell_one_new _ _ _) (by intro u hu; simp at hu; subst hu; rfl) (by omega) ?_)
                  intro w2 hown2 hgrow2
                  have hmade' := hmade.step (F2.out m hlt) hown2 hgrow2
                  clear hown2 hgrow2
                  go_wp2
                  go_roundw
                  case rel => exact ⟨m + 1, by omega, by go_num, rfl, hmade'⟩
                  case measure => simp [intOf]; omega
                · obtain rfl : n2 = m := by omega
                  have eN : n0 + 1 + n1 + 1 + n2 = n0 + n1 + n2 + 2 := by omega
                  rw [eN] at hmade
                  go_wp2_with fail
                  refine (zzscan_in w.heap.size 0 (n0 + n1 + n2 + 2) (n0 + n1 + n2 + 2) n0 F _ (by omega) (Nat.le_refl _) (by omega) (by omega) (fun q hq => by rw [Nat.zero_add, hmade.1.cellAt q (by omega)]; exact bs_at F _ q hq)).mono ?_
                  rintro e w' ⟨rfl, hit⟩
                  rcases hit with ⟨j, hj, rfl⟩ | ⟨hj, rfl⟩
                  · obtain rfl := hit_unique hN.out hj
                    clear hj hN
                    have hv1 : View wr (some ⟨w.heap.size, n0 + 1, none⟩) n1 f1 := (hmade.view (n0 + 1) n1 (by omega)).congr F1.out
                    have hv2 := v1.below hmade.2
                    have hbw := hmade.2
                    have e1 : n0 + 1 + n1 - (n0 + 1) = n1 := by omega
                    clear eN
                    go_wp2_with (go_at_call 11; refine (same_view _ _ _ _ n1 f1 _ (by omega) hv1 hv2).mono ?_; rintro e w' ⟨rfl, nn, rfl⟩)
                    go_ret
                    exact ⟨rfl, below_drewN hbw nn⟩
                  · exact absurd hN.out (hj _)

/-- The text that is laid: pre, a quote, s, a quote, post. -/
def joined (n0 n1 : Nat) (f0 f1 f2 : Nat → Int) (k : Nat) : Int :=
  if k < n0 then f0 k else if k = n0 then 34 else if k < n0 + 1 + n1 then f1 (k - (n0 + 1)) else if k = n0 + 1 + n1 then 34 else f2 (k - (n0 + 1 + n1 + 1))

theorem str2_any (a0 a1 a2 : Option Addr) (n0 c0 n1 c1 n2 c2 : Nat) (f0 f1 f2 : Nat → Int) (w : World) (v0 : View w a0 n0 f0) (v1 : View w a1 n1 f1) (v2 : View w a2 n2 f2) :
    Calls Try.prog 6 #[.slice a0 n0 c0, .slice a1 n1 c1, .slice a2 n2 c2] w fun e w' => e = .returned (.bool true) ∧ Below w.heap.size w w' := by
  by_cases h : 65536 < n0 ∨ 65536 < n1 ∨ 65536 < n2
  · exact str2_big _ _ _ _ _ _ _ _ _ _ h
  · refine str2_main a0 a1 a2 n0 c0 n1 c1 n2 c2 f0 f1 f2 (joined n0 n1 f0 f1 f2) w (by omega) (by omega) (by omega) v0 v1 v2 ?_ ?_ ?_ ?_ ?_
    · exact fun k hk => by simp [joined, hk]
    · show joined _ _ _ _ _ _ = _
      simp [joined]
    · exact fun k hk => by rw [joined, if_neg (by omega), if_neg (by omega), if_pos (by omega)]; congr 1; omega
    · show joined _ _ _ _ _ _ = _
      rw [joined, if_neg (by omega), if_neg (by omega), if_neg (by omega), if_pos rfl]
    · exact fun k hk => by rw [joined, if_neg (by omega), if_neg (by omega), if_neg (by omega), if_neg (by omega)]; congr 1; omega

end Go.Proofs.Qxb6601145a
