/-
  FnScanIntegerReadsBackEveryInt64 (4): the walk.
-/
import Derived.Test.Qxb6601145aText
namespace Go.Proofs.Qxb6601145a
open Go.ChangeShapes Go.WideShapes Go.ChangeAt Go.RowKit
set_option linter.unusedVariables false
set_option linter.unusedSimpArgs false

theorem bytes12_yes (a0 a2 : Option Addr) (n0 c0 n2 c2 : Nat) (x : Int) (w : World) (h : n0 + n2 ≤ 1048576) :
    Calls Try.prog 12 #[.slice a0 n0 c0, .int .i64 x, .slice a2 n2 c2] w fun e w' => e = .returned (.bool true) ∧ w = w' := by
  go_enter Try.func12, Try.ntmps12
  go_wp2
  go_ret
  exact ⟨rfl, rfl⟩
theorem bytes12_no (a0 a2 : Option Addr) (n0 c0 n2 c2 : Nat) (x : Int) (w : World) (h : 1048576 < n0 + n2) :
    Calls Try.prog 12 #[.slice a0 n0 c0, .int .i64 x, .slice a2 n2 c2] w fun e w' => e = .returned (.bool false) ∧ w = w' := by
  by_cases h0 : 1048576 < n0
  · have h0' : (1048576 : Int) < (n0 : Int) := by omega
    go_enter Try.func12, Try.ntmps12
    go_wp2
    go_ret
    exact ⟨rfl, rfl⟩
  by_cases h1 : 1048576 < n2
  · have h0' : (1048576 : Int) < (n2 : Int) := by omega
    go_enter Try.func12, Try.ntmps12
    go_wp2
    go_ret
    exact ⟨rfl, rfl⟩
  · have h0' : (1048576 : Int) < (n0 : Int) + (n2 : Int) := by omega
    go_enter Try.func12, Try.ntmps12
    go_wp2
    go_ret
    exact ⟨rfl, rfl⟩

theorem int4_big (a0 a2 : Option Addr) (n0 c0 n2 c2 : Nat) (x : Int) (w : World) (h : 65536 < n0 ∨ 65536 < n2) :
    Calls Try.prog 4 #[.slice a0 n0 c0, .int .i64 x, .slice a2 n2 c2] w fun e w' => e = .returned (.bool true) ∧ Below w.heap.size w w' := by
  by_cases hs : n0 + n2 ≤ 1048576
  · by_cases h0 : 65536 < n0
    · have h0' : (65536 : Int) < (n0 : Int) := by omega
      go_enter Try.func4, Try.ntmps4
      go_wp2_with (go_at_call 12; refine (bytes12_yes _ _ _ _ _ _ _ _ hs).mono ?_; rintro e w' ⟨rfl, rfl⟩)
      go_ret
      exact ⟨rfl, Below.refl _ _⟩
    · have h0' : (65536 : Int) < (n2 : Int) := by omega
      go_enter Try.func4, Try.ntmps4
      go_wp2_with (go_at_call 12; refine (bytes12_yes _ _ _ _ _ _ _ _ hs).mono ?_; rintro e w' ⟨rfl, rfl⟩)
      go_ret
      exact ⟨rfl, Below.refl _ _⟩
  · clear h
    have hs' : 1048576 < n0 + n2 := by omega
    go_enter Try.func4, Try.ntmps4
    go_wp2_with (go_at_call 12; refine (bytes12_no _ _ _ _ _ _ _ _ hs').mono ?_; rintro e w' ⟨rfl, rfl⟩)
    go_ret
    exact ⟨rfl, Below.refl _ _⟩

/-- A digit follows: true at once. -/
theorem int4_digit (a0 : Option Addr) (b off n0 c0 n2 c2 : Nat) (x y : Int) (w : World) (h0 : n0 ≤ 65536) (h2 : n2 ≤ 65536) (hp : 0 < n2) (hc : w.cell? ⟨b, off, none⟩ = some (.int .u8 y)) (hd : dg y = true) :
    Calls Try.prog 4 #[.slice a0 n0 c0, .int .i64 x, .slice (some ⟨b, off, none⟩) n2 c2] w fun e w' => e = .returned (.bool true) ∧ Below w.heap.size w w' := by
  have hp' : (0 : Int) < (n2 : Int) := by omega
  go_enter Try.func4, Try.ntmps4
  go_wp2_with (first | (go_at_call 12; refine (bytes12_yes _ _ _ _ _ _ _ _ (by omega)).mono ?_; rintro e w' ⟨rfl, rfl⟩) | (go_at_call 10; refine (digit_any _ _).mono ?_; rintro e w' ⟨rfl, rfl⟩))
  go_ret
  exact ⟨rfl, Below.refl _ _⟩

/-- pre, the text, post. -/
def joined3 (n0 n1 : Nat) (f0 f1 f2 : Nat → Int) (k : Nat) : Int := if k < n0 then f0 k else if k < n0 + n1 then f1 (k - n0) else f2 (k - (n0 + n1))
theorem joined3_0 (n0 n1 : Nat) (f0 f1 f2 : Nat → Int) (k : Nat) (h : k < n0) : joined3 n0 n1 f0 f1 f2 k = f0 k := by simp [joined3, h]
theorem joined3_1 (n0 n1 : Nat) (f0 f1 f2 : Nat → Int) (k : Nat) (h : k < n1) : joined3 n0 n1 f0 f1 f2 (n0 + k) = f1 k := by
  rw [joined3, if_neg (by omega), if_pos (by omega)]; congr 1; omega
theorem joined3_2 (n0 n1 : Nat) (f0 f1 f2 : Nat → Int) (k : Nat) : joined3 n0 n1 f0 f1 f2 (n0 + n1 + k) = f2 k := by
  rw [joined3, if_neg (by omega), if_neg (by omega)]; congr 1; omega

theorem dig_congr {f g : Nat → Int} {s k : Nat} (e : ∀ q, q < k → f q = g q) (h : Dig f s k) : Dig g s k := by
  obtain ⟨h1, h2, h3⟩ := h
  exact ⟨h1, fun c => h2 (by rw [e s h1]; exact c), fun m hm1 hm2 => by rw [← e m hm2]; exact h3 m hm1 hm2⟩

theorem text_hit {n0 L n2 : Nat} {f0 T f2 : Nat → Int} (hL : 1 ≤ L) (hT : Dig T (st T 0) L) (hpost : 0 < n2 → dg (f2 0) = false) : IHit (joined3 n0 L f0 T f2) n0 (n0 + L + n2) (n0 + L) := by
  refine ⟨by omega, by omega, ?_, ?_⟩
  · rw [← st_shift]
    have e0 : st (fun q => joined3 n0 L f0 T f2 (n0 + q)) 0 = st T 0 := by
      unfold st
      show (if joined3 n0 L f0 T f2 (n0 + 0) = 45 then 0 + 1 else 0) = _
      rw [joined3_1 n0 L f0 T f2 0 (by omega)]
    rw [e0, ← dig_shift]
    exact dig_congr (fun q hq => (joined3_1 n0 L f0 T f2 q hq).symm) hT
  · by_cases h : n2 = 0
    · left; omega
    · right
      have := joined3_2 n0 L f0 T f2 0
      rw [Nat.add_zero] at this
      rw [this]
      exact hpost (by omega)

theorem ihit_unique {f : Nat → Int} {i n j j' : Nat} (h : IHit f i n j) (h' : IHit f i n j') : j = j' :=
  (ihit_same (Nat.le_of_lt h.2.2.1.1) h.2.1 h.2.2.1.2.2 h.2.2.2 h').symm

/-- From the owned text on: what the walk is told of it. -/
theorem own_view {w : World} {g L c : Nat} {T : Nat → Int} {base : Nat} (h : w.ownsRow base 5 1 (.slice (some ⟨g, 0, none⟩) L c) L (bs T L)) : View w (some ⟨g, 0, none⟩) L T := by
  intro q hq
  refine ⟨_, _, rfl, ?_⟩
  rw [Nat.zero_add, h.cellAt q (by omega)]
  exact bs_at T L q hq

set_option maxHeartbeats 2000000 in
theorem int4_some (a0 : Option Addr) (b off n0 c0 n2 c2 : Nat) (x : Int) (f0 f2 : Nat → Int) (w : World) (h0 : n0 ≤ 65536) (h2 : n2 ≤ 65536) (hp : 0 < n2) (hx : (Lit.int .i64 x).wf = true)
    (v0 : View w a0 n0 f0) (v2 : View w (some ⟨b, off, none⟩) n2 f2) (hd : dg (f2 0) = false) :
    Calls Try.prog 4 #[.slice a0 n0 c0, .int .i64 x, .slice (some ⟨b, off, none⟩) n2 c2] w fun e w' => e = .returned (.bool true) ∧ Below w.heap.size w w' := by
  obtain ⟨i0, hi0, hz0, hz1, hz2⟩ := info_parts Try.info5
  have hp' : (0 : Int) < (n2 : Int) := by omega
  have hpost : Hid (0 < n2 → dg (f2 0) = false) := fun _ => hd
  have hc : w.cell? ⟨b, off, none⟩ = some (.int .u8 (f2 0)) := by
    obtain ⟨b', off', he, hc⟩ := v2 0 hp
    obtain ⟨rfl, rfl⟩ : b = b' ∧ off = off' := by simpa using he
    exact hc
  go_enter Try.func4, Try.ntmps4
  go_wp2_with (first | (go_at_call 12; refine (bytes12_yes _ _ _ _ _ _ _ _ (by omega)).mono ?_; rintro e w' ⟨rfl, rfl⟩) | (go_at_call 10; refine (digit_any _ _).mono ?_; rintro e w' ⟨rfl, rfl⟩))
  clear hc hd
  refine (text_any x _ hx).mono ?_
  intro e w1 hp
  obtain ⟨T, L, hL1, hL2, hT, rfl, hownT, hbT⟩ := hp
  have hHit : Hid (IHit (joined3 n0 L f0 T f2) n0 (n0 + L + n2) (n0 + L)) := text_hit hL1 hT hpost.out
  have hF0 : Hid (∀ k, k < n0 → joined3 n0 L f0 T f2 k = f0 k) := joined3_0 n0 L f0 T f2
  have hF1 : Hid (∀ k, k < L → joined3 n0 L f0 T f2 (n0 + k) = T k) := joined3_1 n0 L f0 T f2
  have hF2 : Hid (∀ k, joined3 n0 L f0 T f2 (n0 + L + k) = f2 k) := joined3_2 n0 L f0 T f2
  generalize joined3 n0 L f0 T f2 = F at hHit hF0 hF1 hF2
  have u0 := v0.below hbT
  have u1 := own_view hownT
  have u2 := v2.below hbT
  clear hT hownT v0 v2
  go_wp2_with (at_make; refine wpList_make_own _ rfl _ _ 22 rfl w1.heap.size 5 i0 (.int .u8 0) 1 Try.underlying22 hi0 hz0 hz1 _ _ _ (n0 + L + n2) rfl rfl (by omega) ?b2 ?b3 (Nat.le_refl _) ?_)
  case b2 => first | omega | (rw [hz2]; omega)
  case b3 => unfold maxLen; omega
  intro w3 hown3 hgrow3
  have hm0 : Made w1 (n0 + L + n2) F 0 w3 := ⟨hown3, (Below.refl _ _).grown hgrow3 (Nat.le_refl _) (fun k h => by cases h)⟩
  clear hown3 hgrow3
  go_wp2_with fail
  go_loopw [8, 9] (fun d t wr => ∃ m : Nat, m ≤ n0 ∧ t = .int .i64 m ∧ d = .slice (some ⟨w1.heap.size, 0, none⟩) m (n0 + L + n2) ∧ Made w1 (n0 + L + n2) F m wr) (fun _ t _ => n0 - (intOf t).toNat)
  case atStart => exact ⟨0, Nat.zero_le _, rfl, rfl, hm0⟩
  clear hm0
  case round =>
    obtain ⟨m, hm, rfl, rfl, hmade⟩ := hrel
    by_cases hlt : m < n0
    · obtain ⟨b0, off0, rfl, hck⟩ := (u0.below hmade.2) m hlt
      go_wp2_with (at_builtin; refine wpList_append_fits _ rfl _ _ 22 rfl w1.heap.size 5 i0 1 Try.underlying22 hi0 hz1 w1.heap.size (m) (n0 + L + n2) _ rfl (hmade.1.alloc _) ⟨wr.heap.size, 0, none⟩ 1 1 [.int .u8 (f0 m)] rfl rfl (cell_one_new _ _ _) (by intro u hu; simp at hu; subst hu; rfl) (by omega) ?_)
      intro w2 hown2 hgrow2
      have hmade' := hmade.step (hF0.out m hlt) hown2 hgrow2
      clear hown2 hgrow2
      go_wp2
      go_roundw
      case rel => exact ⟨m + 1, by omega, by go_num, rfl, hmade'⟩
      case measure => simp [intOf]; omega
    · obtain rfl : n0 = m := by omega
      go_wp2_with fail
      go_loopw [8, 10] (fun d t wr => ∃ m : Nat, m ≤ L ∧ t = .int .i64 m ∧ d = .slice (some ⟨w1.heap.size, 0, none⟩) (n0 + m) (n0 + L + n2) ∧ Made w1 (n0 + L + n2) F (n0 + m) wr) (fun _ t _ => L - (intOf t).toNat)
      case atStart => exact ⟨0, Nat.zero_le _, rfl, rfl, hmade⟩
      clear hmade
      case round =>
        obtain ⟨m, hm, rfl, rfl, hmade⟩ := hrel
        by_cases hlt : m < L
        · obtain ⟨b1, off1, he1, hck⟩ := (u1.below hmade.2) m hlt
          obtain ⟨rfl, rfl⟩ : w.heap.size = b1 ∧ 0 = off1 := by simpa using he1
          rw [Nat.zero_add] at hck
          clear he1
          go_wp2_with (at_builtin; refine wpList_append_fits _ rfl _ _ 22 rfl w1.heap.size 5 i0 1 Try.underlying22 hi0 hz1 w1.heap.size (n0 + m) (n0 + L + n2) _ rfl (hmade.1.alloc _) ⟨wr.heap.size, 0, none⟩ 1 1 [.int .u8 (T m)] rfl rfl (cell_one_new _ _ _) (by intro u hu; simp at hu; subst hu; rfl) (by omega) ?_)
          intro w2 hown2 hgrow2
          have hmade' := hmade.step (hF1.out m hlt) hown2 hgrow2
          clear hown2 hgrow2
          go_wp2
          go_roundw
          case rel => exact ⟨m + 1, by omega, by go_num, rfl, hmade'⟩
          case measure => simp [intOf]; omega
        · obtain rfl : L = m := by omega
          go_wp2_with fail
          go_loopw [8, 11] (fun d t wr => ∃ m : Nat, m ≤ n2 ∧ t = .int .i64 m ∧ d = .slice (some ⟨w1.heap.size, 0, none⟩) (n0 + L + m) (n0 + L + n2) ∧ Made w1 (n0 + L + n2) F (n0 + L + m) wr) (fun _ t _ => n2 - (intOf t).toNat)
          case atStart => exact ⟨0, Nat.zero_le _, rfl, rfl, hmade⟩
          clear hmade
          case round =>
            obtain ⟨m, hm, rfl, rfl, hmade⟩ := hrel
            by_cases hlt : m < n2
            · obtain ⟨b2, off2, he2, hck⟩ := (u2.below hmade.2) m hlt
              obtain ⟨rfl, rfl⟩ : b = b2 ∧ off = off2 := by simpa using he2
              clear he2
              go_wp2_with (at_builtin; refine wpList_append_fits _ rfl _ _ 22 rfl w1.heap.size 5 i0 1 Try.underlying22 hi0 hz1 w1.heap.size (n0 + L + m) (n0 + L + n2) _ rfl (hmade.1.alloc _) ⟨wr.heap.size, 0, none⟩ 1 1 [.int .u8 (f2 m)] rfl rfl (cell_one_new _ _ _) (by intro u hu; simp at hu; subst hu; rfl) (by omega) ?_)
              intro w2 hown2 hgrow2
              have hmade' := hmade.step (hF2.out m) hown2 hgrow2
              clear hown2 hgrow2
              go_wp2
              go_roundw
              case rel => exact ⟨m + 1, by omega, by go_num, rfl, hmade'⟩
              case measure => simp [intOf]; omega
            · obtain rfl : n2 = m := by omega
              go_wp2_with fail
              refine (zzint_in w1.heap.size 0 (n0 + L + n2) (n0 + L + n2) n0 F _ (by omega) (Nat.le_refl _) (by omega) (by omega) (fun q hq => by rw [Nat.zero_add, hmade.1.cellAt q (by omega)]; exact bs_at F _ q hq)).mono ?_
              rintro e w' ⟨rfl, hit⟩
              rcases hit with ⟨j, hj, rfl⟩ | ⟨hj, rfl⟩
              · obtain rfl := ihit_unique hHit.out hj
                clear hj hHit
                have hv1 : View wr (some ⟨w1.heap.size, n0, none⟩) L T := (hmade.view n0 L (by omega)).congr hF1.out
                have hv2 := u1.below hmade.2
                have hbw : Below w.heap.size w wr := hbT.trans (hmade.2.mono hbT.size)
                have e1 : n0 + L - n0 = L := by omega
                go_wp2_with (go_at_call 11; refine (same_view _ _ _ _ L T _ (by omega) hv1 hv2).mono ?_; rintro e w' ⟨rfl, nn, rfl⟩)
                go_ret
                exact ⟨rfl, below_drewN hbw nn⟩
              · exact absurd hHit.out (hj _)

set_option maxHeartbeats 2000000 in
theorem int4_none (a0 a2 : Option Addr) (n0 c0 n2 c2 : Nat) (x : Int) (f0 : Nat → Int) (w : World) (h0 : n0 ≤ 65536) (hx : (Lit.int .i64 x).wf = true) (hn2 : n2 ≤ 0)
    (v0 : View w a0 n0 f0) :
    Calls Try.prog 4 #[.slice a0 n0 c0, .int .i64 x, .slice a2 n2 c2] w fun e w' => e = .returned (.bool true) ∧ Below w.heap.size w w' := by
  obtain ⟨i0, hi0, hz0, hz1, hz2⟩ := info_parts Try.info5
  obtain ⟨f2, v2⟩ : ∃ f2, View w a2 n2 f2 := ⟨fun _ => 0, fun k hk => by omega⟩
  have hpost : Hid (0 < n2 → dg (f2 0) = false) := fun h => by omega
  go_enter Try.func4, Try.ntmps4
  go_wp2_with (first | (go_at_call 12; refine (bytes12_yes _ _ _ _ _ _ _ _ (by omega)).mono ?_; rintro e w' ⟨rfl, rfl⟩))
  refine (text_any x _ hx).mono ?_
  intro e w1 hp
  obtain ⟨T, L, hL1, hL2, hT, rfl, hownT, hbT⟩ := hp
  have hHit : Hid (IHit (joined3 n0 L f0 T f2) n0 (n0 + L + n2) (n0 + L)) := text_hit hL1 hT hpost.out
  have hF0 : Hid (∀ k, k < n0 → joined3 n0 L f0 T f2 k = f0 k) := joined3_0 n0 L f0 T f2
  have hF1 : Hid (∀ k, k < L → joined3 n0 L f0 T f2 (n0 + k) = T k) := joined3_1 n0 L f0 T f2
  have hF2 : Hid (∀ k, joined3 n0 L f0 T f2 (n0 + L + k) = f2 k) := joined3_2 n0 L f0 T f2
  generalize joined3 n0 L f0 T f2 = F at hHit hF0 hF1 hF2
  have u0 := v0.below hbT
  have u1 := own_view hownT
  have u2 := v2.below hbT
  clear hT hownT v0 v2
  go_wp2_with (at_make; refine wpList_make_own _ rfl _ _ 22 rfl w1.heap.size 5 i0 (.int .u8 0) 1 Try.underlying22 hi0 hz0 hz1 _ _ _ (n0 + L + n2) rfl rfl (by omega) ?b2 ?b3 (Nat.le_refl _) ?_)
  case b2 => first | omega | (rw [hz2]; omega)
  case b3 => unfold maxLen; omega
  intro w3 hown3 hgrow3
  have hm0 : Made w1 (n0 + L + n2) F 0 w3 := ⟨hown3, (Below.refl _ _).grown hgrow3 (Nat.le_refl _) (fun k h => by cases h)⟩
  clear hown3 hgrow3
  go_wp2_with fail
  go_loopw [8, 9] (fun d t wr => ∃ m : Nat, m ≤ n0 ∧ t = .int .i64 m ∧ d = .slice (some ⟨w1.heap.size, 0, none⟩) m (n0 + L + n2) ∧ Made w1 (n0 + L + n2) F m wr) (fun _ t _ => n0 - (intOf t).toNat)
  case atStart => exact ⟨0, Nat.zero_le _, rfl, rfl, hm0⟩
  clear hm0
  case round =>
    obtain ⟨m, hm, rfl, rfl, hmade⟩ := hrel
    by_cases hlt : m < n0
    · obtain ⟨b0, off0, rfl, hck⟩ := (u0.below hmade.2) m hlt
      go_wp2_with (at_builtin; refine wpList_append_fits _ rfl _ _ 22 rfl w1.heap.size 5 i0 1 Try.underlying22 hi0 hz1 w1.heap.size (m) (n0 + L + n2) _ rfl (hmade.1.alloc _) ⟨wr.heap.size, 0, none⟩ 1 1 [.int .u8 (f0 m)] rfl rfl (cell_one_new _ _ _) (by intro u hu; simp at hu; subst hu; rfl) (by omega) ?_)
      intro w2 hown2 hgrow2
      have hmade' := hmade.step (hF0.out m hlt) hown2 hgrow2
      clear hown2 hgrow2
      go_wp2
      go_roundw
      case rel => exact ⟨m + 1, by omega, by go_num, rfl, hmade'⟩
      case measure => simp [intOf]; omega
    · obtain rfl : n0 = m := by omega
      go_wp2_with fail
      go_loopw [8, 10] (fun d t wr => ∃ m : Nat, m ≤ L ∧ t = .int .i64 m ∧ d = .slice (some ⟨w1.heap.size, 0, none⟩) (n0 + m) (n0 + L + n2) ∧ Made w1 (n0 + L + n2) F (n0 + m) wr) (fun _ t _ => L - (intOf t).toNat)
      case atStart => exact ⟨0, Nat.zero_le _, rfl, rfl, hmade⟩
      clear hmade
      case round =>
        obtain ⟨m, hm, rfl, rfl, hmade⟩ := hrel
        by_cases hlt : m < L
        · obtain ⟨b1, off1, he1, hck⟩ := (u1.below hmade.2) m hlt
          obtain ⟨rfl, rfl⟩ : w.heap.size = b1 ∧ 0 = off1 := by simpa using he1
          rw [Nat.zero_add] at hck
          clear he1
          go_wp2_with (at_builtin; refine wpList_append_fits _ rfl _ _ 22 rfl w1.heap.size 5 i0 1 Try.underlying22 hi0 hz1 w1.heap.size (n0 + m) (n0 + L + n2) _ rfl (hmade.1.alloc _) ⟨wr.heap.size, 0, none⟩ 1 1 [.int .u8 (T m)] rfl rfl (cell_one_new _ _ _) (by intro u hu; simp at hu; subst hu; rfl) (by omega) ?_)
          intro w2 hown2 hgrow2
          have hmade' := hmade.step (hF1.out m hlt) hown2 hgrow2
          clear hown2 hgrow2
          go_wp2
          go_roundw
          case rel => exact ⟨m + 1, by omega, by go_num, rfl, hmade'⟩
          case measure => simp [intOf]; omega
        · obtain rfl : L = m := by omega
          go_wp2_with fail
          go_loopw [8, 11] (fun d t wr => ∃ m : Nat, m ≤ n2 ∧ t = .int .i64 m ∧ d = .slice (some ⟨w1.heap.size, 0, none⟩) (n0 + L + m) (n0 + L + n2) ∧ Made w1 (n0 + L + n2) F (n0 + L + m) wr) (fun _ t _ => n2 - (intOf t).toNat)
          case atStart => exact ⟨0, Nat.zero_le _, rfl, rfl, hmade⟩
          clear hmade
          case round =>
            obtain ⟨m, hm, rfl, rfl, hmade⟩ := hrel
            by_cases hlt : m < n2
            · exfalso; omega
            · obtain rfl : n2 = m := by omega
              go_wp2_with fail
              refine (zzint_in w1.heap.size 0 (n0 + L + n2) (n0 + L + n2) n0 F _ (by omega) (Nat.le_refl _) (by omega) (by omega) (fun q hq => by rw [Nat.zero_add, hmade.1.cellAt q (by omega)]; exact bs_at F _ q hq)).mono ?_
              rintro e w' ⟨rfl, hit⟩
              rcases hit with ⟨j, hj, rfl⟩ | ⟨hj, rfl⟩
              · obtain rfl := ihit_unique hHit.out hj
                clear hj hHit
                have hv1 : View wr (some ⟨w1.heap.size, n0, none⟩) L T := (hmade.view n0 L (by omega)).congr hF1.out
                have hv2 := u1.below hmade.2
                have hbw : Below w.heap.size w wr := hbT.trans (hmade.2.mono hbT.size)
                have e1 : n0 + L - n0 = L := by omega
                go_wp2_with (go_at_call 11; refine (same_view _ _ _ _ L T _ (by omega) hv1 hv2).mono ?_; rintro e w' ⟨rfl, nn, rfl⟩)
                go_ret
                exact ⟨rfl, below_drewN hbw nn⟩
              · exact absurd hHit.out (hj _)

end Go.Proofs.Qxb6601145a
