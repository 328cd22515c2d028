/-
  values (19).
-/
import Derived.Test.Qxb6601157aVal3
namespace Go.Proofs.Qxb6601157a
open Go.ChangeShapes Go.WideShapes Go.ChangeAt Go.RowKit
set_option linter.unusedVariables false
set_option linter.unusedSimpArgs false

/-- What holds at the head of each round of the counting loop: the quorum's box, the four counts. -/
structure VInv (w : World) (q : Int) (a b d : Nat) (wr : World) : Prop where
  quo : wr.cell? ⟨w.heap.size, 0, none⟩ = some (.int .i64 q)
  c0 : wr.cell? ⟨w.heap.size + 1, 0, none⟩ = some (.int .i64 0)
  c1 : wr.cell? ⟨w.heap.size + 1, 1, none⟩ = some (.int .i64 (a : Int))
  c2 : wr.cell? ⟨w.heap.size + 1, 2, none⟩ = some (.int .i64 (b : Int))
  c3 : wr.cell? ⟨w.heap.size + 1, 3, none⟩ = some (.int .i64 (d : Int))
  f1 : wr.frozen? ⟨w.heap.size + 1, 1, none⟩ = false
  f2 : wr.frozen? ⟨w.heap.size + 1, 2, none⟩ = false
  f3 : wr.frozen? ⟨w.heap.size + 1, 3, none⟩ = false
  bel : Below w.heap.size w wr
  size : w.heap.size + 2 ≤ wr.heap.size

theorem vinv_start (w : World) (q : Int) : VInv w q 0 0 0 ((w.alloc (.cells #[.int .i64 q] 3)).alloc (.cells #[.int .i64 0, .int .i64 0, .int .i64 0, .int .i64 0] 62)) := by
  refine ⟨?_, ?_, ?_, ?_, ?_, ?_, ?_, ?_, ((Below.refl _ _).alloc (Nat.le_refl _) _).alloc (by simp) _, by simp⟩ <;> simp

theorem ne_off {g i j : Nat} (h : i ≠ j) : (⟨g, i, none⟩ : Addr) ≠ ⟨g, j, none⟩ := fun c => h (congrArg Addr.off c)
theorem ne_block {g g' i j : Nat} (h : g ≠ g') : (⟨g, i, none⟩ : Addr) ≠ ⟨g', j, none⟩ := fun c => h (congrArg Addr.block c)

theorem VInv.step1 {w : World} {q : Int} {a b d : Nat} {wr : World} (h : VInv w q a b d wr) : VInv w q (a + 1) b d (wr.setCell ⟨w.heap.size + 1, 1, none⟩ (.int .i64 ((a : Int) + 1))) := by
  have hne : w.heap.size + 1 ≠ w.heap.size := by omega
  refine ⟨(World.cell?_setCell_other _ _ _ _ (ne_block hne)).trans h.quo, (World.cell?_setCell_other _ _ _ _ (ne_off (by omega))).trans h.c0, World.cell?_setCell_same _ _ _ h.c1, (World.cell?_setCell_other _ _ _ _ (ne_off (by omega))).trans h.c2,
    (World.cell?_setCell_other _ _ _ _ (ne_off (by omega))).trans h.c3, ?_, ?_, ?_, h.bel.setCell (by show w.heap.size ≤ w.heap.size + 1; omega) _, by simpa using h.size⟩
  · rw [World.frozen?_setCell]; exact h.f1
  · rw [World.frozen?_setCell]; exact h.f2
  · rw [World.frozen?_setCell]; exact h.f3
theorem VInv.step2 {w : World} {q : Int} {a b d : Nat} {wr : World} (h : VInv w q a b d wr) : VInv w q a (b + 1) d (wr.setCell ⟨w.heap.size + 1, 2, none⟩ (.int .i64 ((b : Int) + 1))) := by
  have hne : w.heap.size + 1 ≠ w.heap.size := by omega
  refine ⟨(World.cell?_setCell_other _ _ _ _ (ne_block hne)).trans h.quo, (World.cell?_setCell_other _ _ _ _ (ne_off (by omega))).trans h.c0, (World.cell?_setCell_other _ _ _ _ (ne_off (by omega))).trans h.c1, World.cell?_setCell_same _ _ _ h.c2,
    (World.cell?_setCell_other _ _ _ _ (ne_off (by omega))).trans h.c3, ?_, ?_, ?_, h.bel.setCell (by show w.heap.size ≤ w.heap.size + 1; omega) _, by simpa using h.size⟩
  · rw [World.frozen?_setCell]; exact h.f1
  · rw [World.frozen?_setCell]; exact h.f2
  · rw [World.frozen?_setCell]; exact h.f3
theorem VInv.step3 {w : World} {q : Int} {a b d : Nat} {wr : World} (h : VInv w q a b d wr) : VInv w q a b (d + 1) (wr.setCell ⟨w.heap.size + 1, 3, none⟩ (.int .i64 ((d : Int) + 1))) := by
  have hne : w.heap.size + 1 ≠ w.heap.size := by omega
  refine ⟨(World.cell?_setCell_other _ _ _ _ (ne_block hne)).trans h.quo, (World.cell?_setCell_other _ _ _ _ (ne_off (by omega))).trans h.c0, (World.cell?_setCell_other _ _ _ _ (ne_off (by omega))).trans h.c1,
    (World.cell?_setCell_other _ _ _ _ (ne_off (by omega))).trans h.c2, World.cell?_setCell_same _ _ _ h.c3, ?_, ?_, ?_, h.bel.setCell (by show w.heap.size ≤ w.heap.size + 1; omega) _, by simpa using h.size⟩
  · rw [World.frozen?_setCell]; exact h.f1
  · rw [World.frozen?_setCell]; exact h.f2
  · rw [World.frozen?_setCell]; exact h.f3

/-- The first of own, {0}, {1}, both that can be had. -/
def sel (p : Int → Bool) (own : Int) : Int × Bool := if p own then (own, true) else if p 1 then (1, true) else if p 2 then (2, true) else if p 3 then (3, true) else (0, false)

theorem sel_own {p : Int → Bool} {own : Int} (h : p own = true) : sel p own = (own, true) := by simp [sel, h]
theorem sel_1 {p : Int → Bool} {own : Int} (h : p own = false) (h1 : p 1 = true) : sel p own = (1, true) := by simp [sel, h, h1]
theorem sel_2 {p : Int → Bool} {own : Int} (h : p own = false) (h1 : p 1 = false) (h2 : p 2 = true) : sel p own = (2, true) := by simp [sel, h, h1, h2]
theorem sel_3 {p : Int → Bool} {own : Int} (h : p own = false) (h1 : p 1 = false) (h2 : p 2 = false) (h3 : p 3 = true) : sel p own = (3, true) := by simp [sel, h, h1, h2, h3]
theorem sel_0 {p : Int → Bool} {own : Int} (h : p own = false) (h1 : p 1 = false) (h2 : p 2 = false) (h3 : p 3 = false) : sel p own = (0, false) := by simp [sel, h, h1, h2, h3]

def VPost (f : Nat → Int) (bin own q : Int) (n : Nat) (w : World) (e : Ending) (w' : World) : Prop :=
  e = .returned (.tuple #[.int .u8 (sel (posB q (cnt f bin 1 n) (cnt f bin 2 n) (cnt f bin 3 n)) own).1, .bool (sel (posB q (cnt f bin 1 n) (cnt f bin 2 n) (cnt f bin 3 n)) own).2]) ∧ Below w.heap.size w w'

/-- The world in which the candidates are tried. -/
def tailW (wr : World) (own : Int) (a b d : Nat) : World := ((wr.alloc (.cells #[.int .i64 ((a : Int) + b + d)] 3)).alloc (.cells #[.int .u8 own, .int .u8 1, .int .u8 2, .int .u8 3] 34)).drew

structure Tail (w wr : World) (own q : Int) (a b d : Nat) (wx : World) : Prop where
  cells : Cells wr.heap.size w.heap.size (w.heap.size + 1) q a b d wx
  l0 : wx.cell? ⟨wr.heap.size + 1, 0, none⟩ = some (.int .u8 own)
  l1 : wx.cell? ⟨wr.heap.size + 1, 1, none⟩ = some (.int .u8 1)
  l2 : wx.cell? ⟨wr.heap.size + 1, 2, none⟩ = some (.int .u8 2)
  l3 : wx.cell? ⟨wr.heap.size + 1, 3, none⟩ = some (.int .u8 3)
  bel : Below w.heap.size w wx

theorem tail_world {w wr : World} {own q : Int} {a b d : Nat} (h : VInv w q a b d wr) : Tail w wr own q a b d (tailW wr own a b d) := by
  have hsz := h.size
  have old : ∀ g j v, wr.cell? ⟨g, j, none⟩ = some v → (tailW wr own a b d).cell? ⟨g, j, none⟩ = some v := by
    intro g j v hv
    have hlt := World.block_lt_of_cell? wr _ hv
    have hlt' : g < wr.heap.size := hlt
    refine (World.cell?_of_block (a := ⟨g, j, none⟩) ?_).trans hv
    show ((wr.alloc _).alloc _).heap[g]? = wr.heap[g]?
    rw [Below.heap_alloc _ _ _ (by simp; omega), Below.heap_alloc _ _ _ hlt']
  refine ⟨⟨?_, old _ _ _ h.quo, old _ _ _ h.c0, old _ _ _ h.c1, old _ _ _ h.c2, old _ _ _ h.c3⟩, ?_, ?_, ?_, ?_, ?_⟩
  · simp [tailW]
  · simp [tailW]
  · simp [tailW]
  · simp [tailW]
  · simp [tailW]
  · exact ((h.bel.alloc (by omega) _).alloc (by simp; omega) _).drew

theorem Cells.drewN {gt gq gc : Nat} {q : Int} {a b d : Nat} {w : World} (h : Cells gt gq gc q a b d w) (m : Nat) : Cells gt gq gc q a b d (w.drewN m) := ⟨h.tot, h.quo, h.c0, h.c1, h.c2, h.c3⟩

set_option maxHeartbeats 2000000 in
theorem values_any (s : Nat) (x : Option Addr) (n cap : Nat) (f : Nat → Int) (bin own q : Int) (w : World) (hn : n ≤ 1048576) (hv : View w x n f) (hf : ∀ k, k < n → 0 ≤ f k ∧ f k ≤ 255) (hb0 : 0 ≤ bin) (hb1 : bin ≤ 3) (ho0 : 0 ≤ own) (ho1 : own ≤ 3) (hq : 1 ≤ q)
    (h7 : w.cell? ⟨s, 7, none⟩ = some (.slice x n cap)) (h5 : w.cell? ⟨s, 5, none⟩ = some (.int .u8 bin)) :
    Calls Try.prog 19 #[.pointer (some ⟨s, 0, none⟩), .int .u8 own, .int .i64 q] w (VPost f bin own q n w) := by
  have hs := World.block_lt_of_cell? w _ h7
  have hs' : s < w.heap.size := hs
  have HF := hide hf
  have hstart := hide (vinv_start w q)
  clear hf hs
  go_enter Try.func19, Try.ntmps19
  go_wp2
  go_loopw [20] (fun t wr => ∃ k : Nat, k ≤ n ∧ t = .int .i64 k ∧ VInv w q (cnt f bin 1 k) (cnt f bin 2 k) (cnt f bin 3 k) wr) (fun t _ => n - (intOf t).toNat)
  case atStart => exact ⟨0, Nat.zero_le _, rfl, unhide hstart⟩
  clear hstart
  case round =>
    obtain ⟨k, hk, rfl, hinv⟩ := hrel
    have hc1 := cnt_le f bin 1 k
    have hc2 := cnt_le f bin 2 k
    have hc3 := cnt_le f bin 3 k
    by_cases hlt : k < n
    · obtain ⟨b, off, rfl, hck⟩ := (hv.below hinv.bel) k hlt
      have hfk := unhide HF k hlt
      have hsb := sub_any hfk.1 hfk.2 hb0 hb1
      have h5r : wr.cell? ⟨s, 5, none⟩ = some (.int .u8 bin) := (hinv.bel.cell (p := ⟨s, 5, none⟩) hs').trans h5
      by_cases hx : f k = 0
      · have hok : okB bin (f k) = false := by simp [okB, hx]
        have hxb : (f k != 0) = false := by simp [hx]
        have HI : Hid (VInv w q (cnt f bin 1 (k + 1)) (cnt f bin 2 (k + 1)) (cnt f bin 3 (k + 1)) wr) := by
          show VInv w q _ _ _ wr
          rw [cnt_no hok, cnt_no hok, cnt_no hok]; exact hinv
        clear hinv hx hok hsb
        go_wp2
        go_roundw
        case rel => exact ⟨k + 1, by omega, by go_num, unhide HI⟩
        case measure => simp [intOf]; omega
      · have hxb : (f k != 0) = true := by simpa using hx
        cases h1 : subB (f k) bin
        · have hok : okB bin (f k) = false := by simp [okB, h1]
          have HI : Hid (VInv w q (cnt f bin 1 (k + 1)) (cnt f bin 2 (k + 1)) (cnt f bin 3 (k + 1)) wr) := by
            show VInv w q _ _ _ wr
            rw [cnt_no hok, cnt_no hok, cnt_no hok]; exact hinv
          rw [h1] at hsb
          clear hinv hx hok h1
          go_wp2
          go_roundw
          case rel => exact ⟨k + 1, by omega, by go_num, unhide HI⟩
          case measure => simp [intOf]; omega
        · have hok : okB bin (f k) = true := by simp [okB, h1, hxb]
          rw [h1] at hsb
          have hy : ∀ {x : Int}, f k = x → ∀ t, cnt f bin t (k + 1) = cnt f bin t k + if x = t then 1 else 0 := fun hx t => cnt_yes hok hx t
          rcases ok_cases hok with e | e | e
          · have HI : Hid (VInv w q (cnt f bin 1 (k + 1)) (cnt f bin 2 (k + 1)) (cnt f bin 3 (k + 1)) (wr.setCell ⟨w.heap.size + 1, 1, none⟩ (.int .i64 ((cnt f bin 1 k : Int) + 1)))) := by
              show VInv w q _ _ _ _
              rw [hy e, hy e, hy e]; exact hinv.step1
            have hcc := hinv.c1
            have hff := hinv.f1
            rw [e] at hck hsb hxb
            clear hinv hx hok h1 hy
            go_wp2
            go_roundw
            case rel => exact ⟨k + 1, by omega, by go_num, unhide HI⟩
            case measure => simp [intOf]; omega
          · have HI : Hid (VInv w q (cnt f bin 1 (k + 1)) (cnt f bin 2 (k + 1)) (cnt f bin 3 (k + 1)) (wr.setCell ⟨w.heap.size + 1, 2, none⟩ (.int .i64 ((cnt f bin 2 k : Int) + 1)))) := by
              show VInv w q _ _ _ _
              rw [hy e, hy e, hy e]; exact hinv.step2
            have hcc := hinv.c2
            have hff := hinv.f2
            rw [e] at hck hsb hxb
            clear hinv hx hok h1 hy
            go_wp2
            go_roundw
            case rel => exact ⟨k + 1, by omega, by go_num, unhide HI⟩
            case measure => simp [intOf]; omega
          · have HI : Hid (VInv w q (cnt f bin 1 (k + 1)) (cnt f bin 2 (k + 1)) (cnt f bin 3 (k + 1)) (wr.setCell ⟨w.heap.size + 1, 3, none⟩ (.int .i64 ((cnt f bin 3 k : Int) + 1)))) := by
              show VInv w q _ _ _ _
              rw [hy e, hy e, hy e]; exact hinv.step3
            have hcc := hinv.c3
            have hff := hinv.f3
            rw [e] at hck hsb hxb
            clear hinv hx hok h1 hy
            go_wp2
            go_roundw
            case rel => exact ⟨k + 1, by omega, by go_num, unhide HI⟩
            case measure => simp [intOf]; omega
    · obtain rfl : n = k := by omega
      have HT := hide (tail_world (own := own) hinv)
      obtain ⟨hquo, hc0, hk1, hk2, hk3, _, _, _, hbel, hsz⟩ := hinv
      clear hbel hv h5 h7 HF
      have HP : Hid (∀ e w', (e = .returned (.tuple #[.int .u8 (sel (posB q (cnt f bin 1 n) (cnt f bin 2 n) (cnt f bin 3 n)) own).1, .bool (sel (posB q (cnt f bin 1 n) (cnt f bin 2 n) (cnt f bin 3 n)) own).2]) ∧ Below w.heap.size w w') → VPost f bin own q n w e w') := fun e w' h => h
      generalize cnt f bin 1 n = a at HP HT hc1 hk1
      generalize cnt f bin 2 n = b at HP HT hc2 hk2
      generalize cnt f bin 3 n = d at HP HT hc3 hk3
      have n1 := World.new_ne wr _ hk1
      have n2 := World.new_ne wr _ hk2
      have n3 := World.new_ne wr _ hk3
      have n4 := World.new_ne wr _ hquo
      have n5 := World.new_ne wr _ hc0
      have e1 : IntKind.i64.wrap ((a : Int) + (b : Int)) = (a : Int) + (b : Int) := IntWalk.i64_in _ ⟨by omega, by omega⟩
      have e2 : IntKind.i64.wrap ((a : Int) + (b : Int) + (d : Int)) = (a : Int) + (b : Int) + (d : Int) := IntWalk.i64_in _ ⟨by omega, by omega⟩
      go_wp2
      go_region_held3 (fun w' => w'.cell? ⟨w.heap.size + 1, 1, none⟩ = some (.int .i64 (a : Int)) ∧ w'.cell? ⟨w.heap.size + 1, 2, none⟩ = some (.int .i64 (b : Int)) ∧ w'.cell? ⟨w.heap.size + 1, 3, none⟩ = some (.int .i64 (d : Int))) (go_keep)
        (first | (go_at_call_of 21 (Value.int IntKind.u8 0); refine (setof0 _).mono ?_; rintro e w' ⟨rfl, rfl⟩) | (go_at_call_of 21 (Value.int IntKind.u8 1); refine (setof1 _).mono ?_; rintro e w' ⟨rfl, rfl⟩))
      all_goals
        go_wp2_with (first | (go_at_call_of 21 (Value.int IntKind.u8 0); refine (setof0 _).mono ?_; rintro e w' ⟨rfl, rfl⟩) | (go_at_call_of 21 (Value.int IntKind.u8 1); refine (setof1 _).mono ?_; rintro e w' ⟨rfl, rfl⟩))
      all_goals
        change Code.wp _ _ _ _ (tailW wr own a b d)
        clear hquo hc0 hk1 hk2 hk3 n1 n2 n3 n4 n5 e1 e2
        generalize tailW wr own a b d = wx at HT ⊢
        obtain ⟨hcells, hl0, hl1, hl2, hl3, hbx⟩ := unhide HT
        have HC := hide hcells
        have HX := hide hbx
        clear HT hcells hbx
        go_loopw [57] (fun t wy => ∃ k m : Nat, k ≤ 4 ∧ t = .int .i64 k ∧ wy = wx.drewN m ∧ (1 ≤ k → posB q a b d own = false) ∧ (2 ≤ k → posB q a b d 1 = false) ∧ (3 ≤ k → posB q a b d 2 = false) ∧ (4 ≤ k → posB q a b d 3 = false)) (fun t _ => 4 - (intOf t).toNat)
        case atStart => exact ⟨0, 0, by omega, rfl, rfl, fun h => by omega, fun h => by omega, fun h => by omega, fun h => by omega⟩
        case round =>
          obtain ⟨k, m, hk4, rfl, rfl, r0, r1, r2, r3⟩ := hrel
          have HR := hide (And.intro r0 (And.intro r1 (And.intro r2 r3)))
          clear r0 r1 r2 r3
          have hkc : k = 0 ∨ k = 1 ∨ k = 2 ∨ k = 3 ∨ k = 4 := by omega
          rcases hkc with rfl | rfl | rfl | rfl | rfl
          · go_wp2_with fail
            refine (poss_any wr.heap.size w.heap.size (w.heap.size + 1) q a b d own _ hq (by omega) (by omega) ((unhide HC).drewN m)).mono ?_
            rintro e w' ⟨he, m', rfl⟩
            cases hp : posB q a b d own
            · rw [hp] at he
              subst he
              have H1 := hide hp
              clear hp
              go_wp2
              go_roundw
              case rel => exact ⟨1, _, by omega, by go_num, rfl, fun _ => unhide H1, fun h => by omega, fun h => by omega, fun h => by omega⟩
              case measure => simp [intOf]
            · rw [hp] at he
              subst he
              have H1 := hide hp
              clear hp
              go_wp2
              go_ret2
              refine (unhide HP) _ _ ⟨?_, below_drewN (unhide HX) _⟩
              rw [sel_own (unhide H1)]
              rfl
          · go_wp2_with fail
            refine (poss_any wr.heap.size w.heap.size (w.heap.size + 1) q a b d 1 _ hq (by omega) (by omega) ((unhide HC).drewN m)).mono ?_
            rintro e w' ⟨he, m', rfl⟩
            cases hp : posB q a b d 1
            · rw [hp] at he
              subst he
              have H1 := hide hp
              clear hp
              go_wp2
              go_roundw
              case rel => exact ⟨2, _, by omega, by go_num, rfl, fun _ => (unhide HR).1 (by omega), fun _ => unhide H1, fun h => by omega, fun h => by omega⟩
              case measure => simp [intOf]
            · rw [hp] at he
              subst he
              have H1 := hide hp
              clear hp
              go_wp2
              go_ret2
              refine (unhide HP) _ _ ⟨?_, below_drewN (unhide HX) _⟩
              rw [sel_1 ((unhide HR).1 (by omega)) (unhide H1)]
              rfl
          · go_wp2_with fail
            refine (poss_any wr.heap.size w.heap.size (w.heap.size + 1) q a b d 2 _ hq (by omega) (by omega) ((unhide HC).drewN m)).mono ?_
            rintro e w' ⟨he, m', rfl⟩
            cases hp : posB q a b d 2
            · rw [hp] at he
              subst he
              have H1 := hide hp
              clear hp
              go_wp2
              go_roundw
              case rel => exact ⟨3, _, by omega, by go_num, rfl, fun _ => (unhide HR).1 (by omega), fun _ => (unhide HR).2.1 (by omega), fun _ => unhide H1, fun h => by omega⟩
              case measure => simp [intOf]
            · rw [hp] at he
              subst he
              have H1 := hide hp
              clear hp
              go_wp2
              go_ret2
              refine (unhide HP) _ _ ⟨?_, below_drewN (unhide HX) _⟩
              rw [sel_2 ((unhide HR).1 (by omega)) ((unhide HR).2.1 (by omega)) (unhide H1)]
              rfl
          · go_wp2_with fail
            refine (poss_any wr.heap.size w.heap.size (w.heap.size + 1) q a b d 3 _ hq (by omega) (by omega) ((unhide HC).drewN m)).mono ?_
            rintro e w' ⟨he, m', rfl⟩
            cases hp : posB q a b d 3
            · rw [hp] at he
              subst he
              have H1 := hide hp
              clear hp
              go_wp2
              go_roundw
              case rel => exact ⟨4, _, by omega, by go_num, rfl, fun _ => (unhide HR).1 (by omega), fun _ => (unhide HR).2.1 (by omega), fun _ => (unhide HR).2.2.1 (by omega), fun _ => unhide H1⟩
              case measure => simp [intOf]
            · rw [hp] at he
              subst he
              have H1 := hide hp
              clear hp
              go_wp2
              go_ret2
              refine (unhide HP) _ _ ⟨?_, below_drewN (unhide HX) _⟩
              rw [sel_3 ((unhide HR).1 (by omega)) ((unhide HR).2.1 (by omega)) ((unhide HR).2.2.1 (by omega)) (unhide H1)]
              rfl
          · go_wp2
            go_ret2
            refine (unhide HP) _ _ ⟨?_, below_drewN (unhide HX) _⟩
            rw [sel_0 ((unhide HR).1 (by omega)) ((unhide HR).2.1 (by omega)) ((unhide HR).2.2.1 (by omega)) ((unhide HR).2.2.2 (by omega))]
            rfl

end Go.Proofs.Qxb6601157a
