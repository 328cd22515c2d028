/-
  b1CloneU8 (13), b1Sets (14), b1Reachable (16).
-/
import Derived.Test.Qxb6601157aVal0
namespace Go.Proofs.Qxb6601157a
open Go.ChangeShapes Go.WideShapes Go.ChangeAt Go.RowKit
set_option linter.unusedVariables false
set_option linter.unusedSimpArgs false

/-- The first n cells of a slice at address a are the bytes f. -/
def View (w : World) (a : Option Addr) (n : Nat) (f : Nat → Int) : Prop := ∀ k, k < n → ∃ b off, a = some ⟨b, off, none⟩ ∧ w.cell? ⟨b, off + k, none⟩ = some (.int .u8 (f k))
theorem View.below {w w' : World} {a : Option Addr} {n : Nat} {f : Nat → Int} (h : View w a n f) (hb : Below w.heap.size w w') : View w' a n f := by
  intro k hk
  obtain ⟨b, off, e, hc⟩ := h k hk
  exact ⟨b, off, e, (hb.cell (p := ⟨b, off + k, none⟩) (World.block_lt_of_cell? w _ hc)).trans hc⟩
theorem view_of_row {w : World} {x : Addr} {n : Nat} {zs : List Int} (hn : n ≤ zs.length) (h : ∀ i, i < zs.length → w.cell? (x.add i) = some (.int .u8 (zs.getD i 0))) : View w (some x) n (fun k => zs.getD k 0) := by
  intro k hk
  obtain ⟨b, off, rfl, hc⟩ := ints_at h (by omega)
  exact ⟨b, off, rfl, hc k (by omega)⟩
theorem view_none {w : World} {n : Nat} {f : Nat → Int} (h : View w none n f) : n = 0 := by
  rcases Nat.eq_zero_or_pos n with c | c
  · exact c
  · obtain ⟨b, off, e, _⟩ := h 0 c
    cases e

/-- A row of the call's own, of bytes. -/
def Row8 (g n : Nat) (f : Nat → Int) (w : World) : Prop := ∀ k, k < n → w.cell? ⟨g, k, none⟩ = some (.int .u8 (f k)) ∧ w.frozen? ⟨g, k, none⟩ = false
theorem Row8.set {g n : Nat} {f : Nat → Int} {w : World} (h : Row8 g n f w) (j : Nat) (x : Int) : Row8 g n (upd f j x) (w.setCell ⟨g, j, none⟩ (.int .u8 x)) := by
  intro q hq
  obtain ⟨h1, h2⟩ := h q hq
  refine ⟨?_, by rw [World.frozen?_setCell]; exact h2⟩
  unfold upd
  by_cases e : q = j
  · subst e
    rw [if_pos rfl]
    exact World.cell?_setCell_same _ _ _ h1
  · rw [if_neg e]
    exact (World.cell?_setCell_other _ _ _ _ (fun c => e (by simpa using c.symm))).trans h1
theorem Row8.view {g n : Nat} {f : Nat → Int} {w : World} (h : Row8 g n f w) : View w (some ⟨g, 0, none⟩) n f := fun k hk => ⟨g, 0, rfl, by rw [Nat.zero_add]; exact (h k hk).1⟩
theorem Row8.congr {g n : Nat} {f f' : Nat → Int} {w : World} (h : Row8 g n f w) (e : ∀ q, q < n → f q = f' q) : Row8 g n f' w := fun q hq => by rw [← e q hq]; exact h q hq

theorem Try.info5 : (Try.prog.info? 5).map (fun i => (i.zero, i.size, i.bytes)) = some (some (.int .u8 0), 1, 1) := by kernel_rfl
theorem Try.info34 : (Try.prog.info? 34).map (fun i => (i.zero, i.size, i.bytes)) = some (some (.int .u8 0), 1, 1) := by kernel_rfl
theorem row8_made {w : World} {base g n : Nat} {t : TypeId} (h : w.ownsRow base t 1 (.slice (some ⟨g, 0, none⟩) n n) n (madeCells #[Value.int .u8 0] n).toList) : Row8 g n (fun _ => 0) w := by
  intro q hq
  refine ⟨?_, h.frozenAt q⟩
  rw [h.cellAt q (by omega), toList_madeCells_one]
  simp [hq]
theorem eql29 (w : World) (a : Option Addr) (n c : Nat) : (binOp .eql 29 (.slice a n c) (.slice none 0 0)).run Try.prog w = .ok (.bool a.isNone) w := Lib.run_eql_slice_nil (P := Try.prog) w 29 5 a n c 0 0 Try.underlying29

/-- A copy is handed back: the same bytes, in memory that is new. -/
def CopyPost (n : Nat) (f : Nat → Int) (w : World) (e : Ending) (w' : World) : Prop := ∃ a' c', e = .returned (.slice a' n c') ∧ View w' a' n f ∧ Below w.heap.size w w'

set_option maxHeartbeats 400000 in
theorem clone8_nil (cap : Nat) (f : Nat → Int) (w : World) : Calls Try.prog 13 #[.slice none 0 cap] w (CopyPost 0 f w) := by
  have eq := eql29
  go_enter Try.func13, Try.ntmps13
  go_wp2
  go_ret
  exact ⟨none, 0, rfl, fun k hk => absurd hk (Nat.not_lt_zero k), Below.refl _ _⟩

set_option maxHeartbeats 400000 in
theorem clone8_some (x : Addr) (n cap : Nat) (f : Nat → Int) (w : World) (hn : n ≤ 1048576) (hv : View w (some x) n f) :
    Calls Try.prog 13 #[.slice (some x) n cap] w (CopyPost n f w) := by
  obtain ⟨i0, hi0, hz0, hz1, hz2⟩ := info_parts Try.info5
  have eq := eql29
  go_enter Try.func13, Try.ntmps13
  go_wp2_with (at_make; refine wpList_make_full _ rfl _ _ 29 rfl w.heap.size 5 i0 (.int .u8 0) 1 Try.underlying29 hi0 hz0 hz1 _ _ _ _ n rfl rfl rfl rfl ?b2 ?b3 (Nat.le_refl _) ?_)
  case b2 => first | omega | (rw [hz2]; omega)
  case b3 => unfold maxLen; omega
  intro w1 hown1 hgrow1
  have hr1 := row8_made hown1
  have hb1 : Below w.heap.size w w1 := (Below.refl _ _).grown hgrow1 (Nat.le_refl _) (fun k h => by cases h)
  clear hown1 hgrow1
  go_wp2
  go_loopw [4] (fun t wr => ∃ (k : Nat) (D : Nat → Int), k ≤ n ∧ t = .int .i64 k ∧ Row8 w.heap.size n D wr ∧ (∀ q, q < k → D q = f q) ∧ Below w.heap.size w wr) (fun t _ => n - (intOf t).toNat)
  case atStart => exact ⟨0, fun _ => 0, Nat.zero_le _, rfl, hr1, fun q hq => by omega, hb1⟩
  clear hr1 hb1
  case round =>
    obtain ⟨k, D, hk, rfl, hrow, hD, hbel⟩ := hrel
    by_cases hlt : k < n
    · obtain ⟨b, off, he, hck⟩ := (hv.below hbel) k hlt
      obtain rfl := Option.some.inj he
      obtain ⟨hcg, hfg⟩ := hrow k hlt
      have hrow' := hrow.set k (f k)
      have hbel' : Below w.heap.size w (wr.setCell ⟨w.heap.size, k, none⟩ (.int .u8 (f k))) := hbel.setCell (Nat.le_refl _) _
      have HR := hide (And.intro hrow' (And.intro hD hbel'))
      clear hrow hrow' hD hbel' hbel he
      go_wp2
      go_roundw
      case rel => exact ⟨k + 1, _, by omega, by go_num, (unhide HR).1, fun q hq => by (by_cases e : q = k); (subst e; exact upd_same _ _ _); (rw [upd_other _ _ e]; exact (unhide HR).2.1 q (by omega)), (unhide HR).2.2⟩
      case measure => simp [intOf]; omega
    · have hrow' := hrow.congr (fun q hq => hD q (by omega))
      have HP := hide (And.intro hrow'.view hbel)
      clear hrow hrow' hD hbel
      go_wp2
      go_ret
      exact ⟨_, _, rfl, unhide HP⟩

theorem clone8_any (a : Option Addr) (n cap : Nat) (f : Nat → Int) (w : World) (hn : n ≤ 1048576) (hv : View w a n f) : Calls Try.prog 13 #[.slice a n cap] w (CopyPost n f w) := by
  cases a with
  | none => obtain rfl := view_none hv; exact clone8_nil cap f w
  | some x => exact clone8_some x n cap f w hn hv

set_option maxHeartbeats 400000 in
theorem sets_nil (cap : Nat) (f : Nat → Int) (w : World) : Calls Try.prog 14 #[.slice none 0 cap] w (CopyPost 0 f w) := by
  have eq := eql29
  go_enter Try.func14, Try.ntmps14
  go_wp2
  go_ret
  exact ⟨none, 0, rfl, fun k hk => absurd hk (Nat.not_lt_zero k), Below.refl _ _⟩

set_option maxHeartbeats 400000 in
theorem sets_some (x : Addr) (n cap : Nat) (f : Nat → Int) (w : World) (hn : n ≤ 1048576) (hv : View w (some x) n f) :
    Calls Try.prog 14 #[.slice (some x) n cap] w (CopyPost n f w) := by
  obtain ⟨i0, hi0, hz0, hz1, hz2⟩ := info_parts Try.info34
  have eq := eql29
  go_enter Try.func14, Try.ntmps14
  go_wp2_with (at_make; refine wpList_make_full _ rfl _ _ 32 rfl w.heap.size 34 i0 (.int .u8 0) 1 Try.underlying32 hi0 hz0 hz1 _ _ _ _ n rfl rfl rfl rfl ?b2 ?b3 (Nat.le_refl _) ?_)
  case b2 => first | omega | (rw [hz2]; omega)
  case b3 => unfold maxLen; omega
  intro w1 hown1 hgrow1
  have hr1 := row8_made hown1
  have hb1 : Below w.heap.size w w1 := (Below.refl _ _).grown hgrow1 (Nat.le_refl _) (fun k h => by cases h)
  clear hown1 hgrow1
  go_wp2
  go_loopw [4] (fun t wr => ∃ (k : Nat) (D : Nat → Int), k ≤ n ∧ t = .int .i64 k ∧ Row8 w.heap.size n D wr ∧ (∀ q, q < k → D q = f q) ∧ Below w.heap.size w wr) (fun t _ => n - (intOf t).toNat)
  case atStart => exact ⟨0, fun _ => 0, Nat.zero_le _, rfl, hr1, fun q hq => by omega, hb1⟩
  clear hr1 hb1
  case round =>
    obtain ⟨k, D, hk, rfl, hrow, hD, hbel⟩ := hrel
    by_cases hlt : k < n
    · obtain ⟨b, off, he, hck⟩ := (hv.below hbel) k hlt
      obtain rfl := Option.some.inj he
      obtain ⟨hcg, hfg⟩ := hrow k hlt
      have hrow' := hrow.set k (f k)
      have hbel' : Below w.heap.size w (wr.setCell ⟨w.heap.size, k, none⟩ (.int .u8 (f k))) := hbel.setCell (Nat.le_refl _) _
      have HR := hide (And.intro hrow' (And.intro hD hbel'))
      clear hrow hrow' hD hbel' hbel he
      go_wp2
      go_roundw
      case rel => exact ⟨k + 1, _, by omega, by go_num, (unhide HR).1, fun q hq => by (by_cases e : q = k); (subst e; exact upd_same _ _ _); (rw [upd_other _ _ e]; exact (unhide HR).2.1 q (by omega)), (unhide HR).2.2⟩
      case measure => simp [intOf]; omega
    · have hrow' := hrow.congr (fun q hq => hD q (by omega))
      have HP := hide (And.intro hrow'.view hbel)
      clear hrow hrow' hD hbel
      go_wp2
      go_ret
      exact ⟨_, _, rfl, unhide HP⟩

theorem sets_any (a : Option Addr) (n cap : Nat) (f : Nat → Int) (w : World) (hn : n ≤ 1048576) (hv : View w a n f) : Calls Try.prog 14 #[.slice a n cap] w (CopyPost n f w) := by
  cases a with
  | none => obtain rfl := view_none hv; exact sets_nil cap f w
  | some x => exact sets_some x n cap f w hn hv

/-- b1Reachable computes what 'tot' and 'un' say. -/
def ReachPost (f : Nat → Int) (bin c q : Int) (n : Nat) (w : World) (e : Ending) (w' : World) : Prop := w = w' ∧ e = .returned (.bool (decide (q ≤ (tot f bin c n : Int)) && (un f bin c n == c)))

set_option maxHeartbeats 1000000 in
theorem reach_walk (a : Option Addr) (n cap : Nat) (f : Nat → Int) (bin c q : Int) (w : World) (hn : n ≤ 1048576) (hv : View w a n f) (hf : ∀ k, k < n → 0 ≤ f k ∧ f k ≤ 255) (hb0 : 0 ≤ bin) (hb1 : bin ≤ 3) (hc0 : 0 ≤ c) (hc1 : c ≤ 3) :
    Calls Try.prog 16 #[.slice a n cap, .int .u8 bin, .int .u8 c, .int .i64 q] w (ReachPost f bin c q n w) := by
  have HF := hide hf
  clear hf
  go_enter Try.func16, Try.ntmps16
  go_wp2
  go_loop [9, 10, 11] (fun sn su t => ∃ k : Nat, k ≤ n ∧ t = .int .i64 k ∧ sn = .int .i64 (tot f bin c k) ∧ su = .int .u8 (un f bin c k)) (fun _ _ t => n - (intOf t).toNat)
  case atStart => exact ⟨0, Nat.zero_le _, rfl, rfl, rfl⟩
  case round =>
    obtain ⟨k, hk, rfl, rfl, rfl⟩ := hrel
    have htl := tot_le f bin c k
    by_cases hlt : k < n
    · obtain ⟨b, off, rfl, hck⟩ := hv k hlt
      have hfk := unhide HF k hlt
      have hsb := sub_any hfk.1 hfk.2 hb0 hb1
      have hsc := sub_any hfk.1 hfk.2 hc0 hc1
      by_cases hx : f k = 0
      · have hq : (okB bin (f k) && subB (f k) c) = false := by simp [okB, hx]
        have HN := hide (And.intro (tot_no hq) (un_no hq))
        have hxb : (f k != 0) = false := by simp [hx]
        clear hq hsb hsc hx
        go_wp2
        go_round
        case rel => exact ⟨k + 1, by omega, by go_num, by rw [(unhide HN).1], by rw [(unhide HN).2]⟩
        case measure => simp [intOf]; omega
      · have hxb : (f k != 0) = true := by simpa using hx
        cases h1 : subB (f k) bin
        · have hq : (okB bin (f k) && subB (f k) c) = false := by simp [okB, h1]
          have HN := hide (And.intro (tot_no hq) (un_no hq))
          rw [h1] at hsb
          clear hq h1 hsc hx
          go_wp2
          go_round
          case rel => exact ⟨k + 1, by omega, by go_num, by rw [(unhide HN).1], by rw [(unhide HN).2]⟩
          case measure => simp [intOf]; omega
        · cases h2 : subB (f k) c
          · have hq : (okB bin (f k) && subB (f k) c) = false := by simp [h2]
            have HN := hide (And.intro (tot_no hq) (un_no hq))
            rw [h1] at hsb
            rw [h2] at hsc
            clear hq h1 h2 hx
            go_wp2
            go_round
            case rel => exact ⟨k + 1, by omega, by go_num, by rw [(unhide HN).1], by rw [(unhide HN).2]⟩
            case measure => simp [intOf]; omega
          · have hq : (okB bin (f k) && subB (f k) c) = true := by simp [okB, h1, h2, hxb]
            have HN := hide (And.intro (tot_yes hq) (un_yes hq))
            rw [h1] at hsb
            rw [h2] at hsc
            clear hq h1 h2 hx
            go_wp2
            go_round
            case rel => exact ⟨k + 1, by omega, by go_num, by rw [(unhide HN).1]; go_num, by rw [(unhide HN).2]⟩
            case measure => simp [intOf]; omega
    · obtain rfl : n = k := by omega
      by_cases hd : q ≤ (tot f bin c n : Int)
      · go_wp2
        go_ret
        exact ⟨rfl, by simp [hd]⟩
      · have hd' : decide (q ≤ (tot f bin c n : Int)) = false := by simpa using hd
        go_wp2
        go_ret
        exact ⟨rfl, by simp [hd']⟩

theorem reach_any (a : Option Addr) (n cap : Nat) (f : Nat → Int) (bin c q : Int) (w : World) (hn : n ≤ 1048576) (hv : View w a n f) (hf : ∀ k, k < n → 0 ≤ f k ∧ f k ≤ 255) (hb0 : 0 ≤ bin) (hb1 : bin ≤ 3) (hc0 : 0 ≤ c) (hc1 : c ≤ 3) (hq : 1 ≤ q) :
    Calls Try.prog 16 #[.slice a n cap, .int .u8 bin, .int .u8 c, .int .i64 q] w fun e w' => w = w' ∧ e = .returned (.bool (posB q (cnt f bin 1 n) (cnt f bin 2 n) (cnt f bin 3 n) c)) := by
  refine (reach_walk a n cap f bin c q w hn hv hf hb0 hb1 hc0 hc1).mono ?_
  rintro e w' ⟨h1, h2⟩
  exact ⟨h1, by rw [h2, reach_law f bin c q n hq hc0 hc1]⟩

end Go.Proofs.Qxb6601157a
