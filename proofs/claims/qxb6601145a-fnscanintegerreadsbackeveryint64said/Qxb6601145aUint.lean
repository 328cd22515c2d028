/-
  apiB1AppendUint (19), apiB1Int64Text (13).
-/
import Derived.Test.Qxb6601145aStr2b
import Derived.Test.Qxb6601145aInt2
namespace Go.Proofs.Qxb6601145a
open Go.ChangeShapes Go.WideShapes Go.ChangeAt Go.RowKit
set_option linter.unusedVariables false
set_option linter.unusedSimpArgs false

/-- What is left of the number fits into the cells that are left. -/
def Fits (U v : Int) (p : Nat) : Prop := v * 10 ^ (20 - p) ≤ U
theorem fits_start (U : Int) : Fits U U 20 := by simp [Fits]
theorem fits_pos {U v : Int} {p : Nat} (h : Fits U v p) (hv : 0 < v) (hU : U ≤ 18446744073709551615) : 1 ≤ p := by
  unfold Fits at h
  rcases Nat.eq_zero_or_pos p with rfl | hp
  · exfalso
    have e : (10 : Int) ^ (20 - 0) = 100000000000000000000 := by decide
    rw [e] at h
    omega
  · exact hp
theorem fits_step {U v : Int} {p : Nat} (h : Fits U v p) (h1 : 1 ≤ p) (hp : p ≤ 20) (hv : 0 ≤ v) : Fits U (v / 10) (p - 1) := by
  unfold Fits at h ⊢
  have e : (10 : Int) ^ (20 - (p - 1)) = 10 ^ (20 - p) * 10 := by rw [show 20 - (p - 1) = (20 - p) + 1 from by omega, Int.pow_succ]
  rw [e, ← Int.mul_assoc, Int.mul_right_comm]
  refine Int.le_trans (Int.mul_le_mul_of_nonneg_right ?_ (Int.pow_nonneg (by omega))) h
  omega

/-- The twenty cells of the buffer. -/
def Buf (g : Nat) (D : Nat → Int) (w : World) : Prop := ∀ q, q < 20 → w.cell? ⟨g, q, none⟩ = some (.int .u8 (D q)) ∧ w.frozen? ⟨g, q, none⟩ = false
def upd (D : Nat → Int) (j : Nat) (x : Int) (q : Nat) : Int := if q = j then x else D q
theorem Buf.set {g : Nat} {D : Nat → Int} {w : World} (h : Buf g D w) (j : Nat) (x : Int) : Buf g (upd D j x) (w.setCell ⟨g, j, none⟩ (.int .u8 x)) := by
  intro q hq
  obtain ⟨h1, h2⟩ := h q hq
  refine ⟨?_, by rw [World.frozen?_setCell]; exact h2⟩
  unfold upd
  by_cases e : q = j
  · subst e
    rw [if_pos rfl]
    exact World.cell?_setCell_same _ _ _ h1
  · rw [if_neg e]
    exact (World.cell?_setCell_other _ _ _ _ (fun c => e (by simpa using c.symm))).trans h1
theorem Buf.grown {g : Nat} {D : Nat → Int} {w w' : World} {row : Option Nat} (h : Buf g D w) (hg : w.grownBy w' row) (hne : row ≠ some g) : Buf g D w' := by
  intro q hq
  obtain ⟨h1, h2⟩ := h q hq
  have hlt := World.block_lt_of_cell? w _ h1
  have hb := hg.block g hlt (fun e => hne e.symm)
  exact ⟨(World.cell?_of_block (a := ⟨g, q, none⟩) hb).trans h1, (World.frozen?_of_block (a := ⟨g, q, none⟩) hb).trans h2⟩
theorem grown_setCell (w : World) (g j : Nat) (v : Value) : w.grownBy (w.setCell ⟨g, j, none⟩ v) (some g) :=
  ⟨rfl, rfl, rfl, by simp, fun k _ hk => heap_setCell_other w ⟨g, j, none⟩ k v (fun e => hk (by simp [e]))⟩

/-- What holds at each round's head of the loop that writes the digits: p cells are left, v is left of the number. -/
structure Inv1 (base gb k : Nat) (T0 : Nat → Int) (U : Int) (w : World) (p : Nat) (v : Int) (D : Nat → Int) (wr : World) : Prop where
  p20 : p ≤ 20
  v0 : 0 ≤ v
  vU : v ≤ U
  fits : Fits U v p
  buf : Buf w.heap.size D wr
  digs : ∀ q, p ≤ q → q < 20 → dg (D q) = true
  lead : v = 0 → p < 20 ∧ (D p = 48 → p = 19)
  own : wr.ownsRow base 5 1 (.slice (some ⟨gb, 0, none⟩) k 21) k (bs T0 k)
  bel : Below base w wr

theorem Inv1.step {base gb k : Nat} {T0 : Nat → Int} {U : Int} {w : World} {p : Nat} {v : Int} {D : Nat → Int} {wr : World} (h : Inv1 base gb k T0 U w p v D wr) (hv : 0 < v) (hp : 1 ≤ p) (hb : base ≤ w.heap.size) (hgb : gb < w.heap.size) :
    Inv1 base gb k T0 U w (p - 1) (v / 10) (upd D (p - 1) (48 + v % 10)) (wr.setCell ⟨w.heap.size, p - 1, none⟩ (.int .u8 (48 + v % 10))) := by
  have hp20 := h.p20
  have hvU := h.vU
  refine ⟨by omega, by omega, by omega, fits_step h.fits hp hp20 h.v0, h.buf.set _ _, fun q h1 h2 => ?_, fun h0 => ⟨by omega, fun he => ?_⟩, h.own.kept (grown_setCell wr _ _ _) (.inr (by simp [Value.ownBlock]; omega)), h.bel.setCell (by exact hb) _⟩
  · unfold upd
    by_cases e : q = p - 1
    · rw [if_pos e, dg_iff]; omega
    · rw [if_neg e]; exact h.digs q (by omega) h2
  · exfalso
    unfold upd at he
    rw [if_pos rfl] at he
    omega

/-- The text that stands in the end: what was there, then the buffer from p on. -/
def grownT (k p : Nat) (T0 D : Nat → Int) (q : Nat) : Int := if q < k then T0 q else D (p + (q - k))

structure Inv2 (base gb k p : Nat) (T0 : Nat → Int) (w : World) (D : Nat → Int) (m : Nat) (wr : World) : Prop where
  buf : Buf w.heap.size D wr
  own : wr.ownsRow base 5 1 (.slice (some ⟨gb, 0, none⟩) (k + m) 21) (k + m) (bs (grownT k p T0 D) (k + m))
  bel : Below base w wr

theorem bs_congr {f g : Nat → Int} {n : Nat} (h : ∀ q, q < n → f q = g q) : bs f n = bs g n := by
  unfold bs
  apply List.map_congr_left
  intro q hq
  rw [h q (by simpa using hq)]

theorem Inv1.turn {base gb k : Nat} {T0 : Nat → Int} {U : Int} {w : World} {p : Nat} {v : Int} {D : Nat → Int} {wr : World} (h : Inv1 base gb k T0 U w p v D wr) : Inv2 base gb k p T0 w D 0 wr := by
  refine ⟨h.buf, ?_, h.bel⟩
  have e : bs (grownT k p T0 D) (k + 0) = bs T0 k := bs_congr (fun q hq => by unfold grownT; rw [if_pos (by omega)])
  rw [e]
  exact h.own

theorem Inv2.step {base gb k p : Nat} {T0 : Nat → Int} {w : World} {D : Nat → Int} {m : Nat} {wr w1 : World} {o : Obj} (h : Inv2 base gb k p T0 w D m wr) (hb : base ≤ w.heap.size) (hgb : gb < w.heap.size)
    (hown : w1.ownsRow base 5 1 (.slice (some ⟨gb, 0, none⟩) (k + m + 1) 21) (k + m + 1) (bs (grownT k p T0 D) (k + m) ++ [.int .u8 (D (p + m))])) (hg : (wr.alloc o).grownBy w1 (some gb)) : Inv2 base gb k p T0 w D (m + 1) w1 := by
  have hbg : base ≤ gb := (h.own.lt gb (by simp [Value.ownBlock])).1
  refine ⟨(h.buf.grown (World.grownBy_alloc wr o none) (by simp)).grown hg (by simp; omega), ?_, (h.bel.alloc (by have := h.bel.size; omega) o).grown hg (by have := h.bel.size; simp; omega) (fun j hj => by cases hj; exact hbg)⟩
  show w1.ownsRow base 5 1 (.slice (some ⟨gb, 0, none⟩) (k + m + 1) 21) (k + m + 1) (bs (grownT k p T0 D) (k + m + 1))
  rw [bs_succ]
  have e : grownT k p T0 D (k + m) = D (p + m) := by unfold grownT; rw [if_neg (by omega)]; congr 1; omega
  rw [e]
  exact hown

/-- What AppendUint leaves. -/
def UPost (base gb k : Nat) (T0 : Nat → Int) (w : World) (e : Ending) (w' : World) : Prop := ∃ (T : Nat → Int) (d : Nat), 1 ≤ d ∧ d ≤ 20 ∧ (∀ q, q < k → T q = T0 q) ∧ Dig T k (k + d) ∧
      e = .returned (.slice (some ⟨gb, 0, none⟩) (k + d) 21) ∧ w'.ownsRow base 5 1 (.slice (some ⟨gb, 0, none⟩) (k + d) 21) (k + d) (bs T (k + d)) ∧ Below base w w'

theorem upost_of {base gb k p : Nat} {T0 : Nat → Int} {w : World} {D : Nat → Int} {wr : World} (hp : p < 20) (h : Inv2 base gb k p T0 w D (20 - p) wr) (digs : ∀ q, p ≤ q → q < 20 → dg (D q) = true) (lead : D p = 48 → p = 19) :
    UPost base gb k T0 w (.returned (.slice (some ⟨gb, 0, none⟩) (k + (20 - p)) 21)) wr := by
  refine ⟨grownT k p T0 D, 20 - p, by omega, by omega, fun q hq => by unfold grownT; rw [if_pos hq], ⟨by omega, fun he => ?_, fun m h1 h2 => ?_⟩, rfl, h.own, h.bel⟩
  · unfold grownT at he
    rw [if_neg (by omega), Nat.sub_self, Nat.add_zero] at he
    have := lead he
    omega
  · unfold grownT
    rw [if_neg (by omega)]
    exact digs _ (by omega) (by omega)

theorem buf_new (w : World) (t : TypeId) (x : Int) : Buf w.heap.size (upd (fun _ => 0) 19 x) (w.alloc (.cells #[.int .u8 0, .int .u8 0, .int .u8 0, .int .u8 0, .int .u8 0, .int .u8 0, .int .u8 0, .int .u8 0, .int .u8 0, .int .u8 0, .int .u8 0, .int .u8 0, .int .u8 0, .int .u8 0, .int .u8 0, .int .u8 0, .int .u8 0, .int .u8 0, .int .u8 0, .int .u8 x] t)) := by
  intro q hq
  constructor
  · rw [cell_of_row _ _ q _ t (0, 0) (heap_alloc_new w _)]
    have h : q = 0 ∨ q = 1 ∨ q = 2 ∨ q = 3 ∨ q = 4 ∨ q = 5 ∨ q = 6 ∨ q = 7 ∨ q = 8 ∨ q = 9 ∨ q = 10 ∨ q = 11 ∨ q = 12 ∨ q = 13 ∨ q = 14 ∨ q = 15 ∨ q = 16 ∨ q = 17 ∨ q = 18 ∨ q = 19 := by omega
    rcases h with rfl | rfl | rfl | rfl | rfl | rfl | rfl | rfl | rfl | rfl | rfl | rfl | rfl | rfl | rfl | rfl | rfl | rfl | rfl | rfl <;> rfl
  · exact frozen_of_row _ _ q _ t (heap_alloc_new w _)

set_option maxHeartbeats 1000000 in
theorem app_pos (base gb k : Nat) (T0 : Nat → Int) (U : Int) (w : World) (hown : w.ownsRow base 5 1 (.slice (some ⟨gb, 0, none⟩) k 21) k (bs T0 k)) (hk : k ≤ 1) (hU0 : 0 < U) (hU1 : U ≤ 18446744073709551615) (hbase : base ≤ w.heap.size) :
    Calls Try.prog 19 #[.slice (some ⟨gb, 0, none⟩) k 21, .int .u64 U] w (UPost base gb k T0 w) := by
  obtain ⟨i0, hi0, hz0, hz1, hz2⟩ := info_parts Try.info5
  have hgb : gb < w.heap.size := (hown.lt gb (by simp [Value.ownBlock])).2
  have hU2 : (U == 0) = false := by simp; omega
  go_enter Try.func19, Try.ntmps19
  go_wp2
  go_loopw [1, 6] (fun su sp wr => ∃ (p : Nat) (v : Int) (D : Nat → Int), su = .int .u64 v ∧ sp = .int .i64 p ∧ Inv1 base gb k T0 U w p v D wr) (fun _ sp _ => (intOf sp).toNat)
  case atStart => exact ⟨20, U, upd (fun _ => 0) 19 0, rfl, rfl, ⟨by omega, by omega, by omega, fits_start U, buf_new w _ 0, fun q h1 h2 => by omega, fun h => by omega, hown.alloc _, (Below.refl _ _).alloc hbase _⟩⟩
  case round =>
    obtain ⟨p, v, D, rfl, rfl, hinv⟩ := hrel
    have hp20 := hinv.p20
    have hv0 := hinv.v0
    have hvU := hinv.vU
    by_cases hv : 0 < v
    · have hp := fits_pos hinv.fits hv hU1
      have hinv' := hinv.step hv hp hbase hgb
      obtain ⟨hcell, hfroz⟩ := hinv.buf (p - 1) (by omega)
      have HI := hide hinv'
      clear hinv' hinv hown
      go_wp2
      go_roundw
      case rel => exact ⟨p - 1, v / 10, _, by go_num, by go_num, unhide HI⟩
      case measure => simp [intOf]; omega
    · have hv' : v ≤ 0 := by omega
      obtain ⟨hp, hlead⟩ := hinv.lead (by omega)
      have lead : Hid (D p = 48 → p = 19) := hlead
      have digs : Hid (∀ q, p ≤ q → q < 20 → dg (D q) = true) := hinv.digs
      have hinv2 := hinv.turn
      clear hlead hinv hown
      go_wp2
      go_loopw [0, 7] (fun s0 sq wr => ∃ m : Nat, m ≤ 20 - p ∧ s0 = .slice (some ⟨gb, 0, none⟩) (k + m) 21 ∧ sq = .int .i64 ((p + m : Nat) : Int) ∧ Inv2 base gb k p T0 w D m wr) (fun _ sq _ => 20 - (intOf sq).toNat)
      case atStart => exact ⟨0, Nat.zero_le _, rfl, rfl, hinv2⟩
      clear hinv2
      case round =>
        obtain ⟨m, hm, rfl, rfl, hinv2⟩ := hrel
        by_cases hlt : p + m < 20
        · obtain ⟨hcell, hfroz⟩ := hinv2.buf (p + m) hlt
          have hlt' : ((p + m : Nat) : Int) < 20 := by omega
          go_wp2_with (at_builtin; refine wpList_append_fits _ rfl _ _ 22 rfl base 5 i0 1 Try.underlying22 hi0 hz1 gb (k + m) 21 _ rfl (hinv2.own.alloc _) ⟨wr.heap.size, 0, none⟩ 1 1 [.int .u8 (D (p + m))] rfl rfl (cell_one_new _ _ _) (by intro u hu; simp at hu; subst hu; rfl) (by omega) ?_)
          intro w2 hown2 hgrow2
          have hinv3 := hinv2.step hbase hgb hown2 hgrow2
          clear hown2 hgrow2
          go_wp2
          go_roundw
          case rel => exact ⟨m + 1, by omega, rfl, by go_num, hinv3⟩
          case measure => simp [intOf]; omega
        · have hge : (20 : Int) ≤ ((p + m : Nat) : Int) := by omega
          obtain rfl : m = 20 - p := by omega
          have hup := upost_of hp hinv2 digs.out lead.out
          have HU := hide hup
          clear hup hinv2
          go_wp2
          go_ret
          exact unhide HU


set_option maxHeartbeats 1000000 in
theorem app_zero (base gb k : Nat) (T0 : Nat → Int) (w : World) (hown : w.ownsRow base 5 1 (.slice (some ⟨gb, 0, none⟩) k 21) k (bs T0 k)) (hk : k ≤ 1) (hbase : base ≤ w.heap.size) :
    Calls Try.prog 19 #[.slice (some ⟨gb, 0, none⟩) k 21, .int .u64 0] w (UPost base gb k T0 w) := by
  obtain ⟨i0, hi0, hz0, hz1, hz2⟩ := info_parts Try.info5
  have hgb : gb < w.heap.size := (hown.lt gb (by simp [Value.ownBlock])).2
  go_enter Try.func19, Try.ntmps19
  go_wp2
  go_loopw [1, 6] (fun su sp wr => su = .int .u64 0 ∧ sp = .int .i64 19 ∧ Inv1 base gb k T0 0 w 19 0 (upd (fun _ => 0) 19 48) wr) (fun _ sp _ => (intOf sp).toNat)
  case atStart => exact ⟨rfl, rfl, ⟨by omega, by omega, by omega, by simp [Fits], buf_new w _ 48, fun q h1 h2 => by (obtain rfl : q = 19 := by omega); rfl, fun h => ⟨by omega, fun _ => rfl⟩, hown.alloc _, (Below.refl _ _).alloc hbase _⟩⟩
  case round =>
    obtain ⟨rfl, rfl, hinv⟩ := hrel
    generalize upd (fun _ => 0) 19 48 = D at *
    have digs : Hid (∀ q, 19 ≤ q → q < 20 → dg (D q) = true) := hinv.digs
    have hinv2 := hinv.turn
    clear hinv hown
    go_wp2
    go_loopw [0, 7] (fun s0 sq wr => ∃ m : Nat, m ≤ 20 - 19 ∧ s0 = .slice (some ⟨gb, 0, none⟩) (k + m) 21 ∧ sq = .int .i64 ((19 + m : Nat) : Int) ∧ Inv2 base gb k 19 T0 w D m wr) (fun _ sq _ => 20 - (intOf sq).toNat)
    case atStart => exact ⟨0, Nat.zero_le _, rfl, rfl, hinv2⟩
    clear hinv2
    case round =>
      obtain ⟨m, hm, rfl, rfl, hinv2⟩ := hrel
      by_cases hlt : 19 + m < 20
      · obtain ⟨hcell, hfroz⟩ := hinv2.buf (19 + m) hlt
        have hlt' : ((19 + m : Nat) : Int) < 20 := by omega
        go_wp2_with (at_builtin; refine wpList_append_fits _ rfl _ _ 22 rfl base 5 i0 1 Try.underlying22 hi0 hz1 gb (k + m) 21 _ rfl (hinv2.own.alloc _) ⟨wr.heap.size, 0, none⟩ 1 1 [.int .u8 (D (19 + m))] rfl rfl (cell_one_new _ _ _) (by intro u hu; simp at hu; subst hu; rfl) (by omega) ?_)
        intro w2 hown2 hgrow2
        have hinv3 := hinv2.step hbase hgb hown2 hgrow2
        clear hown2 hgrow2
        go_wp2
        go_roundw
        case rel => exact ⟨m + 1, by omega, rfl, by go_num, hinv3⟩
        case measure => simp [intOf]; omega
      · have hge : (20 : Int) ≤ ((19 + m : Nat) : Int) := by omega
        obtain rfl : m = 20 - 19 := by omega
        have hup := upost_of (by omega) hinv2 digs.out (fun _ => rfl)
        have HU := hide hup
        clear hup hinv2
        go_wp2
        go_ret
        exact unhide HU

end Go.Proofs.Qxb6601145a
