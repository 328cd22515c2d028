/-
  THE CALLEES of the hear laws: b1CloneU64 (9), b1MaxU64 (8), Group.T (20), hear (18), ZZHear (10).
-/
import Derived.Test.Qxb6601157aRows
import Derived.WalkKit
import Derived.ProofKit
import Derived.OpenShut
import Derived.ShutString
import Derived.ChangeOld
import Derived.Below
import Derived.WalkSmall
import Derived.WalkSpells
import Derived.WalkLawsBesides
import Derived.Outline
import Derived.Deep.QuietTactic
import Derived.BigQuiet
namespace Go.Proofs.Qxb6601157a
open Go.ChangeShapes Go.WideShapes Go.ChangeAt Go.RowKit
set_option linter.unusedVariables false
set_option linter.unusedSimpArgs false

theorem hide {p : Prop} (h : p) : Hid p := h
theorem unhide {p : Prop} (h : Hid p) : p := h

/-- A row of the call's own: block g holds the numbers f 0 .. f (n-1). -/
def Row (g n : Nat) (f : Nat → Int) (w : World) : Prop := ∀ k, k < n → w.cell? ⟨g, k, none⟩ = some (.int .u64 (f k)) ∧ w.frozen? ⟨g, k, none⟩ = false
def upd (f : Nat → Int) (j : Nat) (x : Int) (q : Nat) : Int := if q = j then x else f q
theorem upd_same (f : Nat → Int) (j : Nat) (x : Int) : upd f j x j = x := by simp [upd]
theorem upd_other (f : Nat → Int) {j q : Nat} (x : Int) (h : q ≠ j) : upd f j x q = f q := by simp [upd, h]
theorem Row.set {g n : Nat} {f : Nat → Int} {w : World} (h : Row g n f w) (j : Nat) (x : Int) : Row g n (upd f j x) (w.setCell ⟨g, j, none⟩ (.int .u64 x)) := by
  intro q hq
  obtain ⟨h1, h2⟩ := h q hq
  refine ⟨?_, by rw [World.frozen?_setCell]; exact h2⟩
  unfold upd
  by_cases e : q = j
  · subst e
    rw [if_pos rfl]
    exact World.cell?_setCell_same _ _ _ h1
  · rw [if_neg e]
    exact (World.cell?_setCell_other _ _ _ _ (fun c => e (by simpa using c.symm))).trans h1
theorem Row.grown {g n : Nat} {f : Nat → Int} {w w' : World} {row : Option Nat} (h : Row g n f w) (hg : w.grownBy w' row) (hne : row ≠ some g) : Row g n f w' := by
  intro q hq
  obtain ⟨h1, h2⟩ := h q hq
  have hlt := World.block_lt_of_cell? w _ h1
  have hb := hg.block g hlt (fun e => hne e.symm)
  exact ⟨(World.cell?_of_block (a := ⟨g, q, none⟩) hb).trans h1, (World.frozen?_of_block (a := ⟨g, q, none⟩) hb).trans h2⟩
theorem Row.below {g n B : Nat} {f : Nat → Int} {w w' : World} (h : Row g n f w) (hb : Below B w w') (hg : g < B) : Row g n f w' := fun q hq =>
  ⟨(hb.cell (p := ⟨g, q, none⟩) hg).trans (h q hq).1, (hb.frozen (p := ⟨g, q, none⟩) hg).trans (h q hq).2⟩
theorem Row.drewN {g n : Nat} {f : Nat → Int} {w : World} (h : Row g n f w) (q : Nat) : Row g n f (w.drewN q) := h
theorem Row.congr {g n : Nat} {f f' : Nat → Int} {w : World} (h : Row g n f w) (e : ∀ q, q < n → f q = f' q) : Row g n f' w := fun q hq => by rw [← e q hq]; exact h q hq
theorem Row.lt {g n : Nat} {f : Nat → Int} {w : World} (h : Row g n f w) (hn : 0 < n) : g < w.heap.size := World.block_lt_of_cell? w _ (h 0 hn).1
theorem grown_setCell (w : World) (g j : Nat) (v : Value) : w.grownBy (w.setCell ⟨g, j, none⟩ v) (some g) :=
  ⟨rfl, rfl, rfl, by simp, fun k _ hk => heap_setCell_other w ⟨g, j, none⟩ k v (fun e => hk (by simp [e]))⟩

theorem Try.info23 : (Try.prog.info? 23).map (fun i => (i.zero, i.size, i.bytes)) = some (some (.int .u64 0), 1, 8) := by kernel_rfl

theorem row_made {w : World} {base g n : Nat} (h : w.ownsRow base 23 1 (.slice (some ⟨g, 0, none⟩) n n) n (madeCells #[Value.int .u64 0] n).toList) : Row g n (fun _ => 0) w := by
  intro q hq
  refine ⟨?_, h.frozenAt q⟩
  rw [h.cellAt q (by omega), toList_madeCells_one]
  simp [hq]

theorem neq22 (w : World) (a : Option Addr) (n c : Nat) : (binOp .neq 22 (.slice a n c) (.slice none 0 0)).run Try.prog w = .ok (.bool (!a.isNone)) w := run_neq_slice_nil_any (P := Try.prog) w 22 23 a n c 0 0 Try.underlying22
theorem eql22 (w : World) (a : Option Addr) (n c : Nat) : (binOp .eql 22 (.slice a n c) (.slice none 0 0)).run Try.prog w = .ok (.bool a.isNone) w := Lib.run_eql_slice_nil (P := Try.prog) w 22 23 a n c 0 0 Try.underlying22

/-- b1CloneU64 of a slice that is not nil. -/
def ClonePost (n : Nat) (f : Nat → Int) (w : World) (e : Ending) (w' : World) : Prop :=
  e = .returned (.slice (some ⟨w.heap.size, 0, none⟩) n n) ∧ Row w.heap.size n f w' ∧ Below w.heap.size w w' ∧ w.heap.size < w'.heap.size

set_option maxHeartbeats 400000 in
theorem clone_any (b off n cap : Nat) (f : Nat → Int) (w : World) (hn : n ≤ 1048576) (hc : ∀ k, k < n → w.cell? ⟨b, off + k, none⟩ = some (.int .u64 (f k))) :
    Calls Try.prog 9 #[.slice (some ⟨b, off, none⟩) n cap] w (ClonePost n f w) := by
  obtain ⟨i0, hi0, hz0, hz1, hz2⟩ := info_parts Try.info23
  have H : Hid (∀ k, k < n → w.cell? ⟨b, off + k, none⟩ = some (.int .u64 (f k))) := hc
  clear hc
  have eq := eql22
  go_enter Try.func9, Try.ntmps9
  go_wp2_with (at_make; refine wpList_make_full _ rfl _ _ 22 rfl w.heap.size 23 i0 (.int .u64 0) 1 Try.underlying22 hi0 hz0 hz1 _ _ _ _ n rfl rfl rfl rfl ?b2 ?b3 (Nat.le_refl _) ?_)
  case b2 => first | omega | (rw [hz2]; omega)
  case b3 => unfold maxLen; omega
  intro w1 hown1 hgrow1
  have hr1 := row_made hown1
  have hb1 : Below w.heap.size w w1 := (Below.refl _ _).grown hgrow1 (Nat.le_refl _) (fun k h => by cases h)
  have hs1 : w.heap.size < w1.heap.size := (hown1.lt w.heap.size (by simp [Value.ownBlock])).2
  clear hown1 hgrow1
  go_wp2
  go_loopw [4] (fun t wr => ∃ (k : Nat) (D : Nat → Int), k ≤ n ∧ t = .int .i64 k ∧ Row w.heap.size n D wr ∧ (∀ q, q < k → D q = f q) ∧ Below w.heap.size w wr ∧ w.heap.size < wr.heap.size) (fun t _ => n - (intOf t).toNat)
  case atStart => exact ⟨0, fun _ => 0, Nat.zero_le _, rfl, hr1, fun q hq => by omega, hb1, hs1⟩
  clear hr1 hb1 hs1
  case round =>
    obtain ⟨k, D, hk, rfl, hrow, hD, hbel, hsz⟩ := hrel
    by_cases hlt : k < n
    · have hcb := H.out k hlt
      have hblt := World.block_lt_of_cell? w _ hcb
      have hck : wr.cell? ⟨b, off + k, none⟩ = some (.int .u64 (f k)) := (hbel.cell (p := ⟨b, off + k, none⟩) hblt).trans hcb
      obtain ⟨hcg, hfg⟩ := hrow k hlt
      have hrow' := hrow.set k (f k)
      have hbel' : Below w.heap.size w (wr.setCell ⟨w.heap.size, k, none⟩ (.int .u64 (f k))) := hbel.setCell (Nat.le_refl _) _
      have HR := hide (And.intro hrow' (And.intro hD hbel'))
      clear hrow hrow' hD hbel' hbel hcb
      go_wp2
      go_roundw
      case rel => exact ⟨k + 1, _, by omega, by go_num, (unhide HR).1, fun q hq => by (by_cases e : q = k); (subst e; exact upd_same _ _ _); (rw [upd_other _ _ e]; exact (unhide HR).2.1 q (by omega)), (unhide HR).2.2, by simpa using hsz⟩
      case measure => simp [intOf]; omega
    · have hrow' := hrow.congr (fun q hq => hD q (by omega))
      have HP := hide (And.intro hrow' (And.intro hbel hsz))
      clear hrow hrow' hD hbel hsz
      go_wp2
      go_ret
      exact ⟨rfl, unhide HP⟩


theorem T_zero (w : World) : Calls Try.prog 20 #[.agg #[.int .i64 0]] w fun e w' => e = .returned (.int .i64 0) ∧ w' = w.alloc (.cells #[.int .i64 0] 40) := by
  go_enter Try.func20, Try.ntmps20
  go_wp2
  go_ret
  exact ⟨rfl, rfl⟩

/-- b1MaxU64: the highest. -/
def IsMax (n : Nat) (f : Nat → Int) (m : Int) : Prop := 0 ≤ m ∧ (∀ q, q < n → f q ≤ m) ∧ (m = 0 ∨ ∃ q, q < n ∧ f q = m)

theorem ismax_more {f : Nat → Int} {k : Nat} {m : Int} (h : m = 0 ∨ ∃ q, q < k ∧ f q = m) : m = 0 ∨ ∃ q, q < k + 1 ∧ f q = m := by
  rcases h with h | ⟨q, h1, h2⟩
  · exact .inl h
  · exact .inr ⟨q, by omega, h2⟩

set_option maxHeartbeats 400000 in
theorem max_any (b off n cap : Nat) (f : Nat → Int) (w : World) (hn : n ≤ 1048576) (hf : ∀ q, q < n → 0 ≤ f q) (hc : ∀ k, k < n → w.cell? ⟨b, off + k, none⟩ = some (.int .u64 (f k))) :
    Calls Try.prog 8 #[.slice (some ⟨b, off, none⟩) n cap] w fun e w' => w = w' ∧ ∃ m, IsMax n f m ∧ e = .returned (.int .u64 m) := by
  have H : Hid (∀ k, k < n → w.cell? ⟨b, off + k, none⟩ = some (.int .u64 (f k))) := hc
  have HF := hide hf
  clear hc hf
  go_enter Try.func8, Try.ntmps8
  go_wp2
  go_loop [3, 4] (fun sm t => ∃ (k : Nat) (m : Int), k ≤ n ∧ t = .int .i64 k ∧ sm = .int .u64 m ∧ IsMax k f m) (fun _ t => n - (intOf t).toNat)
  case atStart => exact ⟨0, 0, Nat.zero_le _, rfl, rfl, ⟨Int.le_refl _, fun q hq => by omega, .inl rfl⟩⟩
  case round =>
    obtain ⟨k, m, hk, rfl, rfl, hmax⟩ := hrel
    have HM := hide hmax
    clear hmax
    by_cases hlt : k < n
    · have hck := H.out k hlt
      by_cases hgt : m < f k
      · go_wp2
        go_round
        case rel => exact ⟨k + 1, f k, by omega, by go_num, rfl, (unhide HF) k hlt, fun q hq => by rcases Nat.lt_succ_iff_lt_or_eq.1 hq with h | rfl; exact Int.le_trans ((unhide HM).2.1 q h) (Int.le_of_lt hgt); exact Int.le_refl _, .inr ⟨k, by omega, rfl⟩⟩
        case measure => simp [intOf]; omega
      · go_wp2
        go_round
        case rel => exact ⟨k + 1, m, by omega, by go_num, rfl, (unhide HM).1, fun q hq => by rcases Nat.lt_succ_iff_lt_or_eq.1 hq with h | rfl; exact (unhide HM).2.1 q h; omega, ismax_more (unhide HM).2.2⟩
        case measure => simp [intOf]; omega
    · obtain rfl : n = k := by omega
      go_wp2
      go_ret
      exact ⟨rfl, m, unhide HM, rfl⟩

end Go.Proofs.Qxb6601157a
