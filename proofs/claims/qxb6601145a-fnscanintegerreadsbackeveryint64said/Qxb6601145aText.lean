/-
  apiB1Int64Text (13).
-/
import Derived.Test.Qxb6601145aUint
namespace Go.Proofs.Qxb6601145a
open Go.ChangeShapes Go.WideShapes Go.ChangeAt Go.RowKit
set_option linter.unusedVariables false
set_option linter.unusedSimpArgs false

theorem app_any (base gb k : Nat) (T0 : Nat → Int) (U : Int) (w : World) (hown : w.ownsRow base 5 1 (.slice (some ⟨gb, 0, none⟩) k 21) k (bs T0 k)) (hk : k ≤ 1) (hU0 : 0 ≤ U) (hU1 : U ≤ 18446744073709551615) (hbase : base ≤ w.heap.size) :
    Calls Try.prog 19 #[.slice (some ⟨gb, 0, none⟩) k 21, .int .u64 U] w (UPost base gb k T0 w) := by
  by_cases h : U = 0
  · subst h; exact app_zero base gb k T0 w hown hk hbase
  · exact app_pos base gb k T0 U w hown hk (by omega) hU1 hbase

/-- What Int64Text leaves: a JSON integer's text in a row of its own. -/
def TPost (w : World) (e : Ending) (w' : World) : Prop := ∃ (T : Nat → Int) (L : Nat), 1 ≤ L ∧ L ≤ 21 ∧ Dig T (st T 0) L ∧
      e = .returned (.slice (some ⟨w.heap.size, 0, none⟩) L 21) ∧ w'.ownsRow w.heap.size 5 1 (.slice (some ⟨w.heap.size, 0, none⟩) L 21) L (bs T L) ∧ Below w.heap.size w w'

theorem tpost_pos {w w1 : World} {e : Ending} {w' : World} (hb : Below w.heap.size w w1) (h : UPost w.heap.size w.heap.size 0 (fun _ => 0) w1 e w') : TPost w e w' := by
  obtain ⟨T, d, h1, h2, _, h4, h5, h6, h7⟩ := h
  rw [Nat.zero_add] at h4 h5 h6
  refine ⟨T, d, h1, by omega, ?_, h5, h6, hb.trans h7⟩
  have h0 := (dg_iff _).1 (h4.2.2 0 (Nat.le_refl _) h4.1)
  have e : st T 0 = 0 := by unfold st; rw [if_neg (by omega)]
  rw [e]; exact h4
theorem tpost_neg {w w1 : World} {e : Ending} {w' : World} (hb : Below w.heap.size w w1) (h : UPost w.heap.size w.heap.size 1 (fun _ => 45) w1 e w') : TPost w e w' := by
  obtain ⟨T, d, h1, h2, h3, h4, h5, h6, h7⟩ := h
  refine ⟨T, 1 + d, by omega, by omega, ?_, h5, h6, hb.trans h7⟩
  have e : st T 0 = 1 := by unfold st; rw [if_pos (h3 0 (by omega))]
  rw [e]; exact h4

set_option maxHeartbeats 400000 in
theorem text_pos (n : Int) (w : World) (h0 : 0 ≤ n) (h1 : n ≤ 9223372036854775807) :
    Calls Try.prog 13 #[.int .i64 n] w (TPost w) := by
  obtain ⟨i0, hi0, hz0, hz1, hz2⟩ := info_parts Try.info5
  go_enter Try.func13, Try.ntmps13
  go_wp2_with (at_make; refine wpList_make_own _ rfl _ _ 22 rfl w.heap.size 5 i0 (.int .u8 0) 1 Try.underlying22 hi0 hz0 hz1 _ _ _ 21 rfl rfl (by omega) ?b2 ?b3 (Nat.le_refl _) ?_)
  case b2 => first | omega | (rw [hz2]; omega)
  case b3 => unfold maxLen; omega
  intro w1 hown1 hgrow1
  have hb1 : Below w.heap.size w w1 := (Below.refl _ _).grown hgrow1 (Nat.le_refl _) (fun k h => by cases h)
  go_wp2_with fail
  refine (app_any w.heap.size w.heap.size 0 (fun _ => 0) n _ hown1 (by omega) h0 (by omega) hb1.size).mono ?_
  intro e w' hp
  have ht := tpost_pos hb1 hp
  obtain ⟨T, d, _, _, _, _, rfl, _, _⟩ := id hp
  rw [Nat.zero_add] at ht
  have HT := hide ht
  clear ht hp hown1 hgrow1
  go_wp2
  go_ret
  exact unhide HT

set_option maxHeartbeats 400000 in
theorem text_neg (n : Int) (w : World) (h0 : n < 0) (h1 : -9223372036854775808 ≤ n) :
    Calls Try.prog 13 #[.int .i64 n] w (TPost w) := by
  obtain ⟨i0, hi0, hz0, hz1, hz2⟩ := info_parts Try.info5
  go_enter Try.func13, Try.ntmps13
  go_wp2_with (at_make; refine wpList_make_own _ rfl _ _ 22 rfl w.heap.size 5 i0 (.int .u8 0) 1 Try.underlying22 hi0 hz0 hz1 _ _ _ 21 rfl rfl (by omega) ?b2 ?b3 (Nat.le_refl _) ?_)
  case b2 => first | omega | (rw [hz2]; omega)
  case b3 => unfold maxLen; omega
  intro w1 hown1 hgrow1
  have hb1 : Below w.heap.size w w1 := (Below.refl _ _).grown hgrow1 (Nat.le_refl _) (fun k h => by cases h)
  have hm0 : Made w 21 (fun _ => 45) 0 w1 := ⟨hown1, hb1⟩
  clear hown1 hgrow1 hb1
  go_wp2_with (at_builtin; refine wpList_append_fits _ rfl _ _ 22 rfl w.heap.size 5 i0 1 Try.underlying22 hi0 hz1 w.heap.size 0 21 _ rfl (hm0.1.alloc _) ⟨w1.heap.size, 0, none⟩ 1 1 [.int .u8 45] rfl rfl (cell_one_new _ _ _) (by intro u hu; simp at hu; subst hu; rfl) (by omega) ?_)
  intro w2 hown2 hgrow2
  have hm1 := hm0.step rfl hown2 hgrow2
  clear hown2 hgrow2 hm0
  go_wp2_with fail
  refine (app_any w.heap.size w.heap.size 1 (fun _ => 45) _ _ hm1.1 (by omega) (by omega) (by omega) hm1.2.size).mono ?_
  intro e w' hp
  have ht := tpost_neg hm1.2 hp
  obtain ⟨T, d, _, _, _, _, rfl, _, _⟩ := id hp
  have HT := hide ht
  clear ht hp hm1
  go_wp2
  go_ret
  exact unhide HT

theorem text_any (n : Int) (w : World) (h : (Lit.int .i64 n).wf = true) : Calls Try.prog 13 #[.int .i64 n] w (TPost w) := by
  have hb := bounds_i64 h
  by_cases h0 : 0 ≤ n
  · exact text_pos n w h0 (by omega)
  · exact text_neg n w (by omega) (by omega)

end Go.Proofs.Qxb6601145a
