/-
  ZZHear (10).
-/
import Derived.Test.Qxb6601157aHear
namespace Go.Proofs.Qxb6601157a
open Go.ChangeShapes Go.WideShapes Go.ChangeAt Go.RowKit
set_option linter.unusedVariables false
set_option linter.unusedSimpArgs false

/-- The Instance that ZZHear lays. -/
def inst (g n : Nat) (mark : Int) : Obj := .cells #[.int .i64 0, .int .i64 0, .int .u64 0, .int .u32 0, .int .u64 0, .int .i64 0, .int .u8 0, .bool false, .map none, .slice (some ⟨g, 0, none⟩) n n, .int .u64 mark, .slice none 0 0, .int .u64 0, .bool false, .bool false, .int .u8 0, .int .u64 0, .bool false] 50

theorem inst_9 (w : World) (g n : Nat) (mark : Int) : (w.alloc (inst g n mark)).cell? ⟨w.heap.size, 9, none⟩ = some (.slice (some ⟨g, 0, none⟩) n n) := by simp [inst]
theorem inst_10 (w : World) (g n : Nat) (mark : Int) : (w.alloc (inst g n mark)).cell? ⟨w.heap.size, 10, none⟩ = some (.int .u64 mark) := by simp [inst]
theorem inst_0 (w : World) (g n : Nat) (mark : Int) : (w.alloc (inst g n mark)).cell? ⟨w.heap.size, 0, none⟩ = some (.int .i64 0) := by simp [inst]
theorem inst_f (w : World) (g n : Nat) (mark : Int) : (w.alloc (inst g n mark)).frozen? ⟨w.heap.size, 10, none⟩ = false := by simp [inst]

/-- What ZZHear leaves. -/
def ZPost (g n : Nat) (f : Nat → Int) (w : World) (x y : Bool) (m : Int) (e : Ending) (w' : World) : Prop :=
  e = .returned (.tuple #[.bool x, .bool y, .slice (some ⟨g, 0, none⟩) n n, .int .u64 m]) ∧ Row g n f w' ∧ w.grownBy w' (some g)

theorem grown_trans {a b c : World} {row : Option Nat} (h : a.grownBy b row) (k : b.grownBy c row) : a.grownBy c row :=
  ⟨k.os.trans h.os, k.tape.trans h.tape, k.output.trans h.output, Nat.le_trans h.size k.size, fun i hi hr => (k.block i (Nat.lt_of_lt_of_le hi h.size) hr).trans (h.block i hi hr)⟩
/-- A store into a block that was laid since. -/
theorem grown_new {a b : World} {row : Option Nat} (h : a.grownBy b row) (s j : Nat) (v : Value) (hs : a.heap.size ≤ s) : a.grownBy (b.setCell ⟨s, j, none⟩ v) row :=
  ⟨h.os, h.tape, h.output, by simpa using h.size, fun k hk hr => (heap_setCell_other b ⟨s, j, none⟩ k v (by show k ≠ s; omega)).trans (h.block k hk hr)⟩
theorem grown_drewN {a b : World} {row : Option Nat} (h : a.grownBy b row) (q : Nat) : a.grownBy (b.drewN q) row := ⟨h.os, h.tape, h.output, h.size, h.block⟩

set_option maxHeartbeats 400000 in
theorem zz_low (g n : Nat) (f : Nat → Int) (mark r : Int) (i : Nat) (w : World) (hn : n ≤ 1048576) (hi : i < n) (hrow : Row g n f w) (hle : r ≤ f i) :
    Calls Try.prog 10 #[.slice (some ⟨g, 0, none⟩) n n, .int .u64 mark, .int .i64 ((i : Int) + 1), .int .u64 r] w (ZPost g n f w false false mark) := by
  have hg := hrow.lt (by omega)
  have hrb : Row g n f (w.alloc (inst g n mark)) := hrow.grown (World.grownBy_alloc w _ none) (by simp)
  have HR := hide hrb
  have hgb := World.grownBy_alloc w (inst g n mark) (some g)
  have HG := hide hgb
  have h9 := inst_9 w g n mark
  have h10 := inst_10 w g n mark
  have H9 := hide h9
  have H10 := hide h10
  clear hrb hrow hgb h9 h10
  go_enter Try.func10, Try.ntmps10
  go_wp2_with fail
  change Calls _ _ _ (w.alloc (inst g n mark)) _
  generalize hwb : w.alloc (inst g n mark) = wb at HR HG H9 H10 ⊢
  clear hwb
  refine (hear_low w.heap.size g n f mark r i wb hn hi (unhide HR) (unhide H9) hle).mono ?_
  rintro e w' ⟨rfl, rfl⟩
  have h9 := unhide H9
  have h10 := unhide H10
  go_wp2
  go_quiet (fail)
  go_wp2
  exact bodyPost_ret (v := .tuple #[.bool false, .bool false, .slice (some ⟨g, 0, none⟩) n n, .int .u64 mark]) (by simp [results, Try.results10, go_sem]) rfl ⟨rfl, (unhide HR).drewN _, grown_drewN (unhide HG) _⟩

set_option maxHeartbeats 400000 in
theorem zz_mid (g n : Nat) (f : Nat → Int) (mark r : Int) (i : Nat) (w : World) (hn : n ≤ 1048576) (hi : i < n) (hrow : Row g n f w) (hgt : f i < r) (hle : r ≤ mark) :
    Calls Try.prog 10 #[.slice (some ⟨g, 0, none⟩) n n, .int .u64 mark, .int .i64 ((i : Int) + 1), .int .u64 r] w (ZPost g n (upd f i r) w true false mark) := by
  have hg := hrow.lt (by omega)
  have hrb : Row g n f (w.alloc (inst g n mark)) := hrow.grown (World.grownBy_alloc w _ none) (by simp)
  have HR := hide hrb
  have hgb := World.grownBy_alloc w (inst g n mark) (some g)
  have HG := hide hgb
  have h9 := inst_9 w g n mark
  have h10 := inst_10 w g n mark
  have H9 := hide h9
  have H10 := hide h10
  clear hrb hrow hgb h9 h10
  go_enter Try.func10, Try.ntmps10
  go_wp2_with fail
  change Calls _ _ _ (w.alloc (inst g n mark)) _
  generalize hwb : w.alloc (inst g n mark) = wb at HR HG H9 H10 ⊢
  clear hwb
  refine (hear_mid w.heap.size g n f mark r i wb hn hi (unhide HR) (unhide H9) (unhide H10) hg hgt hle).mono ?_
  rintro e w' ⟨hw', rfl⟩
  have hR : Row g n (upd f i r) w' := by rw [← hw']; exact (unhide HR).set i r
  have hG : w.grownBy w' (some g) := by rw [← hw']; exact grown_trans (unhide HG) (grown_setCell wb g i _)
  have h9 : w'.cell? ⟨w.heap.size, 9, none⟩ = some (.slice (some ⟨g, 0, none⟩) n n) := by rw [← hw']; exact (World.cell?_setCell_other _ _ _ _ (fun c => absurd (congrArg Addr.block c) (show ¬ g = w.heap.size by omega))).trans (unhide H9)
  have h10 : w'.cell? ⟨w.heap.size, 10, none⟩ = some (.int .u64 mark) := by rw [← hw']; exact (World.cell?_setCell_other _ _ _ _ (fun c => absurd (congrArg Addr.block c) (show ¬ g = w.heap.size by omega))).trans (unhide H10)
  have HR' := hide hR
  have HG' := hide hG
  clear hw' hR hG HR HG H9 H10
  go_wp2
  go_quiet (fail)
  go_wp2
  exact bodyPost_ret (v := .tuple #[.bool true, .bool false, .slice (some ⟨g, 0, none⟩) n n, .int .u64 mark]) (by simp [results, Try.results10, go_sem]) rfl ⟨rfl, (unhide HR').drewN _, grown_drewN (unhide HG') _⟩

set_option maxHeartbeats 400000 in
theorem zz_high (g n : Nat) (f : Nat → Int) (mark r : Int) (i : Nat) (w : World) (hn : n ≤ 1048576) (hi : i < n) (hrow : Row g n f w) (hgt : f i < r) (hmr : mark < r) :
    Calls Try.prog 10 #[.slice (some ⟨g, 0, none⟩) n n, .int .u64 mark, .int .i64 ((i : Int) + 1), .int .u64 r] w fun e w' => ∃ l, Least n (upd f i r) mark l ∧ l ≤ r ∧ ZPost g n (upd f i r) w true true l e w' := by
  have hg := hrow.lt (by omega)
  have hrb : Row g n f (w.alloc (inst g n mark)) := hrow.grown (World.grownBy_alloc w _ none) (by simp)
  have HR := hide hrb
  have hgb := World.grownBy_alloc w (inst g n mark) (some g)
  have HG := hide hgb
  have h9 := inst_9 w g n mark
  have h10 := inst_10 w g n mark
  have h0 := inst_0 w g n mark
  have hf := inst_f w g n mark
  have hs : w.heap.size < (w.alloc (inst g n mark)).heap.size := by simp
  have H9 := hide h9
  have H10 := hide h10
  have H0 := hide h0
  have HF := hide hf
  have HS := hide hs
  clear hrb hrow hgb h9 h10 h0 hf hs
  go_enter Try.func10, Try.ntmps10
  go_wp2_with fail
  change Calls _ _ _ (w.alloc (inst g n mark)) _
  generalize hwb : w.alloc (inst g n mark) = wb at HR HG H9 H10 H0 HF HS ⊢
  clear hwb
  refine (hear_high w.heap.size g n f mark r i wb hn hi (unhide HR) (unhide H9) (unhide H10) (unhide HF) (unhide H0) hg (unhide HS) hgt hmr).mono ?_
  rintro e w' ⟨l, hl1, hl2, hw', rfl⟩
  have hne : ¬ g = w.heap.size := by omega
  have hR : Row g n (upd f i r) w' := by
    rw [← hw']
    exact (((unhide HR).set i r).grown (grown_setCell _ w.heap.size 10 (.int .u64 l)) (by simp; omega)).grown (World.grownBy_alloc _ _ none) (by simp)
  have hG : w.grownBy w' (some g) := by
    rw [← hw']
    exact grown_trans (grown_new (grown_trans (unhide HG) (grown_setCell wb g i _)) w.heap.size 10 (.int .u64 l) (Nat.le_refl _)) (World.grownBy_alloc _ _ _)
  have c9 : (wb.setCell ⟨g, i, none⟩ (.int .u64 r)).cell? ⟨w.heap.size, 9, none⟩ = some (.slice (some ⟨g, 0, none⟩) n n) := (World.cell?_setCell_other _ _ _ _ (fun c => absurd (congrArg Addr.block c) hne)).trans (unhide H9)
  have c10 : (wb.setCell ⟨g, i, none⟩ (.int .u64 r)).cell? ⟨w.heap.size, 10, none⟩ = some (.int .u64 mark) := (World.cell?_setCell_other _ _ _ _ (fun c => absurd (congrArg Addr.block c) hne)).trans (unhide H10)
  have hlt : w.heap.size < ((wb.setCell ⟨g, i, none⟩ (.int .u64 r)).setCell ⟨w.heap.size, 10, none⟩ (.int .u64 l)).heap.size := by simpa using unhide HS
  have h9 : w'.cell? ⟨w.heap.size, 9, none⟩ = some (.slice (some ⟨g, 0, none⟩) n n) := by
    rw [← hw']
    exact (World.cell?_of_block (a := ⟨w.heap.size, 9, none⟩) (Below.heap_alloc _ _ w.heap.size hlt)).trans ((World.cell?_setCell_other _ _ _ _ (fun c => absurd (congrArg Addr.off c) (show ¬ (10 : Nat) = 9 by omega))).trans c9)
  have h10 : w'.cell? ⟨w.heap.size, 10, none⟩ = some (.int .u64 l) := by
    rw [← hw']
    exact (World.cell?_of_block (a := ⟨w.heap.size, 10, none⟩) (Below.heap_alloc _ _ w.heap.size hlt)).trans (World.cell?_setCell_same _ _ _ c10)
  have HR' := hide hR
  have HG' := hide hG
  have HL := hide (And.intro hl1 hl2)
  clear hw' hR hG HR HG H9 H10 H0 HF HS c9 c10 hlt hl1 hl2 hne
  go_wp2
  go_quiet (fail)
  go_wp2
  exact bodyPost_ret (v := .tuple #[.bool true, .bool true, .slice (some ⟨g, 0, none⟩) n n, .int .u64 l]) (by simp [results, Try.results10, go_sem]) rfl ⟨l, (unhide HL).1, (unhide HL).2, rfl, (unhide HR').drewN _, grown_drewN (unhide HG') _⟩

end Go.Proofs.Qxb6601157a
