/-
  ZZValues (15); FnValuesIsPreferredReachableUnion (5): the walk.
-/
import Derived.Test.Qxb6601157aVal2
namespace Go.Proofs.Qxb6601157a
open Go.ChangeShapes Go.WideShapes Go.ChangeAt Go.RowKit
set_option linter.unusedVariables false
set_option linter.unusedSimpArgs false

set_option maxHeartbeats 400000 in
theorem zzvalues_any (x : Option Addr) (n cap : Nat) (f : Nat → Int) (bin own q : Int) (w : World) (hn : n ≤ 1048576) (hv : View w x n f) (hf : ∀ k, k < n → 0 ≤ f k ∧ f k ≤ 255) (hb0 : 0 ≤ bin) (hb1 : bin ≤ 3) (ho0 : 0 ≤ own) (ho1 : own ≤ 3) (hq : 1 ≤ q) :
    Calls Try.prog 15 #[.slice x n cap, .int .u8 bin, .int .u8 own, .int .i64 q] w (VPost f bin own q n w) := by
  have HF := hide hf
  have HV : Hid (∀ o, View (w.alloc o) x n f) := fun o => hv.below ((Below.refl _ _).alloc (Nat.le_refl _) o)
  have HB : Hid (∀ o, Below w.heap.size w (w.alloc o)) := fun o => (Below.refl _ _).alloc (Nat.le_refl _) o
  clear hf hv
  go_enter Try.func15, Try.ntmps15
  go_wp2_with fail
  refine (values_any w.heap.size x n cap f bin own q _ hn (unhide HV _) (unhide HF) hb0 hb1 ho0 ho1 hq (by simp) (by simp)).mono ?_
  rintro e w' ⟨he, hb⟩
  have HP : Hid (VPost f bin own q n w e w') := ⟨he, (unhide HB _).trans (hb.mono (by simp))⟩
  subst he
  clear hb
  go_wp2
  go_ret2
  exact unhide HP

theorem bytes12_yes (a : Option Addr) (n cap : Nat) (x y z : Int) (w : World) (h : n ≤ 1048576) :
    Calls Try.prog 12 #[.slice a n cap, .int .u8 x, .int .u8 y, .int .i64 z] w fun e w' => e = .returned (.bool true) ∧ w = w' := by
  go_enter Try.func12, Try.ntmps12
  go_wp2
  go_ret
  exact ⟨rfl, rfl⟩
theorem bytes12_no (a : Option Addr) (n cap : Nat) (x y z : Int) (w : World) (h : 1048576 < n) :
    Calls Try.prog 12 #[.slice a n cap, .int .u8 x, .int .u8 y, .int .i64 z] w fun e w' => e = .returned (.bool false) ∧ w = w' := by
  have h' : (1048576 : Int) < (n : Int) := by omega
  go_enter Try.func12, Try.ntmps12
  go_wp2
  go_ret
  exact ⟨rfl, rfl⟩

theorem val_big (a : Option Addr) (n cap : Nat) (x y z : Int) (w : World) (h : 1048576 < n) :
    Calls Try.prog 5 #[.slice a n cap, .int .u8 x, .int .u8 y, .int .i64 z] w fun e w' => e = .returned (.bool true) ∧ Below w.heap.size w w' := by
  go_enter Try.func5, Try.ntmps5
  go_wp2_with (go_at_call 12; refine (bytes12_no _ _ _ _ _ _ _ h).mono ?_; rintro e w' ⟨rfl, rfl⟩)
  go_ret
  exact ⟨rfl, Below.refl _ _⟩

theorem val_out (a : Option Addr) (n cap : Nat) (x y z : Int) (w : World) (hn : n ≤ 1048576) (h : 3 < x ∨ 3 < y ∨ z < 1) :
    Calls Try.prog 5 #[.slice a n cap, .int .u8 x, .int .u8 y, .int .i64 z] w fun e w' => e = .returned (.bool true) ∧ Below w.heap.size w w' := by
  by_cases h1 : 3 < x
  · clear h
    go_enter Try.func5, Try.ntmps5
    go_wp2_with (go_at_call 12; refine (bytes12_yes _ _ _ _ _ _ _ hn).mono ?_; rintro e w' ⟨rfl, rfl⟩)
    go_ret
    exact ⟨rfl, Below.refl _ _⟩
  · by_cases h2 : 3 < y
    · clear h
      go_enter Try.func5, Try.ntmps5
      go_wp2_with (go_at_call 12; refine (bytes12_yes _ _ _ _ _ _ _ hn).mono ?_; rintro e w' ⟨rfl, rfl⟩)
      go_ret
      exact ⟨rfl, Below.refl _ _⟩
    · have h3 : z < 1 := by omega
      clear h
      go_enter Try.func5, Try.ntmps5
      go_wp2_with (go_at_call 12; refine (bytes12_yes _ _ _ _ _ _ _ hn).mono ?_; rintro e w' ⟨rfl, rfl⟩)
      go_ret
      exact ⟨rfl, Below.refl _ _⟩

set_option maxHeartbeats 1000000 in
theorem val_0 (a : Option Addr) (n cap : Nat) (f : Nat → Int) (bin own q : Int) (w : World) (hn : n ≤ 1048576) (hv : View w a n f) (hf : ∀ k, k < n → 0 ≤ f k ∧ f k ≤ 255) (hb0 : 0 ≤ bin) (hb1 : bin ≤ 3) (ho0 : 0 ≤ own) (ho1 : own ≤ 3) (hq : 1 ≤ q)
    (h0 : posB q (cnt f bin 1 n) (cnt f bin 2 n) (cnt f bin 3 n) own = true) :
    Calls Try.prog 5 #[.slice a n cap, .int .u8 bin, .int .u8 own, .int .i64 q] w fun e w' => e = .returned (.bool true) ∧ Below w.heap.size w w' := by
  have HF := hide hf
  have hsel := sel_own h0
  have HS := hide hsel
  have H0 := hide h0
  clear hf hsel h0
  go_enter Try.func5, Try.ntmps5
  go_wp2_with (go_at_call 12; refine (bytes12_yes _ _ _ _ _ _ _ hn).mono ?_; rintro e w' ⟨rfl, rfl⟩)
  refine (clone8_any a n cap f w hn hv).mono ?_
  rintro e w1 ⟨a1, c1, rfl, hv1, hb1'⟩
  have HV1 := hide hv1
  have HB1 := hide hb1'
  clear hv1 hb1' hv
  go_wp2_with fail
  refine (sets_any a1 n c1 f w1 hn (unhide HV1)).mono ?_
  rintro e w2 ⟨a2, c2, rfl, hv2, hb2'⟩
  have HV2 := hide hv2
  have HB2 := hide hb2'
  clear hv2 hb2'
  go_wp2_with fail
  refine (zzvalues_any a2 n c2 f bin own q w2 hn (unhide HV2) (unhide HF) hb0 hb1 ho0 ho1 hq).mono ?_
  rintro e w3 ⟨he, hb3'⟩
  rw [unhide HS] at he
  simp only [] at he
  subst he
  have HV3 := hide (((unhide HV1).below (unhide HB2)).below hb3')
  have HB3 := hide ((unhide HB1).trans (((unhide HB2).trans (hb3'.mono (unhide HB2).size)).mono (unhide HB1).size))
  clear hb3' HV1 HV2 HB1 HB2
  go_wp2_with fail
  refine (reach_any a1 n c1 f bin own q w3 hn (unhide HV3) (unhide HF) hb0 hb1 (by omega) (by omega) hq).mono ?_
  rintro e w' ⟨rfl, he⟩
  rw [unhide H0] at he
  subst he
  go_wp2_with fail
  go_ret
  exact ⟨by simp, unhide HB3⟩

set_option maxHeartbeats 1000000 in
theorem val_1 (a : Option Addr) (n cap : Nat) (f : Nat → Int) (bin own q : Int) (w : World) (hn : n ≤ 1048576) (hv : View w a n f) (hf : ∀ k, k < n → 0 ≤ f k ∧ f k ≤ 255) (hb0 : 0 ≤ bin) (hb1 : bin ≤ 3) (ho0 : 0 ≤ own) (ho1 : own ≤ 3) (hq : 1 ≤ q)
    (h0 : posB q (cnt f bin 1 n) (cnt f bin 2 n) (cnt f bin 3 n) own = false) (h1 : posB q (cnt f bin 1 n) (cnt f bin 2 n) (cnt f bin 3 n) 1 = true) :
    Calls Try.prog 5 #[.slice a n cap, .int .u8 bin, .int .u8 own, .int .i64 q] w fun e w' => e = .returned (.bool true) ∧ Below w.heap.size w w' := by
  have HF := hide hf
  have hsel := sel_1 h0 h1
  have HS := hide hsel
  have H0 := hide h0
  have H1 := hide h1
  clear hf hsel h0 h1
  go_enter Try.func5, Try.ntmps5
  go_wp2_with (go_at_call 12; refine (bytes12_yes _ _ _ _ _ _ _ hn).mono ?_; rintro e w' ⟨rfl, rfl⟩)
  refine (clone8_any a n cap f w hn hv).mono ?_
  rintro e w1 ⟨a1, c1, rfl, hv1, hb1'⟩
  have HV1 := hide hv1
  have HB1 := hide hb1'
  clear hv1 hb1' hv
  go_wp2_with fail
  refine (sets_any a1 n c1 f w1 hn (unhide HV1)).mono ?_
  rintro e w2 ⟨a2, c2, rfl, hv2, hb2'⟩
  have HV2 := hide hv2
  have HB2 := hide hb2'
  clear hv2 hb2'
  go_wp2_with fail
  refine (zzvalues_any a2 n c2 f bin own q w2 hn (unhide HV2) (unhide HF) hb0 hb1 ho0 ho1 hq).mono ?_
  rintro e w3 ⟨he, hb3'⟩
  rw [unhide HS] at he
  simp only [] at he
  subst he
  have HV3 := hide (((unhide HV1).below (unhide HB2)).below hb3')
  have HB3 := hide ((unhide HB1).trans (((unhide HB2).trans (hb3'.mono (unhide HB2).size)).mono (unhide HB1).size))
  clear hb3' HV1 HV2 HB1 HB2
  go_wp2_with fail
  refine (reach_any a1 n c1 f bin own q w3 hn (unhide HV3) (unhide HF) hb0 hb1 (by omega) (by omega) hq).mono ?_
  rintro e w' ⟨rfl, he⟩
  rw [unhide H0] at he
  subst he
  go_wp2_with fail
  refine (reach_any a1 n c1 f bin 1 q w3 hn (unhide HV3) (unhide HF) hb0 hb1 (by omega) (by omega) hq).mono ?_
  rintro e w' ⟨rfl, he⟩
  rw [unhide H1] at he
  subst he
  go_wp2_with fail
  go_ret
  exact ⟨by simp, unhide HB3⟩

set_option maxHeartbeats 1000000 in
theorem val_2 (a : Option Addr) (n cap : Nat) (f : Nat → Int) (bin own q : Int) (w : World) (hn : n ≤ 1048576) (hv : View w a n f) (hf : ∀ k, k < n → 0 ≤ f k ∧ f k ≤ 255) (hb0 : 0 ≤ bin) (hb1 : bin ≤ 3) (ho0 : 0 ≤ own) (ho1 : own ≤ 3) (hq : 1 ≤ q)
    (h0 : posB q (cnt f bin 1 n) (cnt f bin 2 n) (cnt f bin 3 n) own = false) (h1 : posB q (cnt f bin 1 n) (cnt f bin 2 n) (cnt f bin 3 n) 1 = false) (h2 : posB q (cnt f bin 1 n) (cnt f bin 2 n) (cnt f bin 3 n) 2 = true) :
    Calls Try.prog 5 #[.slice a n cap, .int .u8 bin, .int .u8 own, .int .i64 q] w fun e w' => e = .returned (.bool true) ∧ Below w.heap.size w w' := by
  have HF := hide hf
  have hsel := sel_2 h0 h1 h2
  have HS := hide hsel
  have H0 := hide h0
  have H1 := hide h1
  have H2 := hide h2
  clear hf hsel h0 h1 h2
  go_enter Try.func5, Try.ntmps5
  go_wp2_with (go_at_call 12; refine (bytes12_yes _ _ _ _ _ _ _ hn).mono ?_; rintro e w' ⟨rfl, rfl⟩)
  refine (clone8_any a n cap f w hn hv).mono ?_
  rintro e w1 ⟨a1, c1, rfl, hv1, hb1'⟩
  have HV1 := hide hv1
  have HB1 := hide hb1'
  clear hv1 hb1' hv
  go_wp2_with fail
  refine (sets_any a1 n c1 f w1 hn (unhide HV1)).mono ?_
  rintro e w2 ⟨a2, c2, rfl, hv2, hb2'⟩
  have HV2 := hide hv2
  have HB2 := hide hb2'
  clear hv2 hb2'
  go_wp2_with fail
  refine (zzvalues_any a2 n c2 f bin own q w2 hn (unhide HV2) (unhide HF) hb0 hb1 ho0 ho1 hq).mono ?_
  rintro e w3 ⟨he, hb3'⟩
  rw [unhide HS] at he
  simp only [] at he
  subst he
  have HV3 := hide (((unhide HV1).below (unhide HB2)).below hb3')
  have HB3 := hide ((unhide HB1).trans (((unhide HB2).trans (hb3'.mono (unhide HB2).size)).mono (unhide HB1).size))
  clear hb3' HV1 HV2 HB1 HB2
  go_wp2_with fail
  refine (reach_any a1 n c1 f bin own q w3 hn (unhide HV3) (unhide HF) hb0 hb1 (by omega) (by omega) hq).mono ?_
  rintro e w' ⟨rfl, he⟩
  rw [unhide H0] at he
  subst he
  go_wp2_with fail
  refine (reach_any a1 n c1 f bin 1 q w3 hn (unhide HV3) (unhide HF) hb0 hb1 (by omega) (by omega) hq).mono ?_
  rintro e w' ⟨rfl, he⟩
  rw [unhide H1] at he
  subst he
  go_wp2_with fail
  refine (reach_any a1 n c1 f bin 2 q w3 hn (unhide HV3) (unhide HF) hb0 hb1 (by omega) (by omega) hq).mono ?_
  rintro e w' ⟨rfl, he⟩
  rw [unhide H2] at he
  subst he
  go_wp2_with fail
  go_ret
  exact ⟨by simp, unhide HB3⟩

set_option maxHeartbeats 1000000 in
theorem val_3 (a : Option Addr) (n cap : Nat) (f : Nat → Int) (bin own q : Int) (w : World) (hn : n ≤ 1048576) (hv : View w a n f) (hf : ∀ k, k < n → 0 ≤ f k ∧ f k ≤ 255) (hb0 : 0 ≤ bin) (hb1 : bin ≤ 3) (ho0 : 0 ≤ own) (ho1 : own ≤ 3) (hq : 1 ≤ q)
    (h0 : posB q (cnt f bin 1 n) (cnt f bin 2 n) (cnt f bin 3 n) own = false) (h1 : posB q (cnt f bin 1 n) (cnt f bin 2 n) (cnt f bin 3 n) 1 = false) (h2 : posB q (cnt f bin 1 n) (cnt f bin 2 n) (cnt f bin 3 n) 2 = false) (h3 : posB q (cnt f bin 1 n) (cnt f bin 2 n) (cnt f bin 3 n) 3 = true) :
    Calls Try.prog 5 #[.slice a n cap, .int .u8 bin, .int .u8 own, .int .i64 q] w fun e w' => e = .returned (.bool true) ∧ Below w.heap.size w w' := by
  have HF := hide hf
  have hsel := sel_3 h0 h1 h2 h3
  have HS := hide hsel
  have H0 := hide h0
  have H1 := hide h1
  have H2 := hide h2
  have H3 := hide h3
  clear hf hsel h0 h1 h2 h3
  go_enter Try.func5, Try.ntmps5
  go_wp2_with (go_at_call 12; refine (bytes12_yes _ _ _ _ _ _ _ hn).mono ?_; rintro e w' ⟨rfl, rfl⟩)
  refine (clone8_any a n cap f w hn hv).mono ?_
  rintro e w1 ⟨a1, c1, rfl, hv1, hb1'⟩
  have HV1 := hide hv1
  have HB1 := hide hb1'
  clear hv1 hb1' hv
  go_wp2_with fail
  refine (sets_any a1 n c1 f w1 hn (unhide HV1)).mono ?_
  rintro e w2 ⟨a2, c2, rfl, hv2, hb2'⟩
  have HV2 := hide hv2
  have HB2 := hide hb2'
  clear hv2 hb2'
  go_wp2_with fail
  refine (zzvalues_any a2 n c2 f bin own q w2 hn (unhide HV2) (unhide HF) hb0 hb1 ho0 ho1 hq).mono ?_
  rintro e w3 ⟨he, hb3'⟩
  rw [unhide HS] at he
  simp only [] at he
  subst he
  have HV3 := hide (((unhide HV1).below (unhide HB2)).below hb3')
  have HB3 := hide ((unhide HB1).trans (((unhide HB2).trans (hb3'.mono (unhide HB2).size)).mono (unhide HB1).size))
  clear hb3' HV1 HV2 HB1 HB2
  go_wp2_with fail
  refine (reach_any a1 n c1 f bin own q w3 hn (unhide HV3) (unhide HF) hb0 hb1 (by omega) (by omega) hq).mono ?_
  rintro e w' ⟨rfl, he⟩
  rw [unhide H0] at he
  subst he
  go_wp2_with fail
  refine (reach_any a1 n c1 f bin 1 q w3 hn (unhide HV3) (unhide HF) hb0 hb1 (by omega) (by omega) hq).mono ?_
  rintro e w' ⟨rfl, he⟩
  rw [unhide H1] at he
  subst he
  go_wp2_with fail
  refine (reach_any a1 n c1 f bin 2 q w3 hn (unhide HV3) (unhide HF) hb0 hb1 (by omega) (by omega) hq).mono ?_
  rintro e w' ⟨rfl, he⟩
  rw [unhide H2] at he
  subst he
  go_wp2_with fail
  refine (reach_any a1 n c1 f bin 3 q w3 hn (unhide HV3) (unhide HF) hb0 hb1 (by omega) (by omega) hq).mono ?_
  rintro e w' ⟨rfl, he⟩
  rw [unhide H3] at he
  subst he
  go_wp2_with fail
  go_ret
  exact ⟨by simp, unhide HB3⟩

set_option maxHeartbeats 1000000 in
theorem val_4 (a : Option Addr) (n cap : Nat) (f : Nat → Int) (bin own q : Int) (w : World) (hn : n ≤ 1048576) (hv : View w a n f) (hf : ∀ k, k < n → 0 ≤ f k ∧ f k ≤ 255) (hb0 : 0 ≤ bin) (hb1 : bin ≤ 3) (ho0 : 0 ≤ own) (ho1 : own ≤ 3) (hq : 1 ≤ q)
    (h0 : posB q (cnt f bin 1 n) (cnt f bin 2 n) (cnt f bin 3 n) own = false) (h1 : posB q (cnt f bin 1 n) (cnt f bin 2 n) (cnt f bin 3 n) 1 = false) (h2 : posB q (cnt f bin 1 n) (cnt f bin 2 n) (cnt f bin 3 n) 2 = false) (h3 : posB q (cnt f bin 1 n) (cnt f bin 2 n) (cnt f bin 3 n) 3 = false) :
    Calls Try.prog 5 #[.slice a n cap, .int .u8 bin, .int .u8 own, .int .i64 q] w fun e w' => e = .returned (.bool true) ∧ Below w.heap.size w w' := by
  have HF := hide hf
  have hsel := sel_0 h0 h1 h2 h3
  have HS := hide hsel
  have H0 := hide h0
  have H1 := hide h1
  have H2 := hide h2
  have H3 := hide h3
  clear hf hsel h0 h1 h2 h3
  go_enter Try.func5, Try.ntmps5
  go_wp2_with (go_at_call 12; refine (bytes12_yes _ _ _ _ _ _ _ hn).mono ?_; rintro e w' ⟨rfl, rfl⟩)
  refine (clone8_any a n cap f w hn hv).mono ?_
  rintro e w1 ⟨a1, c1, rfl, hv1, hb1'⟩
  have HV1 := hide hv1
  have HB1 := hide hb1'
  clear hv1 hb1' hv
  go_wp2_with fail
  refine (sets_any a1 n c1 f w1 hn (unhide HV1)).mono ?_
  rintro e w2 ⟨a2, c2, rfl, hv2, hb2'⟩
  have HV2 := hide hv2
  have HB2 := hide hb2'
  clear hv2 hb2'
  go_wp2_with fail
  refine (zzvalues_any a2 n c2 f bin own q w2 hn (unhide HV2) (unhide HF) hb0 hb1 ho0 ho1 hq).mono ?_
  rintro e w3 ⟨he, hb3'⟩
  rw [unhide HS] at he
  simp only [] at he
  subst he
  have HV3 := hide (((unhide HV1).below (unhide HB2)).below hb3')
  have HB3 := hide ((unhide HB1).trans (((unhide HB2).trans (hb3'.mono (unhide HB2).size)).mono (unhide HB1).size))
  clear hb3' HV1 HV2 HB1 HB2
  go_wp2_with fail
  refine (reach_any a1 n c1 f bin own q w3 hn (unhide HV3) (unhide HF) hb0 hb1 (by omega) (by omega) hq).mono ?_
  rintro e w' ⟨rfl, he⟩
  rw [unhide H0] at he
  subst he
  go_wp2_with fail
  refine (reach_any a1 n c1 f bin 1 q w3 hn (unhide HV3) (unhide HF) hb0 hb1 (by omega) (by omega) hq).mono ?_
  rintro e w' ⟨rfl, he⟩
  rw [unhide H1] at he
  subst he
  go_wp2_with fail
  refine (reach_any a1 n c1 f bin 2 q w3 hn (unhide HV3) (unhide HF) hb0 hb1 (by omega) (by omega) hq).mono ?_
  rintro e w' ⟨rfl, he⟩
  rw [unhide H2] at he
  subst he
  go_wp2_with fail
  refine (reach_any a1 n c1 f bin 3 q w3 hn (unhide HV3) (unhide HF) hb0 hb1 (by omega) (by omega) hq).mono ?_
  rintro e w' ⟨rfl, he⟩
  rw [unhide H3] at he
  subst he
  go_wp2_with fail
  go_ret
  exact ⟨by simp, unhide HB3⟩

theorem val_any (a : Option Addr) (n cap : Nat) (f : Nat → Int) (bin own q : Int) (w : World) (hn : n ≤ 1048576) (hv : View w a n f) (hf : ∀ k, k < n → 0 ≤ f k ∧ f k ≤ 255) (hb0 : 0 ≤ bin) (hb1 : bin ≤ 3) (ho0 : 0 ≤ own) (ho1 : own ≤ 3) (hq : 1 ≤ q) :
    Calls Try.prog 5 #[.slice a n cap, .int .u8 bin, .int .u8 own, .int .i64 q] w fun e w' => e = .returned (.bool true) ∧ Below w.heap.size w w' := by
  cases h0 : posB q (cnt f bin 1 n) (cnt f bin 2 n) (cnt f bin 3 n) own
  · cases h1 : posB q (cnt f bin 1 n) (cnt f bin 2 n) (cnt f bin 3 n) 1
    · cases h2 : posB q (cnt f bin 1 n) (cnt f bin 2 n) (cnt f bin 3 n) 2
      · cases h3 : posB q (cnt f bin 1 n) (cnt f bin 2 n) (cnt f bin 3 n) 3
        · exact val_4 a n cap f bin own q w hn hv hf hb0 hb1 ho0 ho1 hq h0 h1 h2 h3
        · exact val_3 a n cap f bin own q w hn hv hf hb0 hb1 ho0 ho1 hq h0 h1 h2 h3
      · exact val_2 a n cap f bin own q w hn hv hf hb0 hb1 ho0 ho1 hq h0 h1 h2
    · exact val_1 a n cap f bin own q w hn hv hf hb0 hb1 ho0 ho1 hq h0 h1
  · exact val_0 a n cap f bin own q w hn hv hf hb0 hb1 ho0 ho1 hq h0

end Go.Proofs.Qxb6601157a
