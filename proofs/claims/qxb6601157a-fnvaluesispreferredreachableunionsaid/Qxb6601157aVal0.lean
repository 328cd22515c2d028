/-
  The plain law: bits, counts, unions.
-/
import Derived.Test.Qxb6601157aVal1
namespace Go.Proofs.Qxb6601157a
open Go.RowKit
set_option linter.unusedVariables false
set_option linter.unusedSimpArgs false

/-- x lies within b, as sets of bits: b at most 3. -/
def subB (x b : Int) : Bool := (x == 0) || ((x == 1) && (b == 1 || b == 3)) || ((x == 2) && (b == 2 || b == 3)) || ((x == 3) && (b == 3))
theorem sub_table : ∀ x : Fin 256, ∀ b : Fin 4, (bits BinOp.andNot IntKind.u8 (x.val : Int) (b.val : Int) == 0) = subB (x.val : Int) (b.val : Int) := by decide +kernel
theorem sub_any {x b : Int} (hx0 : 0 ≤ x) (hx1 : x ≤ 255) (hb0 : 0 ≤ b) (hb1 : b ≤ 3) : (bits BinOp.andNot IntKind.u8 x b == 0) = subB x b := by
  have h := sub_table ⟨x.toNat, by omega⟩ ⟨b.toNat, by omega⟩
  simp only [Int.toNat_of_nonneg hx0, Int.toNat_of_nonneg hb0] at h
  exact h
theorem or01 : bits BinOp.or IntKind.u8 0 1 = 1 := by decide +kernel
theorem or02 : bits BinOp.or IntKind.u8 0 2 = 2 := by decide +kernel
theorem or03 : bits BinOp.or IntKind.u8 0 3 = 3 := by decide +kernel
theorem or11 : bits BinOp.or IntKind.u8 1 1 = 1 := by decide +kernel
theorem or12 : bits BinOp.or IntKind.u8 1 2 = 3 := by decide +kernel
theorem or13 : bits BinOp.or IntKind.u8 1 3 = 3 := by decide +kernel
theorem or21 : bits BinOp.or IntKind.u8 2 1 = 3 := by decide +kernel
theorem or22 : bits BinOp.or IntKind.u8 2 2 = 2 := by decide +kernel
theorem or23 : bits BinOp.or IntKind.u8 2 3 = 3 := by decide +kernel
theorem or31 : bits BinOp.or IntKind.u8 3 1 = 3 := by decide +kernel
theorem or32 : bits BinOp.or IntKind.u8 3 2 = 3 := by decide +kernel
theorem or33 : bits BinOp.or IntKind.u8 3 3 = 3 := by decide +kernel

/-- x counts: not empty, within bin. -/
def okB (bin x : Int) : Bool := (x != 0) && subB x bin
theorem ok_cases {bin x : Int} (h : okB bin x = true) : x = 1 ∨ x = 2 ∨ x = 3 := by
  simp [okB, subB] at h
  omega

/-- How many of the first k are the set s, and count. -/
def cnt (f : Nat → Int) (bin s : Int) : Nat → Nat
  | 0 => 0
  | k + 1 => cnt f bin s k + if okB bin (f k) && (f k == s) then 1 else 0
/-- How many of the first k count and lie within c. -/
def tot (f : Nat → Int) (bin c : Int) : Nat → Nat
  | 0 => 0
  | k + 1 => tot f bin c k + if okB bin (f k) && subB (f k) c then 1 else 0
/-- Their union. -/
def un (f : Nat → Int) (bin c : Int) : Nat → Int
  | 0 => 0
  | k + 1 => if okB bin (f k) && subB (f k) c then bits BinOp.or IntKind.u8 (un f bin c k) (f k) else un f bin c k

theorem cnt_no {f : Nat → Int} {bin : Int} {k : Nat} (h : okB bin (f k) = false) (s : Int) : cnt f bin s (k + 1) = cnt f bin s k := by simp [cnt, h]
theorem cnt_yes {f : Nat → Int} {bin x : Int} {k : Nat} (h : okB bin (f k) = true) (hx : f k = x) (s : Int) : cnt f bin s (k + 1) = cnt f bin s k + if x = s then 1 else 0 := by subst hx; simp [cnt, h]
theorem tot_no {f : Nat → Int} {bin c : Int} {k : Nat} (h : (okB bin (f k) && subB (f k) c) = false) : tot f bin c (k + 1) = tot f bin c k := by simp only [tot, h]; simp
theorem tot_yes {f : Nat → Int} {bin c : Int} {k : Nat} (h : (okB bin (f k) && subB (f k) c) = true) : tot f bin c (k + 1) = tot f bin c k + 1 := by simp only [tot, h]; simp
theorem un_no {f : Nat → Int} {bin c : Int} {k : Nat} (h : (okB bin (f k) && subB (f k) c) = false) : un f bin c (k + 1) = un f bin c k := by simp only [un, h]; simp
theorem un_yes {f : Nat → Int} {bin c : Int} {k : Nat} (h : (okB bin (f k) && subB (f k) c) = true) : un f bin c (k + 1) = bits BinOp.or IntKind.u8 (un f bin c k) (f k) := by simp only [un, h]; simp
theorem cnt_le (f : Nat → Int) (bin s : Int) (k : Nat) : cnt f bin s k ≤ k := by
  induction k with
  | zero => simp [cnt]
  | succ k ih => simp only [cnt]; split <;> omega
theorem tot_le (f : Nat → Int) (bin c : Int) (k : Nat) : tot f bin c k ≤ k := by
  induction k with
  | zero => simp [tot]
  | succ k ih => simp only [tot]; split <;> omega

def U3 (a b d : Nat) : Int := if 0 < d ∨ (0 < a ∧ 0 < b) then 3 else if 0 < a then 1 else if 0 < b then 2 else 0

theorem fold0 (f : Nat → Int) (bin : Int) (k : Nat) : tot f bin 0 k = 0 ∧ un f bin 0 k = 0 := by
  induction k with
  | zero => exact ⟨rfl, rfl⟩
  | succ k ih =>
    have h : (okB bin (f k) && subB (f k) 0) = false := by
      cases ho : okB bin (f k)
      · rfl
      · rcases ok_cases ho with e | e | e <;> rw [e] <;> rfl
    rw [tot_no h, un_no h]; exact ih
theorem fold1 (f : Nat → Int) (bin : Int) (k : Nat) : tot f bin 1 k = cnt f bin 1 k ∧ un f bin 1 k = (if 0 < cnt f bin 1 k then 1 else 0) := by
  induction k with
  | zero => exact ⟨rfl, rfl⟩
  | succ k ih =>
    cases ho : okB bin (f k)
    · have h : (okB bin (f k) && subB (f k) 1) = false := by rw [ho]; rfl
      rw [tot_no h, un_no h, cnt_no ho]; exact ih
    · rcases ok_cases ho with e | e | e
      · have h : (okB bin (f k) && subB (f k) 1) = true := by rw [ho, e]; rfl
        rw [tot_yes h, un_yes h, cnt_yes ho e, e, ih.1, ih.2]
        refine ⟨by simp, ?_⟩
        rw [if_pos (show 0 < cnt f bin 1 k + (if (1 : Int) = 1 then 1 else 0) by simp)]
        split
        · exact or11
        · exact or01
      · have h : (okB bin (f k) && subB (f k) 1) = false := by rw [ho, e]; rfl
        rw [tot_no h, un_no h, cnt_yes ho e]; simpa using ih
      · have h : (okB bin (f k) && subB (f k) 1) = false := by rw [ho, e]; rfl
        rw [tot_no h, un_no h, cnt_yes ho e]; simpa using ih
theorem fold2 (f : Nat → Int) (bin : Int) (k : Nat) : tot f bin 2 k = cnt f bin 2 k ∧ un f bin 2 k = (if 0 < cnt f bin 2 k then 2 else 0) := by
  induction k with
  | zero => exact ⟨rfl, rfl⟩
  | succ k ih =>
    cases ho : okB bin (f k)
    · have h : (okB bin (f k) && subB (f k) 2) = false := by rw [ho]; rfl
      rw [tot_no h, un_no h, cnt_no ho]; exact ih
    · rcases ok_cases ho with e | e | e
      · have h : (okB bin (f k) && subB (f k) 2) = false := by rw [ho, e]; rfl
        rw [tot_no h, un_no h, cnt_yes ho e]; simpa using ih
      · have h : (okB bin (f k) && subB (f k) 2) = true := by rw [ho, e]; rfl
        rw [tot_yes h, un_yes h, cnt_yes ho e, e, ih.1, ih.2]
        refine ⟨by simp, ?_⟩
        rw [if_pos (show 0 < cnt f bin 2 k + (if (2 : Int) = 2 then 1 else 0) by simp)]
        split
        · exact or22
        · exact or02
      · have h : (okB bin (f k) && subB (f k) 2) = false := by rw [ho, e]; rfl
        rw [tot_no h, un_no h, cnt_yes ho e]; simpa using ih
theorem U3_1 (a b d : Nat) : bits BinOp.or IntKind.u8 (U3 a b d) 1 = U3 (a + 1) b d := by
  unfold U3
  by_cases h1 : 0 < d <;> by_cases h2 : 0 < a <;> by_cases h3 : 0 < b <;> simp [h1, h2, h3, or01, or11, or21, or31]
theorem U3_2 (a b d : Nat) : bits BinOp.or IntKind.u8 (U3 a b d) 2 = U3 a (b + 1) d := by
  unfold U3
  by_cases h1 : 0 < d <;> by_cases h2 : 0 < a <;> by_cases h3 : 0 < b <;> simp [h1, h2, h3, or02, or12, or22, or32]
theorem U3_3 (a b d : Nat) : bits BinOp.or IntKind.u8 (U3 a b d) 3 = U3 a b (d + 1) := by
  unfold U3
  by_cases h1 : 0 < d <;> by_cases h2 : 0 < a <;> by_cases h3 : 0 < b <;> simp [h1, h2, h3, or03, or13, or23, or33]
theorem fold3 (f : Nat → Int) (bin : Int) (k : Nat) : tot f bin 3 k = cnt f bin 1 k + cnt f bin 2 k + cnt f bin 3 k ∧ un f bin 3 k = U3 (cnt f bin 1 k) (cnt f bin 2 k) (cnt f bin 3 k) := by
  induction k with
  | zero => exact ⟨rfl, rfl⟩
  | succ k ih =>
    cases ho : okB bin (f k)
    · have h : (okB bin (f k) && subB (f k) 3) = false := by rw [ho]; rfl
      rw [tot_no h, un_no h, cnt_no ho, cnt_no ho, cnt_no ho]; exact ih
    · rcases ok_cases ho with e | e | e
      all_goals
        have h : (okB bin (f k) && subB (f k) 3) = true := by rw [ho, e]; rfl
        rw [tot_yes h, un_yes h, cnt_yes ho e, cnt_yes ho e, cnt_yes ho e, e, ih.1, ih.2]
      · refine ⟨by simp; omega, ?_⟩
        rw [U3_1]; simp
      · refine ⟨by simp; omega, ?_⟩
        rw [U3_2]; simp
      · refine ⟨by simp; omega, ?_⟩
        rw [U3_3]; simp

/-- THE PLAIN LAW: the reachable union is what the counts say. -/
theorem reach_law (f : Nat → Int) (bin c q : Int) (n : Nat) (hq : 1 ≤ q) (h0 : 0 ≤ c) (h3 : c ≤ 3) :
    (decide (q ≤ (tot f bin c n : Int)) && (un f bin c n == c)) = posB q (cnt f bin 1 n) (cnt f bin 2 n) (cnt f bin 3 n) c := by
  have hc : c = 0 ∨ c = 1 ∨ c = 2 ∨ c = 3 := by omega
  rcases hc with rfl | rfl | rfl | rfl
  · rw [(fold0 f bin n).1]
    simp [posB]
    omega
  · rw [(fold1 f bin n).1, (fold1 f bin n).2]
    simp only [posB]
    by_cases h : 0 < cnt f bin 1 n
    · simp [h]
    · have e : cnt f bin 1 n = 0 := by omega
      simp [e]; omega
  · rw [(fold2 f bin n).1, (fold2 f bin n).2]
    simp only [posB]
    by_cases h : 0 < cnt f bin 2 n
    · simp [h]
    · have e : cnt f bin 2 n = 0 := by omega
      simp [e]; omega
  · rw [(fold3 f bin n).1, (fold3 f bin n).2]
    generalize cnt f bin 1 n = a
    generalize cnt f bin 2 n = b
    generalize cnt f bin 3 n = d
    have e1 : ((a + b + d : Nat) : Int) = (a : Int) + b + d := by omega
    rw [e1]
    have e2 : (U3 a b d == 3) = (decide (0 < d) || (decide (0 < a) && decide (0 < b))) := by
      unfold U3
      by_cases h1 : 0 < d <;> by_cases h2 : 0 < a <;> by_cases h3 : 0 < b <;> simp [h1, h2, h3]
    rw [e2]
    simp [posB]

end Go.Proofs.Qxb6601157a
