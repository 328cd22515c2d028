/-
  FnPlainAcceptsExactlyTheGrammar (3): the walk.
-/
import Derived.Test.Qxb6001124aSplit
namespace Go.Proofs.Qxb6001124a
open Go.ChangeShapes Go.WideShapes Go.ChangeAt Go.RowKit Go.PlainAid
set_option linter.unusedVariables false
set_option linter.unusedSimpArgs false

theorem size_head (t : ByteArray) (p : Nat) (h : p ≤ t.size) : (t.extract 0 p).size = p := by simp; omega
theorem size_tail (t : ByteArray) (p : Nat) : (t.extract (p + 1) t.size).size = t.size - (p + 1) := by simp
theorem alldig_empty : AllDig ⟨#[]⟩ := fun k hk => absurd hk (Nat.not_lt_zero k)
theorem alldig_head {t : ByteArray} {p : Nat} (h : p ≤ t.size) : AllDig (t.extract 0 p) ↔ ∀ k, k < p → dg (bt t k) = true := by
  unfold AllDig
  rw [size_head t p h]
  constructor
  · intro H k hk
    have := H k hk
    rw [bt_extract t 0 p k h (by omega), Nat.zero_add] at this
    exact this
  · intro H k hk
    rw [bt_extract t 0 p k h (by omega), Nat.zero_add]
    exact H k hk
theorem alldig_tail {t : ByteArray} {p : Nat} : AllDig (t.extract (p + 1) t.size) ↔ ∀ k, p + 1 ≤ k → k < t.size → dg (bt t k) = true := by
  unfold AllDig
  rw [size_tail t p]
  constructor
  · intro H k hk1 hk2
    have := H (k - (p + 1)) (by omega)
    rw [bt_extract t (p + 1) t.size _ (Nat.le_refl _) (by omega), show p + 1 + (k - (p + 1)) = k from by omega] at this
    exact this
  · intro H k hk
    rw [bt_extract t (p + 1) t.size k (Nat.le_refl _) (by omega)]
    exact H _ (by omega) (by omega)

/-- digits alone: no point. -/
theorem p0_split {g : Nat → Int} {m d p : Nat} (h : P0 g m) (k : Sp g m d p) : False := by
  rcases k with ⟨h1, _⟩ | ⟨p', h1, h2, h3, _⟩
  · omega
  · have := h.2 p' h2
    rw [h3, dg46] at this; cases this
theorem p1_none {g : Nat → Int} {m p : Nat} (h : P1 g m p) (k : ∀ j, j < m → g j ≠ 46) : False := k p (by have := h.2.1; omega) h.2.2.1
theorem p1_split {g : Nat → Int} {m d p q : Nat} (h : P1 g m p) (k : Sp g m d q) : q = p ∧ d = 1 := by
  obtain ⟨a1, a2, a3, a4⟩ := h
  rcases k with ⟨h1, _⟩ | ⟨p', h1, h2, h3, h4, h5, h6, h7, h8⟩
  · omega
  · have hpp : p' = p := by
      by_cases c : p' = p
      · exact c
      · have := a4 p' h2 c
        rw [h3, dg46] at this; cases this
    refine ⟨by omega, ?_⟩
    by_cases c : d = 1
    · exact c
    · obtain ⟨j, b1, b2, b3⟩ := h8 (by omega)
      have := a4 j b1 (by omega)
      rw [b3, dg46] at this; cases this

theorem ret_bool {a b : Bool} (h : a = b) : Ending.returned (.bool a) = .returned (.bool b) := by rw [h]
theorem small_eq {a b c : Int} (h : a - 1 = b + c) : (decide (a - 1 ≤ 18) == decide (b + c ≤ 18)) = true := by rw [h]; simp

/-- Refused, one point, and it stands between: then some other byte is no digit. -/
theorem nop_split {t : ByteArray} {q : Nat} (h : NoP (bt t) t.size) (k : Sp (bt t) t.size 1 q) (h1 : 0 < q) (h2 : q + 1 < t.size) (a1 : AllDig (t.extract 0 q)) (a2 : AllDig (t.extract (q + 1) t.size)) : False := by
  rcases k with ⟨c, _⟩ | ⟨p', c1, c2, c3, c4, c5, c6, c7, c8⟩
  · omega
  · obtain rfl : p' = q := by omega
    refine h.2 p' ⟨h1, h2, c3, fun j hj hne => ?_⟩
    by_cases d : j < p'
    · exact (alldig_head (by omega)).1 a1 j d
    · exact alldig_tail.1 a2 j (by omega) hj
theorem sp_pos {g : Nat → Int} {m d q : Nat} (k : Sp g m d q) : 1 ≤ d ∧ q < m := by
  rcases k with ⟨c, _⟩ | ⟨p', c1, c2, c3, c4, c5, c6, c7, c8⟩ <;> omega

set_option maxHeartbeats 1000000 in
theorem law_any (s : ByteArray) (w : World) (hn : s.size ≤ 1048576) :
    Calls Try.prog 3 #[.string s] w fun e w' => e = .returned (.bool true) ∧ w = w' := by
  have hl := body_le s
  go_enter Try.func3, Try.ntmps3
  go_wp2_with (go_at_call 4; refine (bytes_yes _ _ hn).mono ?_; rintro e w' ⟨rfl, rfl⟩)
  refine (zzplain_any s w hn).mono ?_
  rintro e w' ⟨rfl, h⟩
  generalize ht : body s = t at hl h
  have HT := hide ht
  clear ht
  rcases h with ⟨hp, c, rfl⟩ | ⟨p, hp, c, rfl⟩ | ⟨hp, rfl⟩
  · -- digits alone
    have hm := hp.1
    have HP := hide hp
    clear hp
    go_wp2_with fail
    refine (split_any s w hn).mono ?_
    rintro e w' ⟨rfl, h⟩
    rw [unhide HT] at h
    rcases h with ⟨hno, b, rfl⟩ | ⟨q, d, hsp, b, rfl⟩
    · clear hno
      have hm' : (0 : Int) < (t.size : Int) := by omega
      go_wp2_with fail
      refine (digits_any t w (by omega)).mono ?_
      rintro e w' ⟨rfl, h⟩
      rcases h with ⟨_, rfl⟩ | ⟨hna, rfl⟩
      · go_wp2_with fail
        refine (digits_any ⟨#[]⟩ w (by decide)).mono ?_
        rintro e w' ⟨rfl, h⟩
        rcases h with ⟨_, rfl⟩ | ⟨hna, rfl⟩
        · go_wp2_with fail
          go_ret
          exact ⟨by simp, rfl⟩
        · exact absurd alldig_empty hna
      · exact absurd (unhide HP).2 hna
    · exact absurd hsp (fun k => p0_split (unhide HP) k)
  · -- a point at p
    have hm1 := hp.1
    have hm2 := hp.2.1
    have HP := hide hp
    clear hp
    go_wp2_with fail
    refine (split_any s w hn).mono ?_
    rintro e w' ⟨rfl, h⟩
    rw [unhide HT] at h
    rcases h with ⟨hno, b, rfl⟩ | ⟨q, d, hsp, b, rfl⟩
    · exact absurd hno (fun k => p1_none (unhide HP) k)
    · obtain ⟨rfl, rfl⟩ := p1_split (unhide HP) hsp
      clear hsp
      have hz1 := size_head t q (by omega)
      have hz2 := size_tail t q
      have ha1 := hide ((alldig_head (t := t) (p := q) (by omega)).2 (fun k hk => (unhide HP).2.2.2 k (by omega) (by omega)))
      have ha2 := hide ((alldig_tail (t := t) (p := q)).2 (fun k hk1 hk2 => (unhide HP).2.2.2 k hk2 (by omega)))
      generalize t.extract 0 q = wh at hz1 ha1 ⊢
      generalize t.extract (q + 1) t.size = fr at hz2 ha2 ⊢
      have hz1' : (wh.size : Int) = (q : Int) := by omega
      have hz2' : (fr.size : Int) = (t.size : Int) - 1 - (q : Int) := by omega
      have HZ := hide (And.intro hz1' hz2')
      have l1 : (0 : Int) < (wh.size : Int) := by omega
      have l2 : (0 : Int) < (fr.size : Int) := by omega
      have l3 : wh.size ≤ 1048576 := by omega
      have l4 : fr.size ≤ 1048576 := by omega
      have l5 : wh.size ≤ q := by omega
      have l6 : q ≤ wh.size := by omega
      have l7 : fr.size + (q + 1) ≤ t.size := by omega
      have l8 : t.size ≤ fr.size + (q + 1) := by omega
      clear hz1 hz2 hz1' hz2'
      go_wp2_with fail
      refine (digits_any wh w l3).mono ?_
      rintro e w' ⟨rfl, h⟩
      rcases h with ⟨_, rfl⟩ | ⟨hna, rfl⟩
      · go_wp2_with fail
        refine (digits_any fr w l4).mono ?_
        rintro e w' ⟨rfl, h⟩
        rcases h with ⟨_, rfl⟩ | ⟨hna, rfl⟩
        · go_wp2_with fail
          go_ret
          exact ⟨ret_bool (small_eq (by omega)), rfl⟩
        · exact absurd (unhide ha2) hna
      · exact absurd (unhide ha1) hna
  · -- refused
    have HP := hide hp
    clear hp
    go_wp2_with fail
    refine (split_any s w hn).mono ?_
    rintro e w' ⟨rfl, h⟩
    rw [unhide HT] at h
    rcases h with ⟨hno, b, rfl⟩ | ⟨q, d, hsp, b, rfl⟩
    · by_cases hm : 0 < t.size
      · have hm' : (0 : Int) < (t.size : Int) := by omega
        have hna : Hid (¬ AllDig t) := fun h => (unhide HP).1 ⟨hm, h⟩
        clear hno
        go_wp2_with fail
        refine (digits_any t w (by omega)).mono ?_
        rintro e w' ⟨rfl, h⟩
        rcases h with ⟨hya, rfl⟩ | ⟨_, rfl⟩
        · exact absurd hya (unhide hna)
        · go_wp2_with fail
          go_ret
          exact ⟨rfl, rfl⟩
      · have hm' : decide ((0 : Int) < (t.size : Int)) = false := decide_eq_false (by omega)
        have hm2 : t.size ≤ 0 := by omega
        clear hno
        go_wp2_with fail
        go_ret
        exact ⟨rfl, rfl⟩
    · have hpos := sp_pos hsp
      obtain ⟨hd1, hqm⟩ := hpos
      have hz1 := size_head t q (by omega)
      have hz2 := size_tail t q
      by_cases hd : d = 1
      · subst hd
        have hfin : Hid (0 < q → q + 1 < t.size → AllDig (t.extract 0 q) → AllDig (t.extract (q + 1) t.size) → False) := fun h1 h2 a1 a2 => nop_split (unhide HP) hsp h1 h2 a1 a2
        clear hsp
        generalize t.extract 0 q = wh at hz1 hfin ⊢
        generalize t.extract (q + 1) t.size = fr at hz2 hfin ⊢
        have l3 : wh.size ≤ 1048576 := by omega
        have l4 : fr.size ≤ 1048576 := by omega
        by_cases hq0 : 0 < q
        · have l1 : (0 : Int) < (wh.size : Int) := by omega
          by_cases hq1 : q + 1 < t.size
          · have l2 : (0 : Int) < (fr.size : Int) := by omega
            clear hz1 hz2
            go_wp2_with fail
            refine (digits_any wh w l3).mono ?_
            rintro e w' ⟨rfl, h⟩
            rcases h with ⟨hya, rfl⟩ | ⟨_, rfl⟩
            · have hya' := hide hya
              clear hya
              go_wp2_with fail
              refine (digits_any fr w l4).mono ?_
              rintro e w' ⟨rfl, h⟩
              rcases h with ⟨hyb, rfl⟩ | ⟨_, rfl⟩
              · exact absurd (unhide hfin hq0 hq1 (unhide hya') hyb) (fun h => h)
              · go_wp2_with fail
                go_ret
                exact ⟨rfl, rfl⟩
            · go_wp2_with fail
              go_ret
              exact ⟨rfl, rfl⟩
          · have l2 : decide ((0 : Int) < (fr.size : Int)) = false := decide_eq_false (by omega)
            have l2' : fr.size ≤ 0 := by omega
            clear hz1 hz2
            go_wp2_with fail
            go_ret
            exact ⟨rfl, rfl⟩
        · have l1 : decide ((0 : Int) < (wh.size : Int)) = false := decide_eq_false (by omega)
          have l1' : wh.size ≤ 0 := by omega
          clear hz1 hz2
          go_wp2_with fail
          go_ret
          exact ⟨rfl, rfl⟩
      · have hd2 : decide ((d : Int) ≤ 1) = false := decide_eq_false (by omega)
        have hd3 : (1 : Int) < (d : Int) := by omega
        clear hsp hz1 hz2
        generalize t.extract 0 q = wh
        generalize t.extract (q + 1) t.size = fr
        go_wp2_with fail
        go_ret
        exact ⟨rfl, rfl⟩

theorem law_big (s : ByteArray) (w : World) (hn : 1048576 < s.size) : Calls Try.prog 3 #[.string s] w fun e w' => e = .returned (.bool true) ∧ w = w' := by
  go_enter Try.func3, Try.ntmps3
  go_wp2_with (go_at_call 4; refine (bytes_no _ _ hn).mono ?_; rintro e w' ⟨rfl, rfl⟩)
  go_ret
  exact ⟨rfl, rfl⟩

end Go.Proofs.Qxb6001124a
