/-
  scanInteger (18), ZZscanInteger (8).
-/
import Derived.Test.Qxb6601145aInt1
namespace Go.Proofs.Qxb6601145a
open Go.ChangeShapes Go.WideShapes Go.ChangeAt Go.RowKit
set_option linter.unusedVariables false
set_option linter.unusedSimpArgs false

theorem hide {p : Prop} (h : p) : Hid p := h
theorem unhide {p : Prop} (h : Hid p) : p := h

theorem ihit_same {f : Nat → Int} {i n k j : Nat} (hk : st f i ≤ k) (hkn : k ≤ n) (hall : ∀ m, st f i ≤ m → m < k → dg (f m) = true) (hx : k = n ∨ dg (f k) = false) (h : IHit f i n j) : j = k := by
  obtain ⟨h1, h2, ⟨h3, h4, h5⟩, h6⟩ := h
  rcases Nat.lt_trichotomy j k with c | c | c
  · have := hall j (by omega) c
    rcases h6 with h6 | h6
    · omega
    · rw [h6] at this; cases this
  · exact c
  · have := h5 k hk c
    rcases hx with hx | hx
    · omega
    · rw [hx] at this; cases this
theorem st_ge (f : Nat → Int) (i : Nat) : i ≤ st f i := by unfold st; split <;> omega
theorem ihit_of {f : Nat → Int} {i n k s : Nat} (hs : s = st f i) (hk : s < k) (hkn : k ≤ n) (hall : ∀ m, s ≤ m → m < k → dg (f m) = true) (hx : k = n ∨ dg (f k) = false) (h0 : f s = 48 → k = s + 1) : IHit f i n k := by
  subst hs
  exact ⟨by have := st_ge f i; omega, hkn, ⟨hk, h0, hall⟩, hx⟩
theorem no_ihit {f : Nat → Int} {i n k s : Nat} (hs : s = st f i) (hk : s ≤ k) (hkn : k ≤ n) (hall : ∀ m, s ≤ m → m < k → dg (f m) = true) (hx : k = n ∨ dg (f k) = false) (h0 : k = s ∨ (f s = 48 ∧ s + 1 < k)) (j : Nat) : ¬ IHit f i n j := by
  subst hs
  intro h
  obtain rfl := ihit_same hk hkn hall hx h
  obtain ⟨h1, h2, ⟨h3, h4, h5⟩, h6⟩ := h
  rcases h0 with h0 | ⟨h0, h7⟩
  · omega
  · have := h4 h0; omega

theorem int_out (a : Option Addr) (n cap : Nat) (i : Int) (w : World) (h : (n : Int) ≤ i) :
    Calls Try.prog 18 #[.slice a n cap, .int .i64 i] w fun e w' => w = w' ∧ e = .returned (.tuple #[.slice none 0 0, .int .i64 i, .bool false]) := by
  have hd : decide (i < (n : Int)) = false := by simp; omega
  go_enter Try.func18, Try.ntmps18
  go_wp2_with (go_at_call 21; refine (holds_out a n cap i 45 _ h).mono ?_; rintro e w' ⟨rfl, rfl⟩)
  go_loop [7] (fun t => t = .int .i64 i) (fun _ => 0)
  case atStart => rfl
  case round =>
    subst hrel
    go_wp2
    go_ret3
    exact ⟨rfl, rfl⟩

def IntPost (b off n cap i : Nat) (f : Nat → Int) (w : World) (e : Ending) (w' : World) : Prop :=
  w = w' ∧ ((∃ j : Nat, IHit f i n j ∧ e = .returned (.tuple #[.slice (some ⟨b, off + i, none⟩) (j - i) (cap - i), .int .i64 (j : Int), .bool true])) ∨
       ((∀ j, ¬ IHit f i n j) ∧ e = .returned (.tuple #[.slice none 0 0, .int .i64 i, .bool false])))

set_option maxHeartbeats 2000000 in
theorem int_plain (b off n cap i : Nat) (f : Nat → Int) (w : World) (h : i < n) (hnc : n ≤ cap) (hn : n ≤ 1048576) (hcap : cap ≤ 9223372036854775807) (hf : f i ≠ 45) (hc : ∀ k, k < n → w.cell? ⟨b, off + k, none⟩ = some (.int .u8 (f k))) :
    Calls Try.prog 18 #[.slice (some ⟨b, off, none⟩) n cap, .int .i64 i] w (IntPost b off n cap i f w) := by
  have hs : Hid (i = st f i) := by show i = st f i; simp [st, hf]
  have hfb : (f i == 45) = false := by simpa using hf
  clear hf
  have hci := hc i h
  have H : Hid (∀ k, k < n → w.cell? ⟨b, off + k, none⟩ = some (.int .u8 (f k))) := hc
  clear hc
  go_enter Try.func18, Try.ntmps18
  go_wp2_with (go_at_call 21; refine (holds_in b off n cap i (f i) 45 _ h (by omega) hci).mono ?_; rintro e w' ⟨rfl, rfl⟩)
  go_loop [7] (fun t => ∃ k : Nat, i ≤ k ∧ k ≤ n ∧ t = .int .i64 k ∧ ∀ m, i ≤ m → m < k → dg (f m) = true) (fun t => n - (intOf t).toNat)
  case atStart => exact ⟨i, by omega, by omega, by go_num, fun m h1 h2 => by omega⟩
  case round =>
    obtain ⟨k, hik, hkn, rfl, hall⟩ := hrel
    have HA : Hid (∀ m, i ≤ m → m < k → dg (f m) = true) := hall
    clear hall
    by_cases hgo : k < n ∧ 48 ≤ f k ∧ f k ≤ 57
    · obtain ⟨hlt, hd1, hd2⟩ := hgo
      have hck := H.out k hlt
      have hdk : Hid (dg (f k) = true) := (dg_iff _).2 ⟨hd1, hd2⟩
      go_wp2
      go_round
      case rel => exact ⟨k + 1, by omega, by omega, by go_num, fun m h1 h2 => by rcases Nat.lt_succ_iff_lt_or_eq.1 h2 with h3 | rfl; exact HA.out m h1 h3; exact hdk.out⟩
      case measure => simp [intOf]; omega
    · have hx : k = n ∨ dg (f k) = false := by
        by_cases c : k = n
        · exact .inl c
        · exact .inr ((dg_no _).2 (fun c' => hgo ⟨by omega, c'⟩))
      have hyes : Hid ((i < k ∧ (f i = 48 → k = i + 1)) → IntPost b off n cap i f w (.returned (.tuple #[.slice (some ⟨b, off + i, none⟩) (k - i) (cap - i), .int .i64 (k : Int), .bool true])) w) :=
        fun ⟨h1, h2⟩ => ⟨rfl, .inl ⟨k, ihit_of hs.out h1 hkn HA.out hx h2, rfl⟩⟩
      have hno : Hid ((k = i ∨ (f i = 48 ∧ i + 1 < k)) → IntPost b off n cap i f w (.returned (.tuple #[.slice none 0 0, .int .i64 i, .bool false])) w) :=
        fun h1 => ⟨rfl, .inr ⟨no_ihit hs.out hik hkn HA.out hx h1, rfl⟩⟩
      have hw : (¬ k < n) ∨ (k < n ∧ f k < 48) ∨ (k < n ∧ 57 < f k) := by omega
      have ho : k = i ∨ (i < k ∧ f i ≠ 48) ∨ (f i = 48 ∧ k = i + 1) ∨ (f i = 48 ∧ i + 1 < k) := by omega
      clear hgo hx HA hs
      rcases ho with o | ⟨o1, o2⟩ | ⟨o1, o2⟩ | ⟨o1, o2⟩
      · have hend := hno.out (.inl o)
        have ho1 : k ≤ i := by omega
        have hob : ((k : Int) == (i : Int)) = true := by simp; omega
        have HE := hide hend
        clear hend hyes hno o
        rcases hw with c | ⟨c, c'⟩ | ⟨c, c'⟩
        · first
            | (exfalso; omega)
            | (have hd : decide ((k : Int) < (n : Int)) = false := by simp; omega
               go_wp2
               go_ret3
               exact unhide HE)
        · have hck := H.out k c
          go_wp2
          go_ret3
          exact unhide HE
        · have hck := H.out k c
          go_wp2
          go_ret3
          exact unhide HE
      · have hend := hyes.out ⟨o1, fun c => absurd c o2⟩
        have hob : ((k : Int) == (i : Int)) = false := by simp; omega
        have hcs := H.out i (by omega)
        have hzb : (f i == 48) = false := by simpa using o2
        have HE := hide hend
        clear hend hyes hno o2
        rcases hw with c | ⟨c, c'⟩ | ⟨c, c'⟩
        · first
            | (exfalso; omega)
            | (have hd : decide ((k : Int) < (n : Int)) = false := by simp; omega
               go_wp2
               go_ret3
               exact unhide HE)
        · have hck := H.out k c
          go_wp2
          go_ret3
          exact unhide HE
        · have hck := H.out k c
          go_wp2
          go_ret3
          exact unhide HE
      · have hend := hyes.out ⟨by omega, fun _ => o2⟩
        have ho1 : k ≤ i + 1 := by omega
        have ho2 : i + 1 ≤ k := by omega
        have hob : ((k : Int) == (i : Int)) = false := by simp; omega
        have hcs := H.out i (by omega)
        have hzb : (f i == 48) = true := by simpa using o1
        have HE := hide hend
        clear hend hyes hno o1 o2
        rcases hw with c | ⟨c, c'⟩ | ⟨c, c'⟩
        · first
            | (exfalso; omega)
            | (have hd : decide ((k : Int) < (n : Int)) = false := by simp; omega
               go_wp2
               go_ret3
               exact unhide HE)
        · have hck := H.out k c
          go_wp2
          go_ret3
          exact unhide HE
        · have hck := H.out k c
          go_wp2
          go_ret3
          exact unhide HE
      · have hend := hno.out (.inr ⟨o1, o2⟩)
        have hob : ((k : Int) == (i : Int)) = false := by simp; omega
        have hcs := H.out i (by omega)
        have hzb : (f i == 48) = true := by simpa using o1
        have HE := hide hend
        clear hend hyes hno o1
        rcases hw with c | ⟨c, c'⟩ | ⟨c, c'⟩
        · first
            | (exfalso; omega)
            | (have hd : decide ((k : Int) < (n : Int)) = false := by simp; omega
               go_wp2
               go_ret3
               exact unhide HE)
        · have hck := H.out k c
          go_wp2
          go_ret3
          exact unhide HE
        · have hck := H.out k c
          go_wp2
          go_ret3
          exact unhide HE

set_option maxHeartbeats 2000000 in
theorem int_minus (b off n cap i : Nat) (f : Nat → Int) (w : World) (h : i < n) (hnc : n ≤ cap) (hn : n ≤ 1048576) (hcap : cap ≤ 9223372036854775807) (hf : f i = 45) (hc : ∀ k, k < n → w.cell? ⟨b, off + k, none⟩ = some (.int .u8 (f k))) :
    Calls Try.prog 18 #[.slice (some ⟨b, off, none⟩) n cap, .int .i64 i] w (IntPost b off n cap i f w) := by
  have hs : Hid ((i + 1) = st f i) := by show (i + 1) = st f i; simp [st, hf]
  have hfb : (f i == 45) = true := by simpa using hf
  clear hf
  have hci := hc i h
  have H : Hid (∀ k, k < n → w.cell? ⟨b, off + k, none⟩ = some (.int .u8 (f k))) := hc
  clear hc
  go_enter Try.func18, Try.ntmps18
  go_wp2_with (go_at_call 21; refine (holds_in b off n cap i (f i) 45 _ h (by omega) hci).mono ?_; rintro e w' ⟨rfl, rfl⟩)
  go_loop [7] (fun t => ∃ k : Nat, (i + 1) ≤ k ∧ k ≤ n ∧ t = .int .i64 k ∧ ∀ m, (i + 1) ≤ m → m < k → dg (f m) = true) (fun t => n - (intOf t).toNat)
  case atStart => exact ⟨(i + 1), by omega, by omega, by go_num, fun m h1 h2 => by omega⟩
  case round =>
    obtain ⟨k, hik, hkn, rfl, hall⟩ := hrel
    have HA : Hid (∀ m, (i + 1) ≤ m → m < k → dg (f m) = true) := hall
    clear hall
    by_cases hgo : k < n ∧ 48 ≤ f k ∧ f k ≤ 57
    · obtain ⟨hlt, hd1, hd2⟩ := hgo
      have hck := H.out k hlt
      have hdk : Hid (dg (f k) = true) := (dg_iff _).2 ⟨hd1, hd2⟩
      go_wp2
      go_round
      case rel => exact ⟨k + 1, by omega, by omega, by go_num, fun m h1 h2 => by rcases Nat.lt_succ_iff_lt_or_eq.1 h2 with h3 | rfl; exact HA.out m h1 h3; exact hdk.out⟩
      case measure => simp [intOf]; omega
    · have hx : k = n ∨ dg (f k) = false := by
        by_cases c : k = n
        · exact .inl c
        · exact .inr ((dg_no _).2 (fun c' => hgo ⟨by omega, c'⟩))
      have hyes : Hid (((i + 1) < k ∧ (f (i + 1) = 48 → k = (i + 1) + 1)) → IntPost b off n cap i f w (.returned (.tuple #[.slice (some ⟨b, off + i, none⟩) (k - i) (cap - i), .int .i64 (k : Int), .bool true])) w) :=
        fun ⟨h1, h2⟩ => ⟨rfl, .inl ⟨k, ihit_of hs.out h1 hkn HA.out hx h2, rfl⟩⟩
      have hno : Hid ((k = (i + 1) ∨ (f (i + 1) = 48 ∧ (i + 1) + 1 < k)) → IntPost b off n cap i f w (.returned (.tuple #[.slice none 0 0, .int .i64 i, .bool false])) w) :=
        fun h1 => ⟨rfl, .inr ⟨no_ihit hs.out hik hkn HA.out hx h1, rfl⟩⟩
      have hw : (¬ k < n) ∨ (k < n ∧ f k < 48) ∨ (k < n ∧ 57 < f k) := by omega
      have ho : k = (i + 1) ∨ ((i + 1) < k ∧ f (i + 1) ≠ 48) ∨ (f (i + 1) = 48 ∧ k = (i + 1) + 1) ∨ (f (i + 1) = 48 ∧ (i + 1) + 1 < k) := by omega
      clear hgo hx HA hs
      rcases ho with o | ⟨o1, o2⟩ | ⟨o1, o2⟩ | ⟨o1, o2⟩
      · have hend := hno.out (.inl o)
        have ho1 : k ≤ (i + 1) := by omega
        have hob : ((k : Int) == (i : Int) + 1) = true := by simp; omega
        have HE := hide hend
        clear hend hyes hno o
        rcases hw with c | ⟨c, c'⟩ | ⟨c, c'⟩
        · first
            | (exfalso; omega)
            | (have hd : decide ((k : Int) < (n : Int)) = false := by simp; omega
               go_wp2
               go_ret3
               exact unhide HE)
        · have hck := H.out k c
          go_wp2
          go_ret3
          exact unhide HE
        · have hck := H.out k c
          go_wp2
          go_ret3
          exact unhide HE
      · have hend := hyes.out ⟨o1, fun c => absurd c o2⟩
        have hob : ((k : Int) == (i : Int) + 1) = false := by simp; omega
        have hcs := H.out (i + 1) (by omega)
        have hzb : (f (i + 1) == 48) = false := by simpa using o2
        have HE := hide hend
        clear hend hyes hno o2
        rcases hw with c | ⟨c, c'⟩ | ⟨c, c'⟩
        · first
            | (exfalso; omega)
            | (have hd : decide ((k : Int) < (n : Int)) = false := by simp; omega
               go_wp2
               go_ret3
               exact unhide HE)
        · have hck := H.out k c
          go_wp2
          go_ret3
          exact unhide HE
        · have hck := H.out k c
          go_wp2
          go_ret3
          exact unhide HE
      · have hend := hyes.out ⟨by omega, fun _ => o2⟩
        have ho1 : k ≤ (i + 1) + 1 := by omega
        have ho2 : (i + 1) + 1 ≤ k := by omega
        have hob : ((k : Int) == (i : Int) + 1) = false := by simp; omega
        have hcs := H.out (i + 1) (by omega)
        have hzb : (f (i + 1) == 48) = true := by simpa using o1
        have HE := hide hend
        clear hend hyes hno o1 o2
        rcases hw with c | ⟨c, c'⟩ | ⟨c, c'⟩
        · first
            | (exfalso; omega)
            | (have hd : decide ((k : Int) < (n : Int)) = false := by simp; omega
               go_wp2
               go_ret3
               exact unhide HE)
        · have hck := H.out k c
          go_wp2
          go_ret3
          exact unhide HE
        · have hck := H.out k c
          go_wp2
          go_ret3
          exact unhide HE
      · have hend := hno.out (.inr ⟨o1, o2⟩)
        have hob : ((k : Int) == (i : Int) + 1) = false := by simp; omega
        have hcs := H.out (i + 1) (by omega)
        have hzb : (f (i + 1) == 48) = true := by simpa using o1
        have HE := hide hend
        clear hend hyes hno o1
        rcases hw with c | ⟨c, c'⟩ | ⟨c, c'⟩
        · first
            | (exfalso; omega)
            | (have hd : decide ((k : Int) < (n : Int)) = false := by simp; omega
               go_wp2
               go_ret3
               exact unhide HE)
        · have hck := H.out k c
          go_wp2
          go_ret3
          exact unhide HE
        · have hck := H.out k c
          go_wp2
          go_ret3
          exact unhide HE

theorem int_in (b off n cap i : Nat) (f : Nat → Int) (w : World) (h : i < n) (hnc : n ≤ cap) (hn : n ≤ 1048576) (hcap : cap ≤ 9223372036854775807) (hc : ∀ k, k < n → w.cell? ⟨b, off + k, none⟩ = some (.int .u8 (f k))) :
    Calls Try.prog 18 #[.slice (some ⟨b, off, none⟩) n cap, .int .i64 i] w (IntPost b off n cap i f w) := by
  by_cases hf : f i = 45
  · exact int_minus b off n cap i f w h hnc hn hcap hf hc
  · exact int_plain b off n cap i f w h hnc hn hcap hf hc

theorem zzint_out (a : Option Addr) (n cap : Nat) (i : Int) (w : World) (h : (n : Int) ≤ i) :
    Calls Try.prog 8 #[.slice a n cap, .int .i64 i] w fun e w' => w = w' ∧ e = .returned (.tuple #[.slice none 0 0, .int .i64 i, .bool false]) := by
  go_enter Try.func8, Try.ntmps8
  go_wp2_with (go_at_call 18; refine (int_out a n cap i _ h).mono ?_; rintro e w' ⟨rfl, rfl⟩)
  go_ret3
  exact ⟨rfl, rfl⟩

theorem zzint_in (b off n cap i : Nat) (f : Nat → Int) (w : World) (h : i < n) (hnc : n ≤ cap) (hn : n ≤ 1048576) (hcap : cap ≤ 9223372036854775807) (hc : ∀ k, k < n → w.cell? ⟨b, off + k, none⟩ = some (.int .u8 (f k))) :
    Calls Try.prog 8 #[.slice (some ⟨b, off, none⟩) n cap, .int .i64 i] w (IntPost b off n cap i f w) := by
  have H : Hid (∀ k, k < n → w.cell? ⟨b, off + k, none⟩ = some (.int .u8 (f k))) := hc
  clear hc
  go_enter Try.func8, Try.ntmps8
  go_wp2_with fail
  refine (int_in b off n cap i f _ h hnc hn hcap H.out).mono ?_
  rintro e w' hp
  obtain ⟨rfl, hit⟩ := id hp
  rcases hit with ⟨j, hj, rfl⟩ | ⟨hj, rfl⟩
  · have HJ := hide hp
    clear hp hj
    go_wp2
    go_ret3
    exact unhide HJ
  · have HJ := hide hp
    clear hp hj
    go_wp2
    go_ret3
    exact unhide HJ

end Go.Proofs.Qxb6601145a
