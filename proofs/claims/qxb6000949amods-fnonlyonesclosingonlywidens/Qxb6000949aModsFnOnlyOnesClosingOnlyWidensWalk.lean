/- The walk of 'FnOnlyOnesClosingOnlyWidens'. -/
import Derived.Test.Qxb6000949aModsRows
import Derived.Test.Qxb6000949aModsOnes
import Derived.Test.Qxb6000949aModsOpen
namespace Go.Proofs.Qxb6000949aMods.fnOnlyOnesClosingOnlyWidens
open Go.ChangeShapes Go.WideShapes Go.ChangeAt Go.RowKit
set_option linter.unusedVariables false

set_option maxHeartbeats 400000 in
theorem bytes_yes (a : Option Addr) (n c : Nat) (i : Int) (w : World) (h : n ≤ 1048576) :
    Calls Trym.prog 18 #[.slice a n c, .int .i64 i] w fun e w' => e = .returned (.bool true) ∧ w' = w := by
  go_enter Trym.func18, Trym.ntmps18
  go_wp2
  go_ret
  exact ⟨rfl, rfl⟩
set_option maxHeartbeats 400000 in
theorem bytes_no (a : Option Addr) (n c : Nat) (i : Int) (w : World) (hn : n ≤ maxLen) (h : 1048576 < n) :
    Calls Trym.prog 18 #[.slice a n c, .int .i64 i] w fun e w' => e = .returned (.bool false) ∧ w' = w := by
  unfold maxLen at hn
  go_enter Trym.func18, Trym.ntmps18
  go_wp2
  go_ret
  exact ⟨rfl, rfl⟩

set_option maxHeartbeats 1600000 in
theorem walk_zero (a0 : Option Addr) (n cap0 : Nat) (L : List S3) (w : World) (hL : Syms w a0 n L) (n0 : a0 = none → n = 0 ∧ cap0 = 0) (l0 : n ≤ 32768) :
    Calls Trym.prog 6 #[.slice a0 n cap0, .int .i64 0] w fun e w' => e = .returned (.bool true) ∧ Below w.heap.size w w' := by
  have HL : Hid (L.length = n) := hL.1
  have HW : Hid (∀ s ∈ L, (Lit.int .i32 s.1).wf = true) := hL.2.1
  have HN0 : Hid (a0 = none → n = 0 ∧ cap0 = 0) := n0
  clear n0
  go_enter Trym.func6, Trym.ntmps6
  go_wp2_with fail
  refine (bytes_yes _ _ _ _ _ (by omega)).mono ?_
  rintro e w' ⟨rfl, rfl⟩
  go_wp2_with fail
  refine (clone_any a0 n cap0 L _ hL HN0.out (by omega)).mono ?_
  rintro e w1 ⟨v, rfl, h1, B1⟩
  clear hL
  go_wp2_with fail
  refine (split_any v n n L _ h1 (by omega)).mono ?_
  rintro e w2 ⟨g0, g1, g2, rfl, hc, b2⟩
  have h2 := h1.below b2
  have B2 := B1.trans (b2.mono B1.size)
  clear h1 B1 b2
  go_wp2_with fail
  refine (symbols_any g0 g1 g2 n L _ hc HL.out HW.out (by omega)).mono ?_
  rintro e w3 ⟨rfl, hy, b3⟩
  have h3 := h2.below b3
  have B3 := B2.trans (b3.mono B2.size)
  clear h2 B2 b3 hc
  go_wp2_with fail
  refine (zzones_zero _ n n false _).mono ?_
  rintro e w4 ⟨rfl, b4⟩
  have B4 := B3.trans (b4.mono B3.size)
  clear B3 b4
  go_wp2_with fail
  refine (zzones_zero _ n n true _).mono ?_
  rintro e w5 ⟨rfl, b5⟩
  have B5 := B4.trans (b5.mono B4.size)
  clear B4 b5
  go_wp2_with fail
  go_ret
  exact ⟨rfl, B5⟩

set_option maxHeartbeats 1600000 in
theorem walk_at (a0 : Option Addr) (n cap0 k : Nat) (L : List S3) (s : S3) (w : World) (hL : Syms w a0 n L) (n0 : a0 = none → n = 0 ∧ cap0 = 0) (l0 : n ≤ 32768) (hk : k < n) (hs : L[k]? = some s) :
    Calls Trym.prog 6 #[.slice a0 n cap0, .int .i64 ((k : Int) + 1)] w fun e w' => e = .returned (.bool true) ∧ Below w.heap.size w w' := by
  have HL : Hid (L.length = n) := hL.1
  have HW : Hid (∀ s ∈ L, (Lit.int .i32 s.1).wf = true) := hL.2.1
  have HN0 : Hid (a0 = none → n = 0 ∧ cap0 = 0) := n0
  have HS : Hid (L[k]? = some s) := hs
  clear n0 hs
  have i0 : (0 : Int) ≤ (k : Int) := by omega
  have i2 : (k : Int) < (n : Int) := by omega
  have i3 : ((k : Int) + 1 == 0) = false := by simp; omega
  go_enter Trym.func6, Trym.ntmps6
  go_wp2_with fail
  refine (bytes_yes _ _ _ _ _ (by omega)).mono ?_
  rintro e w' ⟨rfl, rfl⟩
  go_wp2_with fail
  refine (clone_any a0 n cap0 L _ hL HN0.out (by omega)).mono ?_
  rintro e w1 ⟨v, rfl, h1, B1⟩
  clear hL
  go_wp2_with fail
  refine (split_any v n n L _ h1 (by omega)).mono ?_
  rintro e w2 ⟨g0, g1, g2, rfl, hc, b2⟩
  have h2 := h1.below b2
  have B2 := B1.trans (b2.mono B1.size)
  clear h1 B1 b2
  go_wp2_with fail
  refine (symbols_any g0 g1 g2 n L _ hc HL.out HW.out (by omega)).mono ?_
  rintro e w3 ⟨rfl, hy, b3⟩
  have h3 := h2.below b3
  have B3 := B2.trans (b3.mono B2.size)
  clear h2 B2 b3 hc
  go_wp2_with fail
  refine (zzones_at _ n n k L s false _ hy HS.out (by omega)).mono ?_
  rintro e w4 ⟨rfl, b4⟩
  have hy4 := hy.below b4
  have h4 := h3.below b4
  have B4 := B3.trans (b4.mono B3.size)
  clear B3 b4 hy h3
  generalize ho : ones s.2.1 s.2.2 false = o1
  have HO : Hid (ones s.2.1 s.2.2 false = o1) := ho
  clear ho
  go_wp2_with fail
  refine (zzones_at _ n n k L s true _ hy4 HS.out (by omega)).mono ?_
  rintro e w5 ⟨rfl, b5⟩
  have h5 := h4.below b5
  have B5 := B4.trans (b5.mono B4.size)
  clear B4 b5 hy4 h4
  generalize hp : ones s.2.1 s.2.2 true = o2
  have HP : Hid (ones s.2.1 s.2.2 true = o2) := hp
  clear hp
  obtain ⟨_, _, h0 | ⟨b, off, rfl, hb, hc⟩⟩ := h5
  · omega
  obtain ⟨_, q1, _⟩ := hc k s HS.out
  clear hc
  obtain ⟨sc, sk, sv⟩ := s
  simp only at q1 HO HP
  cases o1 with
  | true =>
    cases o2 with
    | true =>
      go_wp2_with fail
      go_ret
      exact ⟨rfl, B5⟩
    | false =>
      exfalso
      have h1 := HO.out
      have h2 := HP.out
      simp [ones] at h1 h2
      rcases h1 with h1 | h1
      · exact h2.1.1 h1.1 h1.2
      · exact h2.1.2 h1.1 h1.2
  | false =>
    cases o2 with
    | true =>
      have hk2 : sk = 2 := by
        have h1 := HO.out
        have h2 := HP.out
        simp [ones] at h1 h2
        rcases h2 with (h2 | h2) | h2
        · exact absurd h2.2 (h1.1 h2.1)
        · exact absurd h2.2 (h1.2 h2.1)
        · exact h2
      subst hk2
      go_wp2_with fail
      go_ret
      exact ⟨rfl, B5⟩
    | false =>
      go_wp2_with fail
      go_ret
      exact ⟨rfl, B5⟩

theorem walk (a0 : Option Addr) (len0 cap0 : Nat) (L : List S3) (a1 : Int) (w : World) (w0 : IsSyms w a0 len0 cap0 L) (w1 : (Lit.int .i64 a1).wf = true) :
    Calls Trym.prog 6 #[.slice a0 len0 cap0, .int .i64 a1] w fun e w' => e = .returned (.bool true) ∧ Below w.heap.size w w' := by
  obtain ⟨hL, n0, m0⟩ := w0
  obtain ⟨x1, x2⟩ := bounds_i64 w1
  clear w1
  by_cases hs : 1048576 < len0
  · clear hL n0
    go_enter Trym.func6, Trym.ntmps6
    go_wp2_with fail
    refine (bytes_no _ _ _ _ _ m0 hs).mono ?_
    rintro e w' ⟨rfl, rfl⟩
    go_wp2_with fail
    go_ret
    exact ⟨rfl, Below.refl _ _⟩
  by_cases h0 : 32768 < len0
  · clear hL n0
    go_enter Trym.func6, Trym.ntmps6
    go_wp2_with fail
    refine (bytes_yes _ _ _ _ _ (by omega)).mono ?_
    rintro e w' ⟨rfl, rfl⟩
    go_wp2_with fail
    go_ret
    exact ⟨rfl, Below.refl _ _⟩
  by_cases h1 : a1 < 0
  · clear hL n0
    go_enter Trym.func6, Trym.ntmps6
    go_wp2_with fail
    refine (bytes_yes _ _ _ _ _ (by omega)).mono ?_
    rintro e w' ⟨rfl, rfl⟩
    go_wp2_with fail
    go_ret
    exact ⟨rfl, Below.refl _ _⟩
  by_cases h2 : (len0 : Int) < a1
  · clear hL n0
    go_enter Trym.func6, Trym.ntmps6
    go_wp2_with fail
    refine (bytes_yes _ _ _ _ _ (by omega)).mono ?_
    rintro e w' ⟨rfl, rfl⟩
    go_wp2_with fail
    go_ret
    exact ⟨rfl, Below.refl _ _⟩
  by_cases h3 : a1 = 0
  · subst h3
    exact walk_zero a0 len0 cap0 L w hL n0 (by omega)
  · obtain ⟨k, rfl⟩ : ∃ k : Nat, a1 = (k : Int) + 1 := ⟨(a1 - 1).toNat, by omega⟩
    have hk : k < len0 := by omega
    exact walk_at a0 len0 cap0 k L _ w hL n0 (by omega) hk (List.getElem?_eq_getElem (by rw [hL.1]; exact hk))
end Go.Proofs.Qxb6000949aMods.fnOnlyOnesClosingOnlyWidens
