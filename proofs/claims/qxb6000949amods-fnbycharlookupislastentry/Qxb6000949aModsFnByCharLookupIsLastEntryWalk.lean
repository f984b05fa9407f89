/- The walk of 'FnByCharLookupIsLastEntry'. -/
import Derived.Test.Qxb6000949aModsRows
import Derived.Test.Qxb6000949aModsLook
import Derived.Test.Qxb6000949aModsOpen
namespace Go.Proofs.Qxb6000949aMods.fnByCharLookupIsLastEntry
open Go.ChangeShapes Go.WideShapes Go.ChangeAt Go.RowKit
set_option linter.unusedVariables false

set_option maxHeartbeats 400000 in
theorem bytes_yes (a : Option Addr) (n c : Nat) (i : Int) (w : World) (h : n ≤ 1048576) :
    Calls Trym.prog 8 #[.slice a n c, .int .i32 i] w fun e w' => e = .returned (.bool true) ∧ w' = w := by
  go_enter Trym.func8, Trym.ntmps8
  go_wp2
  go_ret
  exact ⟨rfl, rfl⟩
set_option maxHeartbeats 400000 in
theorem bytes_no (a : Option Addr) (n c : Nat) (i : Int) (w : World) (hn : n ≤ maxLen) (h : 1048576 < n) :
    Calls Trym.prog 8 #[.slice a n c, .int .i32 i] w fun e w' => e = .returned (.bool false) ∧ w' = w := by
  unfold maxLen at hn
  go_enter Trym.func8, Trym.ntmps8
  go_wp2
  go_ret
  exact ⟨rfl, rfl⟩
set_option maxHeartbeats 400000 in
theorem same_yes (sc sk sv : Int) (w : World) :
    Calls Trym.prog 15 #[.int .i32 sc, .int .i64 sk, .int .i64 sv, .agg #[.int .i32 sc, .int .i64 sk, .int .i64 sv]] w fun e w' => e = .returned (.bool true) ∧ Below w.heap.size w w' := by
  go_enter Trym.func15, Trym.ntmps15
  go_wp2
  go_ret
  exact ⟨rfl, (Below.refl _ _).alloc (Nat.le_refl _) _⟩
theorem found_of {L : List S3} {c : Int} {s : S3} (h : lastOf L c = some s) : found L c = s := by rw [found, h]; rfl

set_option maxHeartbeats 3200000 in
theorem walk_in (a0 : Option Addr) (n cap0 : Nat) (L : List S3) (pr : Int) (w : World) (hL : Syms w a0 n L) (n0 : a0 = none → n = 0 ∧ cap0 = 0) (l0 : n ≤ 4096) (hpr : (Lit.int .i32 pr).wf = true) :
    Calls Trym.prog 3 #[.slice a0 n cap0, .int .i32 pr] w fun e w' => e = .returned (.bool true) ∧ Below w.heap.size w w' := by
  have HL : Hid (L.length = n) := hL.1
  have HW : Hid (∀ s ∈ L, (Lit.int .i32 s.1).wf = true) := hL.2.1
  have HN0 : Hid (a0 = none → n = 0 ∧ cap0 = 0) := n0
  have HP : Hid ((Lit.int .i32 pr).wf = true) := hpr
  clear n0 hpr
  go_enter Trym.func3, Trym.ntmps3
  go_wp2_with fail
  refine (bytes_yes _ _ _ _ _ (by omega)).mono ?_
  rintro e w' ⟨rfl, rfl⟩
  go_wp2_with fail
  refine (clone_any a0 n cap0 L _ hL HN0.out (by omega)).mono ?_
  rintro e w1 ⟨v, rfl, h1, B1⟩
  clear hL
  go_wp2_with fail
  refine (split_any v n n L _ h1 (by omega)).mono ?_
  rintro e w2 ⟨g0, g1, g2, rfl, hc, b2⟩
  have h2 := h1.below b2
  have B2 := B1.trans (b2.mono B1.size)
  clear h1 B1 b2
  go_wp2_with fail
  refine (symbols_any g0 g1 g2 n L _ hc HL.out HW.out (by omega)).mono ?_
  rintro e w3 ⟨rfl, hy, b3⟩
  have h3 := h2.below b3
  have B3 := B2.trans (b3.mono B2.size)
  clear h2 B2 b3 hc
  go_wp2_with fail
  refine (zzByChar_any _ n n L _ hy (by omega)).mono ?_
  rintro e W ⟨rfl, ho, b4⟩
  have hS := h3.below b4
  have BW := B3.trans (b4.mono B3.size)
  clear h3 B3 b4 hy
  generalize w3.heap.size = mb at *
  go_wp2_with fail
  have HSY : Hid (Syms W v n L) := hS
  have HO : Hid (W.ownsMap Trym.prog 21 symElem mb n (dOf L)) := ho
  clear hS ho
  go_loopw [10] (fun i wr => ∃ k : Nat, k ≤ n ∧ i = .int .i64 k ∧ Below W.heap.size W wr) (fun i _ => n - (intOf i).toNat)
  case atStart => exact ⟨0, Nat.zero_le _, rfl, Below.refl _ _⟩
  case round =>
    obtain ⟨k, hk, rfl, hbel⟩ := hrel
    by_cases hlt : k < n
    · obtain ⟨b, off, rfl, hb, hc⟩ : ∃ b off, v = some (⟨b, off, none⟩ : Addr) ∧ b < W.heap.size ∧ ∀ t s, L[t]? = some s →
          W.cell? ⟨b, off + t * 3, none⟩ = some (.int .i32 s.1) ∧ W.cell? ⟨b, off + t * 3 + 1, none⟩ = some (.int .i64 s.2.1) ∧ W.cell? ⟨b, off + t * 3 + 2, none⟩ = some (.int .i64 s.2.2) := by
        rcases HSY.out.2.2 with h | h
        · omega
        · exact h
      have HC : Hid (∀ t s, L[t]? = some s → W.cell? ⟨b, off + t * 3, none⟩ = some (.int .i32 s.1) ∧ W.cell? ⟨b, off + t * 3 + 1, none⟩ = some (.int .i64 s.2.1) ∧ W.cell? ⟨b, off + t * 3 + 2, none⟩ = some (.int .i64 s.2.2)) := hc
      obtain ⟨⟨sc, sk, sv⟩, hs⟩ : ∃ s, L[k]? = some s := ⟨_, List.getElem?_eq_getElem (by rw [HL.out]; exact hlt)⟩
      have q0 : wr.cell? ⟨b, off + k * 3, none⟩ = some (.int .i32 sc) := (hbel.cell (by exact hb)).trans (HC.out k _ hs).1
      have HM : Hid ((sc, sk, sv) ∈ L) := List.mem_of_getElem? hs
      have HWF : Hid ((Lit.int .i32 sc).wf = true) := HW.out _ HM.out
      clear hs hc
      have i0 : (0 : Int) ≤ (k : Int) := by omega
      have i2 : (k : Int) < (n : Int) := by omega
      go_wp2_with fail
      refine (lastWith_any _ n n L sc _ (HSY.out.below hbel) (by omega)).mono ?_
      rintro e wx ⟨rfl, hp⟩
      rcases hp with ⟨hnone, _⟩ | ⟨j, ⟨tc, tk, tv⟩, hj, hlast, rfl⟩
      · exfalso
        have := lastOf_isSome L sc
        rw [hnone] at this
        simp at this
        exact this _ _ _ HM.out rfl
      have HLAST : Hid (lastOf L sc = some (tc, tk, tv)) := hlast
      have hjn : j < n := by
        rcases Nat.lt_or_ge j L.length with h1 | h1
        · rw [HL.out] at h1; exact h1
        · rw [List.getElem?_eq_none h1] at hj; cases hj
      have r0 : wx.cell? ⟨b, off + j * 3, none⟩ = some (.int .i32 tc) := (hbel.cell (by exact hb)).trans (HC.out j _ hj).1
      have r1 : wx.cell? ⟨b, off + j * 3 + 1, none⟩ = some (.int .i64 tk) := (hbel.cell (by exact hb)).trans (HC.out j _ hj).2.1
      have r2 : wx.cell? ⟨b, off + j * 3 + 2, none⟩ = some (.int .i64 tv) := (hbel.cell (by exact hb)).trans (HC.out j _ hj).2.2
      have hbx : b < wx.heap.size := Nat.lt_of_lt_of_le hb hbel.size
      clear hj hlast
      have j0 : (0 : Int) ≤ (j : Int) := by omega
      have j2 : (j : Int) < (n : Int) := by omega
      go_wp2_with fail
      refine (lookup_any mb n L sc _ (ownsMap_below HO.out hbel) HWF.out).mono ?_
      rintro e wy ⟨rfl, by1⟩
      rw [found_of HLAST.out, HLAST.out]
      have s0 := (by1.cell (p := ⟨b, off + j * 3, none⟩) hbx).trans r0
      have s1 := (by1.cell (p := ⟨b, off + j * 3 + 1, none⟩) hbx).trans r1
      have s2 := (by1.cell (p := ⟨b, off + j * 3 + 2, none⟩) hbx).trans r2
      have hby := hbel.trans (by1.mono hbel.size)
      clear r0 r1 r2 q0 by1
      go_wp2_with fail
      refine (same_yes tc tk tv _).mono ?_
      rintro e wz ⟨rfl, bz⟩
      have hbz := hby.trans (bz.mono hby.size)
      clear bz s0 s1 s2
      go_wp2_with fail
      go_roundw
      case rel => exact ⟨k + 1, by omega, by go_num, hbz⟩
      case measure => simp [intOf]; omega
    · go_wp2_with fail
      refine (lastWith_any v n n L pr _ (HSY.out.below hbel) (by omega)).mono ?_
      rintro e wx ⟨rfl, hp⟩
      rcases hp with ⟨hnone, rfl⟩ | ⟨j, s, hj, hlast, rfl⟩
      · have HNN : Hid (lastOf L pr = none) := hnone
        clear hnone
        go_wp2_with fail
        refine (lookup_any mb n L pr _ (ownsMap_below HO.out hbel) HP.out).mono ?_
        rintro e wy ⟨rfl, by1⟩
        rw [HNN.out]
        have hby := hbel.trans (by1.mono hbel.size)
        go_wp2_with fail
        go_ret
        exact ⟨ret_bool (by simp), BW.trans (hby.mono BW.size)⟩
      · have HNN : Hid (lastOf L pr = some s) := hlast
        clear hlast hj
        go_wp2_with fail
        refine (lookup_any mb n L pr _ (ownsMap_below HO.out hbel) HP.out).mono ?_
        rintro e wy ⟨rfl, by1⟩
        rw [HNN.out]
        have hby := hbel.trans (by1.mono hbel.size)
        go_wp2_with fail
        go_ret
        exact ⟨ret_bool (by simp), BW.trans (hby.mono BW.size)⟩

theorem walk (a0 : Option Addr) (len0 cap0 : Nat) (L : List S3) (a1 : Int) (w : World) (w0 : IsSyms w a0 len0 cap0 L) (w1 : (Lit.int .i32 a1).wf = true) :
    Calls Trym.prog 3 #[.slice a0 len0 cap0, .int .i32 a1] w fun e w' => e = .returned (.bool true) ∧ Below w.heap.size w w' := by
  obtain ⟨hL, n0, m0⟩ := w0
  by_cases hs : 1048576 < len0
  · clear hL n0 w1
    go_enter Trym.func3, Trym.ntmps3
    go_wp2_with fail
    refine (bytes_no _ _ _ _ _ m0 hs).mono ?_
    rintro e w' ⟨rfl, rfl⟩
    go_wp2_with fail
    go_ret
    exact ⟨rfl, Below.refl _ _⟩
  by_cases h0 : 4096 < len0
  · clear hL n0 w1
    go_enter Trym.func3, Trym.ntmps3
    go_wp2_with fail
    refine (bytes_yes _ _ _ _ _ (by omega)).mono ?_
    rintro e w' ⟨rfl, rfl⟩
    go_wp2_with fail
    go_ret
    exact ⟨rfl, Below.refl _ _⟩
  · exact walk_in a0 len0 cap0 L a1 w hL n0 (by omega) w1
end Go.Proofs.Qxb6000949aMods.fnByCharLookupIsLastEntry
