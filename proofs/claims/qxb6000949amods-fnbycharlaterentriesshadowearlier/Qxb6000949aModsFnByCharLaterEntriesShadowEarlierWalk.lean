/- The walk of 'FnByCharLaterEntriesShadowEarlier'. -/
import Derived.Test.Qxb6000949aModsRows
import Derived.Test.Qxb6000949aModsJoin
import Derived.Test.Qxb6000949aModsOpen
namespace Go.Proofs.Qxb6000949aMods.fnByCharLaterEntriesShadowEarlier
open Go.ChangeShapes Go.WideShapes Go.ChangeAt Go.RowKit
set_option linter.unusedVariables false

set_option maxHeartbeats 400000 in
theorem bytes_yes (a b : Option Addr) (n m c d : Nat) (w : World) (h : n + m ≤ 1048576) :
    Calls Trym.prog 17 #[.slice a n c, .slice b m d] w fun e w' => e = .returned (.bool true) ∧ w' = w := by
  go_enter Trym.func17, Trym.ntmps17
  go_wp2
  go_ret
  exact ⟨rfl, rfl⟩

set_option maxHeartbeats 400000 in
theorem bytes_no (a b : Option Addr) (n m c d : Nat) (w : World) (hn : n ≤ maxLen) (hm : m ≤ maxLen) (h : 1048576 < n + m) :
    Calls Trym.prog 17 #[.slice a n c, .slice b m d] w fun e w' => e = .returned (.bool false) ∧ w' = w := by
  unfold maxLen at hn hm
  by_cases h1 : 1048576 < n
  · go_enter Trym.func17, Trym.ntmps17
    go_wp2
    go_ret
    exact ⟨rfl, rfl⟩
  · by_cases h2 : 1048576 < m
    · go_enter Trym.func17, Trym.ntmps17
      go_wp2
      go_ret
      exact ⟨rfl, rfl⟩
    · go_enter Trym.func17, Trym.ntmps17
      go_wp2
      go_ret
      exact ⟨rfl, rfl⟩
theorem found_of {L : List S3} {c : Int} {s : S3} (h : lastOf L c = some s) : found L c = s := by rw [found, h]; rfl
theorem get_left {A B : List S3} {k : Nat} {s : S3} (h : A[k]? = some s) : (A ++ B)[k]? = some s := by
  rw [List.getElem?_append_left]
  · exact h
  · rcases Nat.lt_or_ge k A.length with h1 | h1
    · exact h1
    · rw [List.getElem?_eq_none h1] at h; cases h
theorem get_right {A B : List S3} {k n : Nat} {s : S3} (hn : A.length = n) (h : B[k]? = some s) : (A ++ B)[n + k]? = some s := by
  rw [List.getElem?_append_right (by omega), show n + k - A.length = k from by omega]; exact h

set_option maxRecDepth 100000 in
set_option maxHeartbeats 2000000 in
theorem walk_in (a0 : Option Addr) (la cap0 : Nat) (A : List S3) (a1 : Option Addr) (lb cap1 : Nat) (B : List S3) (w : World) (hA : Syms w a0 la A) (hB : Syms w a1 lb B)
    (n0 : a0 = none → la = 0 ∧ cap0 = 0) (n1 : a1 = none → lb = 0 ∧ cap1 = 0) (l0 : la ≤ 4096) (l1 : lb ≤ 4096) :
    Calls Trym.prog 5 #[.slice a0 la cap0, .slice a1 lb cap1] w fun e w' => e = .returned (.bool true) ∧ Below w.heap.size w w' := by
  obtain ⟨i0, hi, hz0, hz1, hz2⟩ := info_parts Trym.info37
  have HLA : Hid (A.length = la) := hA.1
  have HLB : Hid (B.length = lb) := hB.1
  have HLC : Hid ((A ++ B).length = la + lb) := by show (A ++ B).length = la + lb; rw [List.length_append, HLA.out, HLB.out]
  have HWA : Hid (∀ s ∈ A, (Lit.int .i32 s.1).wf = true) := hA.2.1
  have HWB : Hid (∀ s ∈ B, (Lit.int .i32 s.1).wf = true) := hB.2.1
  have HWC : Hid (∀ s ∈ A ++ B, (Lit.int .i32 s.1).wf = true) := fun s hs => by
    rcases List.mem_append.1 hs with h | h
    · exact HWA.out s h
    · exact HWB.out s h
  have HN0 : Hid (a0 = none → la = 0 ∧ cap0 = 0) := n0
  have HN1 : Hid (a1 = none → lb = 0 ∧ cap1 = 0) := n1
  clear n0 n1
  go_enter Trym.func5, Trym.ntmps5
  go_wp2_with fail
  refine (bytes_yes _ _ _ _ _ _ _ (by omega)).mono ?_
  rintro e w' ⟨rfl, rfl⟩
  go_wp2_with fail
  refine (clone_any a0 la cap0 A _ hA HN0.out (by omega)).mono ?_
  rintro e w1 ⟨v0, rfl, hA1, B1⟩
  have hB1 := hB.below B1
  clear hA hB
  go_wp2_with fail
  refine (clone_any a1 lb cap1 B _ hB1 HN1.out (by omega)).mono ?_
  rintro e w2 ⟨v1, rfl, hB2, b2⟩
  have hA2 := hA1.below b2
  have B2 := B1.trans (b2.mono B1.size)
  clear hA1 hB1 B1 b2
  have HA2 : Hid (Syms w2 v0 la A) := hA2
  have HB2 : Hid (Syms w2 v1 lb B) := hB2
  clear hA2 hB2
  go_wp2_with (at_make; refine wpList_make_full _ rfl _ _ 22 rfl w2.heap.size 37 i0 (.agg #[.int .i32 0, .int .i64 0, .int .i64 0]) 3 Trym.underlying22 hi hz0 hz1 _ _ _ _ (la + lb) rfl rfl (by omega) (by omega) ?b2 ?b3 (Nat.le_refl _) ?_)
  case b2 => rw [hz2]; omega
  case b3 => unfold maxLen; omega
  intro w3 hown0 hgrow0
  have hown : Hid (w3.ownsRow w2.heap.size 37 3 (.slice (some ⟨w2.heap.size, 0, none⟩) (la + lb) (la + lb)) (la + lb) (cells3 (half (A ++ B) 0))) := by
    rw [half_zero, HLC.out, ← made3]; exact hown0
  clear hown0
  have hbel0 : Below w2.heap.size w2 w3 := (Below.refl _ _).grown hgrow0 (Nat.le_refl _) (fun k h => by cases h)
  clear hgrow0
  go_wp2_with fail
  go_loopw [6] (fun i wr => ∃ k : Nat, k ≤ la ∧ i = .int .i64 k ∧ Hid (wr.ownsRow w2.heap.size 37 3 (.slice (some ⟨w2.heap.size, 0, none⟩) (la + lb) (la + lb)) (la + lb) (cells3 (half (A ++ B) k))) ∧ Below w2.heap.size w2 wr) (fun i _ => la - (intOf i).toNat)
  case atStart => exact ⟨0, Nat.zero_le _, rfl, hown, hbel0⟩
  case round =>
    clear hown hbel0
    obtain ⟨k, hk, rfl, HO, hbel⟩ := hrel
    by_cases hlt : k < la
    · obtain ⟨b, off, rfl, hb, hc⟩ : ∃ b off, v0 = some (⟨b, off, none⟩ : Addr) ∧ b < w2.heap.size ∧ ∀ t s, A[t]? = some s → w2.cell? ⟨b, off + t * 3, none⟩ = some (.int .i32 s.1) ∧ w2.cell? ⟨b, off + t * 3 + 1, none⟩ = some (.int .i64 s.2.1) ∧ w2.cell? ⟨b, off + t * 3 + 2, none⟩ = some (.int .i64 s.2.2) := by
        rcases HA2.out.2.2 with h | h
        · omega
        · exact h
      obtain ⟨⟨sc, sk, sv⟩, hs⟩ : ∃ s, A[k]? = some s := ⟨_, List.getElem?_eq_getElem (by rw [HLA.out]; exact hlt)⟩
      have hcs := hc k _ hs
      have g0 : wr.cell? ⟨b, off + k * 3, none⟩ = some (.int .i32 sc) := (hbel.cell (by exact hb)).trans hcs.1
      have g1 : wr.cell? ⟨b, off + k * 3 + 1, none⟩ = some (.int .i64 sk) := (hbel.cell (by exact hb)).trans hcs.2.1
      have g2 : wr.cell? ⟨b, off + k * 3 + 2, none⟩ = some (.int .i64 sv) := (hbel.cell (by exact hb)).trans hcs.2.2
      clear hcs hc
      have HS : Hid ((A ++ B)[k]? = some (sc, sk, sv)) := get_left hs
      clear hs
      have f0 : wr.frozen? ⟨w2.heap.size, k * 3, none⟩ = false := HO.out.frozenAt _
      have f1 : wr.frozen? ⟨w2.heap.size, k * 3 + 1, none⟩ = false := HO.out.frozenAt _
      have f2 : wr.frozen? ⟨w2.heap.size, k * 3 + 2, none⟩ = false := HO.out.frozenAt _
      obtain ⟨u0, d0⟩ := own_cell HO.out (show k * 3 < (la + lb) * 3 by omega)
      obtain ⟨u1, d1⟩ := own_cell HO.out (show k * 3 + 1 < (la + lb) * 3 by omega)
      obtain ⟨u2, d2⟩ := own_cell HO.out (show k * 3 + 2 < (la + lb) * 3 by omega)
      have i0 : (0 : Int) ≤ (k : Int) := by omega
      have i2 : (k : Int) < (la : Int) := by omega
      have i3 : (k : Int) < (la : Int) + (lb : Int) := by omega
      have hnew : Hid ((((wr.setCell ⟨w2.heap.size, k * 3, none⟩ (.int .i32 sc)).setCell ⟨w2.heap.size, k * 3 + 1, none⟩ (.int .i64 sk)).setCell ⟨w2.heap.size, k * 3 + 2, none⟩ (.int .i64 sv)).ownsRow w2.heap.size 37 3 (.slice (some ⟨w2.heap.size, 0, none⟩) (la + lb) (la + lb)) (la + lb) (cells3 (half (A ++ B) (k + 1)))) := by
        rw [← half_set (A ++ B) k _ HS.out]; exact own_set3 HO.out k (sc, sk, sv)
      have hbel1 : Below w2.heap.size w2 (((wr.setCell ⟨w2.heap.size, k * 3, none⟩ (.int .i32 sc)).setCell ⟨w2.heap.size, k * 3 + 1, none⟩ (.int .i64 sk)).setCell ⟨w2.heap.size, k * 3 + 2, none⟩ (.int .i64 sv)) :=
        ((hbel.setCell (by simp) _).setCell (by simp) _).setCell (by simp) _
      go_wp2_with fail
      go_roundw
      case rel => exact ⟨k + 1, by omega, by go_num, hnew.out, hbel1⟩
      case measure => simp [intOf]; omega
    · have e : la = k := by omega
      subst e
      clear hlt hk
      go_wp2_with fail
      go_loopw [7] (fun i wx => ∃ j : Nat, j ≤ lb ∧ i = .int .i64 j ∧ Hid (wx.ownsRow w2.heap.size 37 3 (.slice (some ⟨w2.heap.size, 0, none⟩) (la + lb) (la + lb)) (la + lb) (cells3 (half (A ++ B) (la + j)))) ∧ Below w2.heap.size w2 wx) (fun i _ => lb - (intOf i).toNat)
      case atStart => exact ⟨0, Nat.zero_le _, rfl, HO, hbel⟩
      case round =>
        clear HO hbel
        obtain ⟨j, hj, rfl, HO, hbel⟩ := hrel
        by_cases hlt : j < lb
        · obtain ⟨b, off, rfl, hb, hc⟩ : ∃ b off, v1 = some (⟨b, off, none⟩ : Addr) ∧ b < w2.heap.size ∧ ∀ t s, B[t]? = some s → w2.cell? ⟨b, off + t * 3, none⟩ = some (.int .i32 s.1) ∧ w2.cell? ⟨b, off + t * 3 + 1, none⟩ = some (.int .i64 s.2.1) ∧ w2.cell? ⟨b, off + t * 3 + 2, none⟩ = some (.int .i64 s.2.2) := by
            rcases HB2.out.2.2 with h | h
            · omega
            · exact h
          obtain ⟨⟨sc, sk, sv⟩, hs⟩ : ∃ s, B[j]? = some s := ⟨_, List.getElem?_eq_getElem (by rw [HLB.out]; exact hlt)⟩
          have hcs := hc j _ hs
          have g0 : wr.cell? ⟨b, off + j * 3, none⟩ = some (.int .i32 sc) := (hbel.cell (by exact hb)).trans hcs.1
          have g1 : wr.cell? ⟨b, off + j * 3 + 1, none⟩ = some (.int .i64 sk) := (hbel.cell (by exact hb)).trans hcs.2.1
          have g2 : wr.cell? ⟨b, off + j * 3 + 2, none⟩ = some (.int .i64 sv) := (hbel.cell (by exact hb)).trans hcs.2.2
          clear hcs hc
          have HS : Hid ((A ++ B)[la + j]? = some (sc, sk, sv)) := get_right HLA.out hs
          clear hs
          have f0 : wr.frozen? ⟨w2.heap.size, (la + j) * 3, none⟩ = false := HO.out.frozenAt _
          have f1 : wr.frozen? ⟨w2.heap.size, (la + j) * 3 + 1, none⟩ = false := HO.out.frozenAt _
          have f2 : wr.frozen? ⟨w2.heap.size, (la + j) * 3 + 2, none⟩ = false := HO.out.frozenAt _
          obtain ⟨u0, d0⟩ := own_cell HO.out (show (la + j) * 3 < (la + lb) * 3 by omega)
          obtain ⟨u1, d1⟩ := own_cell HO.out (show (la + j) * 3 + 1 < (la + lb) * 3 by omega)
          obtain ⟨u2, d2⟩ := own_cell HO.out (show (la + j) * 3 + 2 < (la + lb) * 3 by omega)
          have i0 : (0 : Int) ≤ (j : Int) := by omega
          have i2 : (j : Int) < (lb : Int) := by omega
          have i3 : (la : Int) + (j : Int) < (la : Int) + (lb : Int) := by omega
          have i4 : (0 : Int) ≤ (la : Int) + (j : Int) := by omega
          have hnew : Hid ((((wr.setCell ⟨w2.heap.size, (la + j) * 3, none⟩ (.int .i32 sc)).setCell ⟨w2.heap.size, (la + j) * 3 + 1, none⟩ (.int .i64 sk)).setCell ⟨w2.heap.size, (la + j) * 3 + 2, none⟩ (.int .i64 sv)).ownsRow w2.heap.size 37 3 (.slice (some ⟨w2.heap.size, 0, none⟩) (la + lb) (la + lb)) (la + lb) (cells3 (half (A ++ B) (la + (j + 1))))) := by
            rw [← Nat.add_assoc, ← half_set (A ++ B) (la + j) _ HS.out]; exact own_set3 HO.out (la + j) (sc, sk, sv)
          have hbel1 : Below w2.heap.size w2 (((wr.setCell ⟨w2.heap.size, (la + j) * 3, none⟩ (.int .i32 sc)).setCell ⟨w2.heap.size, (la + j) * 3 + 1, none⟩ (.int .i64 sk)).setCell ⟨w2.heap.size, (la + j) * 3 + 2, none⟩ (.int .i64 sv)) :=
            ((hbel.setCell (by simp) _).setCell (by simp) _).setCell (by simp) _
          go_wp2_with fail
          go_roundw
          case rel => exact ⟨j + 1, by omega, by go_num, hnew.out, hbel1⟩
          case measure => simp [intOf]; omega
        · have e : lb = j := by omega
          subst e
          clear hlt hj
          have hown' : wr.ownsRow w2.heap.size 37 3 (.slice (some ⟨w2.heap.size, 0, none⟩) (la + lb) (la + lb)) (A ++ B).length (cells3 (A ++ B)) := by
            have := HO.out
            rw [← HLC.out, half_all, HLC.out] at this
            rw [HLC.out]; exact this
          obtain ⟨a, c', hv, hI⟩ := syms_of_own HWC.out hown'
          simp only [Value.slice.injEq] at hv
          obtain ⟨rfl, hv1, hv2⟩ := hv
          clear hv1 hv2
          have HC3 : Hid (Syms wr (some ⟨w2.heap.size, 0, none⟩) (la + lb) (A ++ B)) := by rw [← HLC.out]; exact hI
          have HA3 : Hid (Syms wr v0 la A) := HA2.out.below hbel
          have HB3 : Hid (Syms wr v1 lb B) := HB2.out.below hbel
          have B3 := B2.trans (hbel.mono B2.size)
          clear hown' hI HO hbel HA2 HB2 B2
          generalize w2.heap.size = gab at *
          go_wp2_with fail
          refine (split_any _ (la + lb) (la + lb) (A ++ B) _ HC3.out (by omega)).mono ?_
          rintro e w4 ⟨g0, g1, g2, rfl, hc, b4⟩
          have HA4 : Hid (Syms w4 v0 la A) := HA3.out.below b4
          have HB4 : Hid (Syms w4 v1 lb B) := HB3.out.below b4
          have B4 := B3.trans (b4.mono B3.size)
          clear b4 HA3 HB3 B3 HC3
          go_wp2_with fail
          refine (symbols_any g0 g1 g2 (la + lb) (A ++ B) _ hc HLC.out HWC.out (by omega)).mono ?_
          rintro e w5 ⟨rfl, hy, b5⟩
          have HA5 : Hid (Syms w5 v0 la A) := HA4.out.below b5
          have HB5 : Hid (Syms w5 v1 lb B) := HB4.out.below b5
          have B5 := B4.trans (b5.mono B4.size)
          clear b5 HA4 HB4 B4 hc
          go_wp2_with fail
          refine (zzByChar_any _ (la + lb) (la + lb) (A ++ B) _ hy (by omega)).mono ?_
          rintro e w6 ⟨rfl, ho, b6⟩
          have HA6 : Hid (Syms w6 v0 la A) := HA5.out.below b6
          have HB6 : Hid (Syms w6 v1 lb B) := HB5.out.below b6
          have B6 := B5.trans (b6.mono B5.size)
          have HM6 : Hid (w6.ownsMap Trym.prog 21 symElem w5.heap.size (la + lb) (dOf (A ++ B))) := ho
          clear b6 HA5 HB5 B5 hy ho
          generalize w5.heap.size = mab at *
          generalize w4.heap.size = yab at *
          go_wp2_with fail
          refine (split_any _ la la A _ HA6.out (by omega)).mono ?_
          rintro e w7 ⟨g3, g4, g5, rfl, hc, b7⟩
          have HA7 : Hid (Syms w7 v0 la A) := HA6.out.below b7
          have HB7 : Hid (Syms w7 v1 lb B) := HB6.out.below b7
          have HM7 : Hid (w7.ownsMap Trym.prog 21 symElem mab (la + lb) (dOf (A ++ B))) := ownsMap_below HM6.out b7
          have B7 := B6.trans (b7.mono B6.size)
          clear b7 HA6 HB6 B6 HM6
          go_wp2_with fail
          refine (symbols_any g3 g4 g5 la A _ hc HLA.out HWA.out (by omega)).mono ?_
          rintro e w8 ⟨rfl, hy, b8⟩
          have HA8 : Hid (Syms w8 v0 la A) := HA7.out.below b8
          have HB8 : Hid (Syms w8 v1 lb B) := HB7.out.below b8
          have HM8 : Hid (w8.ownsMap Trym.prog 21 symElem mab (la + lb) (dOf (A ++ B))) := ownsMap_below HM7.out b8
          have B8 := B7.trans (b8.mono B7.size)
          clear b8 HA7 HB7 B7 HM7 hc
          go_wp2_with fail
          refine (zzByChar_any _ la la A _ hy (by omega)).mono ?_
          rintro e w9 ⟨rfl, ho, b9⟩
          have HA9 : Hid (Syms w9 v0 la A) := HA8.out.below b9
          have HB9 : Hid (Syms w9 v1 lb B) := HB8.out.below b9
          have HM9 : Hid (w9.ownsMap Trym.prog 21 symElem mab (la + lb) (dOf (A ++ B))) := ownsMap_below HM8.out b9
          have HN9 : Hid (w9.ownsMap Trym.prog 21 symElem w8.heap.size la (dOf A)) := ho
          have B9 := B8.trans (b9.mono B8.size)
          clear b9 HA8 HB8 B8 HM8 hy ho
          generalize w8.heap.size = ma at *
          generalize w7.heap.size = ya at *
          go_wp2_with fail
          refine (split_any _ lb lb B _ HB9.out (by omega)).mono ?_
          rintro e w10 ⟨g6, g7, g8, rfl, hc, b10⟩
          have HA10 : Hid (Syms w10 v0 la A) := HA9.out.below b10
          have HB10 : Hid (Syms w10 v1 lb B) := HB9.out.below b10
          have HM10 : Hid (w10.ownsMap Trym.prog 21 symElem mab (la + lb) (dOf (A ++ B))) := ownsMap_below HM9.out b10
          have HN10 : Hid (w10.ownsMap Trym.prog 21 symElem ma la (dOf A)) := ownsMap_below HN9.out b10
          have B10 := B9.trans (b10.mono B9.size)
          clear b10 HA9 HB9 B9 HM9 HN9
          go_wp2_with fail
          refine (symbols_any g6 g7 g8 lb B _ hc HLB.out HWB.out (by omega)).mono ?_
          rintro e w11 ⟨rfl, hy, b11⟩
          have HA11 : Hid (Syms w11 v0 la A) := HA10.out.below b11
          have HB11 : Hid (Syms w11 v1 lb B) := HB10.out.below b11
          have HM11 : Hid (w11.ownsMap Trym.prog 21 symElem mab (la + lb) (dOf (A ++ B))) := ownsMap_below HM10.out b11
          have HN11 : Hid (w11.ownsMap Trym.prog 21 symElem ma la (dOf A)) := ownsMap_below HN10.out b11
          have B11 := B10.trans (b11.mono B10.size)
          clear b11 HA10 HB10 B10 HM10 HN10 hc
          go_wp2_with fail
          refine (zzByChar_any _ lb lb B _ hy (by omega)).mono ?_
          rintro e W ⟨rfl, ho, b12⟩
          have HA : Hid (Syms W v0 la A) := HA11.out.below b12
          have HB : Hid (Syms W v1 lb B) := HB11.out.below b12
          have HM : Hid (W.ownsMap Trym.prog 21 symElem mab (la + lb) (dOf (A ++ B))) := ownsMap_below HM11.out b12
          have HN : Hid (W.ownsMap Trym.prog 21 symElem ma la (dOf A)) := ownsMap_below HN11.out b12
          have HQ : Hid (W.ownsMap Trym.prog 21 symElem w11.heap.size lb (dOf B)) := ho
          have BW := B11.trans (b12.mono B11.size)
          clear b12 HA11 HB11 B11 HM11 HN11 hy ho
          generalize w11.heap.size = mb at *
          generalize w10.heap.size = yb at *
          go_wp2_with fail
          go_loopw [20] (fun i wx => ∃ k : Nat, k ≤ lb ∧ i = .int .i64 k ∧ Below W.heap.size W wx) (fun i _ => lb - (intOf i).toNat)
          case atStart => exact ⟨0, Nat.zero_le _, rfl, Below.refl _ _⟩
          case round =>
            obtain ⟨k, hk, rfl, hbel⟩ := hrel
            by_cases hlt : k < lb
            · obtain ⟨b, off, rfl, hb, hc⟩ : ∃ b off, v1 = some (⟨b, off, none⟩ : Addr) ∧ b < W.heap.size ∧ ∀ t s, B[t]? = some s → W.cell? ⟨b, off + t * 3, none⟩ = some (.int .i32 s.1) ∧ W.cell? ⟨b, off + t * 3 + 1, none⟩ = some (.int .i64 s.2.1) ∧ W.cell? ⟨b, off + t * 3 + 2, none⟩ = some (.int .i64 s.2.2) := by
                rcases HB.out.2.2 with h | h
                · omega
                · exact h
              obtain ⟨⟨sc, sk, sv⟩, hs⟩ : ∃ s, B[k]? = some s := ⟨_, List.getElem?_eq_getElem (by rw [HLB.out]; exact hlt)⟩
              have q0 : wr.cell? ⟨b, off + k * 3, none⟩ = some (.int .i32 sc) := (hbel.cell (by exact hb)).trans (hc k _ hs).1
              have hmem : (sc, sk, sv) ∈ B := List.mem_of_getElem? hs
              have HWF : Hid ((Lit.int .i32 sc).wf = true) := HWB.out _ hmem
              obtain ⟨⟨tc, tk, tv⟩, hlast⟩ := lastOf_mem hmem
              have HLAST : Hid (lastOf B sc = some (tc, tk, tv)) := hlast
              have HLAB : Hid (lastOf (A ++ B) sc = some (tc, tk, tv)) := lastOf_right HLAST.out
              clear hs hc hmem hlast
              have hbx : b < wr.heap.size := Nat.lt_of_lt_of_le hb hbel.size
              have i0 : (0 : Int) ≤ (k : Int) := by omega
              have i2 : (k : Int) < (lb : Int) := by omega
              go_wp2_with fail
              refine (lookup_any mab (la + lb) (A ++ B) sc _ (ownsMap_below HM.out hbel) HWF.out).mono ?_
              rintro e wy ⟨rfl, by1⟩
              rw [found_of HLAB.out, HLAB.out]
              have q1 := (by1.cell (p := ⟨b, off + k * 3, none⟩) hbx).trans q0
              have hby := hbel.trans (by1.mono hbel.size)
              clear q0 by1 hbel
              go_wp2_with fail
              refine (lookup_any mb lb B sc _ (ownsMap_below HQ.out hby) HWF.out).mono ?_
              rintro e wz ⟨rfl, bz1⟩
              rw [found_of HLAST.out, HLAST.out]
              have hbz := hby.trans (bz1.mono hby.size)
              clear q1 bz1 hby
              go_wp2_with fail
              go_roundw
              case rel => exact ⟨k + 1, by omega, by go_num, hbz⟩
              case measure => simp [intOf]; omega
            · go_wp2_with fail
              clear hlt hk
              go_loopw [29] (fun i wx => ∃ j : Nat, j ≤ la ∧ i = .int .i64 j ∧ Below W.heap.size W wx) (fun i _ => la - (intOf i).toNat)
              case atStart => exact ⟨0, Nat.zero_le _, rfl, hbel⟩
              case round =>
                clear hbel
                obtain ⟨j, hj, rfl, hbel⟩ := hrel
                by_cases hlt : j < la
                · obtain ⟨b, off, rfl, hb, hc⟩ : ∃ b off, v0 = some (⟨b, off, none⟩ : Addr) ∧ b < W.heap.size ∧ ∀ t s, A[t]? = some s → W.cell? ⟨b, off + t * 3, none⟩ = some (.int .i32 s.1) ∧ W.cell? ⟨b, off + t * 3 + 1, none⟩ = some (.int .i64 s.2.1) ∧ W.cell? ⟨b, off + t * 3 + 2, none⟩ = some (.int .i64 s.2.2) := by
                    rcases HA.out.2.2 with h | h
                    · omega
                    · exact h
                  obtain ⟨⟨sc, sk, sv⟩, hs⟩ : ∃ s, A[j]? = some s := ⟨_, List.getElem?_eq_getElem (by rw [HLA.out]; exact hlt)⟩
                  have q0 : wr.cell? ⟨b, off + j * 3, none⟩ = some (.int .i32 sc) := (hbel.cell (by exact hb)).trans (hc j _ hs).1
                  have hmem : (sc, sk, sv) ∈ A := List.mem_of_getElem? hs
                  have HWF : Hid ((Lit.int .i32 sc).wf = true) := HWA.out _ hmem
                  obtain ⟨⟨tc, tk, tv⟩, hlast⟩ := lastOf_mem hmem
                  have HLAST : Hid (lastOf A sc = some (tc, tk, tv)) := hlast
                  clear hs hc hmem hlast
                  have hbx : b < wr.heap.size := Nat.lt_of_lt_of_le hb hbel.size
                  have i0 : (0 : Int) ≤ (j : Int) := by omega
                  have i2 : (j : Int) < (la : Int) := by omega
                  go_wp2_with fail
                  refine (lastWith_any v1 lb lb B sc _ (HB.out.below hbel) (by omega)).mono ?_
                  rintro e wx ⟨rfl, hp⟩
                  rcases hp with ⟨hnone, rfl⟩ | ⟨m, s, hm, hlast, rfl⟩
                  · have HLAB : Hid (lastOf (A ++ B) sc = some (tc, tk, tv)) := by
                      show lastOf (A ++ B) sc = some (tc, tk, tv)
                      rw [lastOf_left hnone]; exact HLAST.out
                    clear hnone
                    go_wp2_with fail
                    refine (lookup_any mab (la + lb) (A ++ B) sc _ (ownsMap_below HM.out hbel) HWF.out).mono ?_
                    rintro e wy ⟨rfl, by1⟩
                    rw [found_of HLAB.out, HLAB.out]
                    have q1 := (by1.cell (p := ⟨b, off + j * 3, none⟩) hbx).trans q0
                    have hby := hbel.trans (by1.mono hbel.size)
                    clear q0 by1 hbel
                    go_wp2_with fail
                    refine (lookup_any ma la A sc _ (ownsMap_below HN.out hby) HWF.out).mono ?_
                    rintro e wz ⟨rfl, bz1⟩
                    rw [found_of HLAST.out, HLAST.out]
                    have hbz := hby.trans (bz1.mono hby.size)
                    clear q1 bz1 hby
                    go_wp2_with fail
                    go_roundw
                    case rel => exact ⟨j + 1, by omega, by go_num, hbz⟩
                    case measure => simp [intOf]; omega
                  · clear hm hlast
                    go_wp2_with fail
                    go_roundw
                    case rel => exact ⟨j + 1, by omega, by go_num, hbel⟩
                    case measure => simp [intOf]; omega
                · obtain ⟨z1, z2, z3⟩ := sizes A B
                  have z4 := size_le A
                  have z5 := size_le B
                  rw [HLA.out] at z4
                  rw [HLB.out] at z5
                  have eM := (ownsMap_below HM.out hbel).len Trym.underlying32
                  have eN := (ownsMap_below HN.out hbel).len Trym.underlying32
                  have eQ := (ownsMap_below HQ.out hbel).len Trym.underlying32
                  generalize Maps.size (dOf (A ++ B)) = x at *
                  generalize Maps.size (dOf A) = y at *
                  generalize Maps.size (dOf B) = z at *
                  go_wp2_with fail
                  go_ret
                  exact ⟨ret_bool (by simp; omega), BW.trans (hbel.mono BW.size)⟩

set_option maxRecDepth 100000 in
set_option maxHeartbeats 1600000 in
theorem walk (a0 : Option Addr) (len0 cap0 : Nat) (A : List S3) (a1 : Option Addr) (len1 cap1 : Nat) (B : List S3) (w : World) (w0 : IsSyms w a0 len0 cap0 A) (w1 : IsSyms w a1 len1 cap1 B) :
    Calls Trym.prog 5 #[.slice a0 len0 cap0, .slice a1 len1 cap1] w fun e w' => e = .returned (.bool true) ∧ Below w.heap.size w w' := by
  obtain ⟨hA, n0, m0⟩ := w0
  obtain ⟨hB, n1, m1⟩ := w1
  by_cases hs : 1048576 < len0 + len1
  · clear hA hB n0 n1
    go_enter Trym.func5, Trym.ntmps5
    go_wp2_with fail
    refine (bytes_no _ _ _ _ _ _ _ m0 m1 hs).mono ?_
    rintro e w' ⟨rfl, rfl⟩
    go_wp2_with fail
    go_ret
    exact ⟨rfl, Below.refl _ _⟩
  by_cases h0 : 4096 < len0
  · clear hA hB n0 n1
    go_enter Trym.func5, Trym.ntmps5
    go_wp2_with fail
    refine (bytes_yes _ _ _ _ _ _ _ (by omega)).mono ?_
    rintro e w' ⟨rfl, rfl⟩
    go_wp2_with fail
    go_ret
    exact ⟨rfl, Below.refl _ _⟩
  by_cases h1 : 4096 < len1
  · clear hA hB n0 n1
    go_enter Trym.func5, Trym.ntmps5
    go_wp2_with fail
    refine (bytes_yes _ _ _ _ _ _ _ (by omega)).mono ?_
    rintro e w' ⟨rfl, rfl⟩
    go_wp2_with fail
    go_ret
    exact ⟨rfl, Below.refl _ _⟩
  · exact walk_in a0 len0 cap0 A a1 len1 cap1 B w hA hB n0 n1 (by omega) (by omega)
end Go.Proofs.Qxb6000949aMods.fnByCharLaterEntriesShadowEarlier
