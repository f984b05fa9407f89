/- The proof of 'Rows.FnByCharSizeIsDistinctCountSaid'. -/
import Derived.Test.Qxb6000949aModsRows
import Derived.Test.Qxb6000949aModsLook
import Derived.Test.Qxb6000949aModsOpen
namespace Go.Proofs.Qxb6000949aMods.fnByCharSizeIsDistinctCount
open Go.ChangeShapes Go.WideShapes Go.ChangeAt Go.RowKit
set_option linter.unusedVariables false

set_option maxHeartbeats 400000 in
theorem bytes_yes (a : Option Addr) (n c : Nat) (w : World) (h : n ≤ 1048576) :
    Calls Trym.prog 16 #[.slice a n c] w fun e w' => e = .returned (.bool true) ∧ w' = w := by
  go_enter Trym.func16, Trym.ntmps16
  go_wp2
  go_ret
  exact ⟨rfl, rfl⟩
set_option maxHeartbeats 400000 in
theorem bytes_no (a : Option Addr) (n c : Nat) (w : World) (hn : n ≤ maxLen) (h : 1048576 < n) :
    Calls Trym.prog 16 #[.slice a n c] w fun e w' => e = .returned (.bool false) ∧ w' = w := by
  unfold maxLen at hn
  go_enter Trym.func16, Trym.ntmps16
  go_wp2
  go_ret
  exact ⟨rfl, rfl⟩

theorem size_take_le (L : List S3) (k : Nat) : Maps.size (dOf (L.take k)) ≤ k := by
  induction k with
  | zero => simp [dOf, Maps.size]
  | succ k ih =>
    cases h : L[k]? with
    | none =>
      have : L.length ≤ k := by
        rcases Nat.lt_or_ge k L.length with h1 | h1
        · rw [List.getElem?_eq_getElem h1] at h; cases h
        · exact h1
      rw [List.take_of_length_le (by omega)]
      rw [List.take_of_length_le this] at ih
      omega
    | some s =>
      rw [take_snoc h, dOf_size_snoc]
      split <;> omega
theorem size_hit {L : List S3} {k m : Nat} {s s' : S3} (h : L[k]? = some s) (hm : m < k) (h' : L[m]? = some s') (e : s'.1 = s.1) : Maps.size (dOf (L.take (k + 1))) = Maps.size (dOf (L.take k)) := by
  rw [take_snoc h, dOf_size_snoc, lastOf_isSome, if_pos]
  · rfl
  · rw [List.any_eq_true]
    refine ⟨s', List.mem_of_getElem? (i := m) ?_, by simpa using e⟩
    rw [List.getElem?_take_of_lt hm]; exact h'
theorem size_miss {L : List S3} {k : Nat} {s : S3} (h : L[k]? = some s) (hno : ∀ (t : Nat) (s' : S3), t < k → L[t]? = some s' → s'.1 ≠ s.1) : Maps.size (dOf (L.take (k + 1))) = Maps.size (dOf (L.take k)) + 1 := by
  rw [take_snoc h, dOf_size_snoc, lastOf_isSome, if_neg]
  rw [List.any_eq_true]
  rintro ⟨x, hx, e⟩
  obtain ⟨i, hi⟩ := List.getElem?_of_mem hx
  have hlt : i < k := by
    rcases Nat.lt_or_ge i k with h1 | h1
    · exact h1
    · rw [List.getElem?_take, if_neg (by omega)] at hi; cases hi
  rw [List.getElem?_take_of_lt hlt] at hi
  exact hno i x hlt hi (by simpa using e)

set_option maxHeartbeats 3200000 in
theorem walk_in (a0 : Option Addr) (n cap0 : Nat) (L : List S3) (w : World) (hL : Syms w a0 n L) (n0 : a0 = none → n = 0 ∧ cap0 = 0) (l0 : n ≤ 4096) :
    Calls Trym.prog 4 #[.slice a0 n cap0] w fun e w' => e = .returned (.bool true) ∧ Below w.heap.size w w' := by
  have HL : Hid (L.length = n) := hL.1
  have HW : Hid (∀ s ∈ L, (Lit.int .i32 s.1).wf = true) := hL.2.1
  have HN0 : Hid (a0 = none → n = 0 ∧ cap0 = 0) := n0
  clear n0
  go_enter Trym.func4, Trym.ntmps4
  go_wp2_with fail
  refine (bytes_yes _ _ _ _ (by omega)).mono ?_
  rintro e w' ⟨rfl, rfl⟩
  go_wp2_with fail
  refine (clone_any a0 n cap0 L _ hL HN0.out (by omega)).mono ?_
  rintro e w1 ⟨v, rfl, h1, B1⟩
  clear hL
  go_wp2_with fail
  refine (split_any v n n L _ h1 (by omega)).mono ?_
  rintro e w2 ⟨g0, g1, g2, rfl, hc, b2⟩
  have h2 := h1.below b2
  have B2 := B1.trans (b2.mono B1.size)
  clear h1 B1 b2
  go_wp2_with fail
  refine (symbols_any g0 g1 g2 n L _ hc HL.out HW.out (by omega)).mono ?_
  rintro e w3 ⟨rfl, hy, b3⟩
  have h3 := h2.below b3
  have B3 := B2.trans (b3.mono B2.size)
  clear h2 B2 b3 hc
  go_wp2_with fail
  refine (zzByChar_any _ n n L _ hy (by omega)).mono ?_
  rintro e W ⟨rfl, ho, b4⟩
  have hS := h3.below b4
  have BW := B3.trans (b4.mono B3.size)
  clear h3 B3 b4 hy
  generalize w3.heap.size = mb at *
  go_wp2_with fail
  have h0 := hS.2.2
  clear hS
  have HC : Hid (n = 0 ∨ ∃ b off, v = some (⟨b, off, none⟩ : Addr) ∧ b < W.heap.size ∧ ∀ t s, L[t]? = some s →
    W.cell? ⟨b, off + t * 3, none⟩ = some (.int .i32 s.1) ∧ W.cell? ⟨b, off + t * 3 + 1, none⟩ = some (.int .i64 s.2.1) ∧ W.cell? ⟨b, off + t * 3 + 2, none⟩ = some (.int .i64 s.2.2)) := h0
  clear h0
  go_loopw [8, 9] (fun d i wr => ∃ k : Nat, k ≤ n ∧ i = .int .i64 k ∧ d = .int .i64 (Maps.size (dOf (L.take k))) ∧ Below W.heap.size W wr) (fun _ i _ => n - (intOf i).toNat)
  case atStart => exact ⟨0, Nat.zero_le _, rfl, rfl, Below.refl _ _⟩
  case round =>
    obtain ⟨k, hk, rfl, rfl, hbel⟩ := hrel
    have hsz := size_take_le L k
    obtain ⟨z, hz⟩ : ∃ z, Maps.size (dOf (L.take k)) = z := ⟨_, rfl⟩
    rw [hz] at hsz ⊢
    have HZ : Hid (Maps.size (dOf (L.take k)) = z) := hz
    clear hz
    by_cases hlt : k < n
    · obtain ⟨b, off, rfl, hb, hc⟩ : ∃ b off, v = some (⟨b, off, none⟩ : Addr) ∧ b < W.heap.size ∧ ∀ t s, L[t]? = some s →
          W.cell? ⟨b, off + t * 3, none⟩ = some (.int .i32 s.1) ∧ W.cell? ⟨b, off + t * 3 + 1, none⟩ = some (.int .i64 s.2.1) ∧ W.cell? ⟨b, off + t * 3 + 2, none⟩ = some (.int .i64 s.2.2) := by
        rcases HC.out with h | h
        · omega
        · exact h
      have HCC : Hid (∀ t s, L[t]? = some s → W.cell? ⟨b, off + t * 3, none⟩ = some (.int .i32 s.1)) := fun t s h => (hc t s h).1
      obtain ⟨⟨sc, sk, sv⟩, hs⟩ : ∃ s, L[k]? = some s := ⟨_, List.getElem?_eq_getElem (by rw [HL.out]; exact hlt)⟩
      have HS : Hid (L[k]? = some (sc, sk, sv)) := hs
      clear hs hc HC
      go_wp2
      go_loopw [10, 11] (fun f j wx => ∃ m : Nat, m ≤ k ∧ j = .int .i64 m ∧ f = .bool true ∧ (∀ (t : Nat) (s' : S3), t < m → L[t]? = some s' → s'.1 ≠ sc) ∧ Below W.heap.size W wx) (fun _ j _ => k - (intOf j).toNat)
      case atStart => exact ⟨0, Nat.zero_le _, rfl, rfl, fun t s' h => absurd h (by omega), hbel⟩
      case round =>
        obtain ⟨m, hm, rfl, rfl, hno, hbx⟩ := hrel
        have HNO : Hid (∀ (t : Nat) (s' : S3), t < m → L[t]? = some s' → s'.1 ≠ sc) := hno
        clear hno
        by_cases hmk : m < k
        · obtain ⟨⟨tc, tk, tv⟩, ht⟩ : ∃ s, L[m]? = some s := ⟨_, List.getElem?_eq_getElem (by rw [HL.out]; omega)⟩
          have q0 : wr.cell? ⟨b, off + m * 3, none⟩ = some (.int .i32 tc) := (hbx.cell (by exact hb)).trans (HCC.out m _ ht)
          have q1 : wr.cell? ⟨b, off + k * 3, none⟩ = some (.int .i32 sc) := (hbx.cell (by exact hb)).trans (HCC.out k _ HS.out)
          have HT : Hid (L[m]? = some (tc, tk, tv)) := ht
          clear ht
          have i0 : (0 : Int) ≤ (k : Int) := by omega
          have i1 : (0 : Int) ≤ (m : Int) := by omega
          have i2 : (k : Int) < (n : Int) := by omega
          have i3 : (m : Int) < (n : Int) := by omega
          by_cases hch : tc = sc
          · subst hch
            go_wp2
            go_quiet (fail)
            go_wp2
            go_roundw
            case rel => exact ⟨k + 1, by omega, by go_num, by rw [size_hit HS.out hmk HT.out rfl, HZ.out], below_drewN hbx _⟩
            case measure => simp [intOf]; omega
          · have hne : (tc == sc) = false := by simpa using hch
            go_wp2
            go_quiet (fail)
            go_wp2
            go_roundw
            case rel =>
              refine ⟨m + 1, by omega, by go_num, rfl, fun t s' ht h => ?_, below_drewN hbx _⟩
              by_cases e : t = m
              · subst e
                have := HT.out
                rw [this] at h; cases h; exact hch
              · exact HNO.out t s' (by omega) h
            case measure => simp [intOf]; omega
        · have e : m = k := by omega
          subst e
          go_wp2
          go_roundw
          case rel => exact ⟨m + 1, by omega, by go_num, by rw [size_miss HS.out HNO.out, HZ.out]; go_num, hbx⟩
          case measure => simp [intOf]; omega
    · have e : k = n := by omega
      subst e
      have HE : Hid (Maps.size (dOf L) = z) := by have := HZ.out; rw [List.take_of_length_le (by rw [HL.out]; exact Nat.le_refl _)] at this; exact this
      have ho' := ownsMap_below ho hbel
      go_wp2_with (at_len; refine wpList_len_own _ rfl _ 32 rfl 21 48 Trym.underlying32 symElem mb k (dOf L) rfl ho' ?_)
      go_ret
      exact ⟨ret_bool (by rw [HE.out]; simp), BW.trans (hbel.mono BW.size)⟩

theorem walk (a0 : Option Addr) (len0 cap0 : Nat) (L : List S3) (w : World) (w0 : IsSyms w a0 len0 cap0 L) :
    Calls Trym.prog 4 #[.slice a0 len0 cap0] w fun e w' => e = .returned (.bool true) ∧ Below w.heap.size w w' := by
  obtain ⟨hL, n0, m0⟩ := w0
  by_cases hs : 1048576 < len0
  · clear hL n0
    go_enter Trym.func4, Trym.ntmps4
    go_wp2_with fail
    refine (bytes_no _ _ _ _ m0 hs).mono ?_
    rintro e w' ⟨rfl, rfl⟩
    go_wp2_with fail
    go_ret
    exact ⟨rfl, Below.refl _ _⟩
  · by_cases h0 : 4096 < len0
    · clear hL n0
      go_enter Trym.func4, Trym.ntmps4
      go_wp2_with fail
      refine (bytes_yes _ _ _ _ (by omega)).mono ?_
      rintro e w' ⟨rfl, rfl⟩
      go_wp2_with fail
      go_ret
      exact ⟨rfl, Below.refl _ _⟩
    · exact walk_in a0 len0 cap0 L w hL n0 (by omega)

end Go.Proofs.Qxb6000949aMods.fnByCharSizeIsDistinctCount
