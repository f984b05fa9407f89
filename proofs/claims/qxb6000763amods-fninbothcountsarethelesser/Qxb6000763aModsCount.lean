import Derived.Test.Qxb6000763aModsBoth
namespace Go.Proofs.Qxb6000763aMods
open Go.ChangeShapes Go.WideShapes Go.ChangeAt Go.RowKit
set_option linter.unusedVariables false

theorem getD_at (A : List Int) (i : Nat) (h : i < A.length) : A.getD i 0 = A[i] := by
  rw [List.getD_eq_getElem?_getD, List.getElem?_eq_getElem h]; rfl
theorem up_getD {A : List Int} (h : isUp A = true) {i j : Nat} (hij : i ≤ j) (hj : j < A.length) : A.getD i 0 ≤ A.getD j 0 := by
  rw [getD_at A i (by omega), getD_at A j hj]; exact up_get h hij hj
theorem upto_of {A : List Int} {v : Int} {k n : Nat} (hn : A.length = n) (hk : k ≤ n) (h1 : ∀ i, i < k → A.getD i 0 ≤ v) (h2 : ∀ i, k ≤ i → i < n → v < A.getD i 0) : upto A v = k := by
  refine countP_split (by omega) (fun i h hi => ?_) (fun i h hi => ?_)
  · have := h1 i hi; rw [getD_at A i h] at this; simpa using this
  · have := h2 i hi (by omega); rw [getD_at A i h] at this; simpa using this
theorem below_of {A : List Int} {v : Int} {k n : Nat} (hn : A.length = n) (hk : k ≤ n) (h1 : ∀ i, i < k → A.getD i 0 < v) (h2 : ∀ i, k ≤ i → i < n → v ≤ A.getD i 0) : below A v = k := by
  refine countP_split (by omega) (fun i h hi => ?_) (fun i h hi => ?_)
  · have := h1 i hi; rw [getD_at A i h] at this; simpa using this
  · have := h2 i hi (by omega); rw [getD_at A i h] at this; simpa using this
theorem ret_int {k : IntKind} {a b : Int} (h : a = b) : Ending.returned (.int k a) = .returned (.int k b) := by rw [h]

set_option maxHeartbeats 800000 in
theorem above_any (a : Option Addr) (n c : Nat) (A : List Int) (v : Int) (w : World) (hA : Ints w a n A) (hn : n ≤ 65536) (hu : isUp A = true) :
    Calls Trym.prog 19 #[.slice a n c, .int .i64 v] w fun e w' => e = .returned (.int .i64 (upto A v)) ∧ w' = w := by
  have HU : Hid (isUp A = true) := hu
  obtain ⟨hl, h0⟩ := hA
  have HL : Hid (A.length = n) := hl
  have HC : Hid (n = 0 ∨ ∃ b off, a = some (⟨b, off, none⟩ : Addr) ∧ b < w.heap.size ∧ ∀ t, t < n → w.cell? ⟨b, off + t, none⟩ = some (.int .i64 (A.getD t 0))) := h0
  clear h0 hl hu
  go_enter Trym.func19, Trym.ntmps19
  go_wp2
  go_loop [5, 6] (fun x y => ∃ lo hi : Nat, lo ≤ hi ∧ hi ≤ n ∧ x = .int .i64 lo ∧ y = .int .i64 hi ∧ (∀ i, i < lo → A.getD i 0 ≤ v) ∧ (∀ i, hi ≤ i → i < n → v < A.getD i 0)) (fun x y => (intOf y).toNat - (intOf x).toNat)
  case atStart => exact ⟨0, n, Nat.zero_le _, Nat.le_refl _, rfl, rfl, fun i hi => absurd hi (by omega), fun i h1 h2 => absurd h1 (by omega)⟩
  case round =>
    obtain ⟨lo, hi, h1, h2, rfl, rfl, q1, q2⟩ := hrel
    have Q1 : Hid (∀ i, i < lo → A.getD i 0 ≤ v) := q1
    have Q2 : Hid (∀ i, hi ≤ i → i < n → v < A.getD i 0) := q2
    clear q1 q2
    by_cases hlt : lo < hi
    · obtain ⟨b, off, rfl, hb, hc⟩ : ∃ b off, a = some (⟨b, off, none⟩ : Addr) ∧ b < w.heap.size ∧ ∀ t, t < n → w.cell? ⟨b, off + t, none⟩ = some (.int .i64 (A.getD t 0)) := by
        rcases HC.out with h | h
        · omega
        · exact h
      obtain ⟨m, hm⟩ : ∃ m : Nat, (lo : Int) + ((hi : Int) - (lo : Int)) / 2 = (m : Int) := ⟨lo + (hi - lo) / 2, by omega⟩
      have m1 : lo ≤ m := by omega
      have m2 : m < hi := by omega
      have m3 : (m : Int) < (n : Int) := by omega
      have m4 : (0 : Int) ≤ (m : Int) := by omega
      obtain ⟨y, hy⟩ : ∃ y, y = A.getD m 0 := ⟨_, rfl⟩
      have g0 : w.cell? ⟨b, off + m, none⟩ = some (.int .i64 y) := by rw [hy]; exact hc m (by omega)
      have HY : Hid (y = A.getD m 0) := hy
      clear hy hc HC
      by_cases hle : y ≤ v
      · go_wp2
        go_round
        case rel =>
          refine ⟨m + 1, hi, by omega, h2, by go_num, by go_num, fun i hi' => ?_, Q2.out⟩
          have := up_getD HU.out (i := i) (j := m) (by omega) (by rw [HL.out]; omega)
          rw [← HY.out] at this; omega
        case measure => simp [intOf]; omega
      · go_wp2
        go_round
        case rel =>
          refine ⟨lo, m, by omega, by omega, by go_num, by go_num, Q1.out, fun i hi' hn' => ?_⟩
          have := up_getD HU.out (i := m) (j := i) (by omega) (by rw [HL.out]; omega)
          rw [← HY.out] at this; omega
        case measure => simp [intOf]; omega
    · go_wp2
      go_ret
      have e : lo = hi := by omega
      subst e
      exact ⟨ret_int (by rw [upto_of HL.out h2 Q1.out Q2.out]), rfl⟩

set_option maxHeartbeats 800000 in
theorem least_any (a : Option Addr) (n c : Nat) (A : List Int) (v : Int) (w : World) (hA : Ints w a n A) (hn : n ≤ 65536) (hu : isUp A = true) :
    Calls Trym.prog 20 #[.slice a n c, .int .i64 v] w fun e w' => e = .returned (.int .i64 (below A v)) ∧ w' = w := by
  have HU : Hid (isUp A = true) := hu
  obtain ⟨hl, h0⟩ := hA
  have HL : Hid (A.length = n) := hl
  have HC : Hid (n = 0 ∨ ∃ b off, a = some (⟨b, off, none⟩ : Addr) ∧ b < w.heap.size ∧ ∀ t, t < n → w.cell? ⟨b, off + t, none⟩ = some (.int .i64 (A.getD t 0))) := h0
  clear h0 hl hu
  go_enter Trym.func20, Trym.ntmps20
  go_wp2
  go_loop [5, 6] (fun x y => ∃ lo hi : Nat, lo ≤ hi ∧ hi ≤ n ∧ x = .int .i64 lo ∧ y = .int .i64 hi ∧ (∀ i, i < lo → A.getD i 0 < v) ∧ (∀ i, hi ≤ i → i < n → v ≤ A.getD i 0)) (fun x y => (intOf y).toNat - (intOf x).toNat)
  case atStart => exact ⟨0, n, Nat.zero_le _, Nat.le_refl _, rfl, rfl, fun i hi => absurd hi (by omega), fun i h1 h2 => absurd h1 (by omega)⟩
  case round =>
    obtain ⟨lo, hi, h1, h2, rfl, rfl, q1, q2⟩ := hrel
    have Q1 : Hid (∀ i, i < lo → A.getD i 0 < v) := q1
    have Q2 : Hid (∀ i, hi ≤ i → i < n → v ≤ A.getD i 0) := q2
    clear q1 q2
    by_cases hlt : lo < hi
    · obtain ⟨b, off, rfl, hb, hc⟩ : ∃ b off, a = some (⟨b, off, none⟩ : Addr) ∧ b < w.heap.size ∧ ∀ t, t < n → w.cell? ⟨b, off + t, none⟩ = some (.int .i64 (A.getD t 0)) := by
        rcases HC.out with h | h
        · omega
        · exact h
      obtain ⟨m, hm⟩ : ∃ m : Nat, (lo : Int) + ((hi : Int) - (lo : Int)) / 2 = (m : Int) := ⟨lo + (hi - lo) / 2, by omega⟩
      have m1 : lo ≤ m := by omega
      have m2 : m < hi := by omega
      have m3 : (m : Int) < (n : Int) := by omega
      have m4 : (0 : Int) ≤ (m : Int) := by omega
      obtain ⟨y, hy⟩ : ∃ y, y = A.getD m 0 := ⟨_, rfl⟩
      have g0 : w.cell? ⟨b, off + m, none⟩ = some (.int .i64 y) := by rw [hy]; exact hc m (by omega)
      have HY : Hid (y = A.getD m 0) := hy
      clear hy hc HC
      by_cases hle : y < v
      · go_wp2
        go_round
        case rel =>
          refine ⟨m + 1, hi, by omega, h2, by go_num, by go_num, fun i hi' => ?_, Q2.out⟩
          have := up_getD HU.out (i := i) (j := m) (by omega) (by rw [HL.out]; omega)
          rw [← HY.out] at this; omega
        case measure => simp [intOf]; omega
      · go_wp2
        go_round
        case rel =>
          refine ⟨lo, m, by omega, by omega, by go_num, by go_num, Q1.out, fun i hi' hn' => ?_⟩
          have := up_getD HU.out (i := m) (j := i) (by omega) (by rw [HL.out]; omega)
          rw [← HY.out] at this; omega
        case measure => simp [intOf]; omega
    · go_wp2
      go_ret
      have e : lo = hi := by omega
      subst e
      exact ⟨ret_int (by rw [below_of HL.out h2 Q1.out Q2.out]), rfl⟩

theorem upto_le (A : List Int) (v : Int) : upto A v ≤ A.length := List.countP_le_length
set_option maxHeartbeats 400000 in
theorem count_any (a : Option Addr) (n c : Nat) (A : List Int) (v : Int) (w : World) (hA : Ints w a n A) (hn : n ≤ 65536) (hu : isUp A = true) :
    Calls Trym.prog 18 #[.slice a n c, .int .i64 v] w fun e w' => e = .returned (.int .i64 (A.count v)) ∧ w' = w := by
  have e1 := upto_eq A v
  have e2 : upto A v ≤ 65536 := by have := upto_le A v; rw [hA.1] at this; omega
  have E1 : Hid (upto A v = below A v + A.count v) := e1
  have e3 : below A v ≤ 65536 := by omega
  clear e1
  go_enter Trym.func18, Trym.ntmps18
  go_wp2_with fail
  refine (above_any a n c A v _ hA hn hu).mono ?_
  rintro e w' ⟨rfl, rfl⟩
  go_wp2_with fail
  refine (least_any a n c A v _ hA hn hu).mono ?_
  rintro e w' ⟨rfl, rfl⟩
  go_wp2_with fail
  go_ret
  exact ⟨ret_int (by have := E1.out; omega), rfl⟩

set_option maxHeartbeats 400000 in
theorem lesser_any (a a' a'' : Option Addr) (n n' n'' c c' c'' : Nat) (C A B : List Int) (v : Int) (w : World) (hC : Ints w a n C) (hA : Ints w a' n' A) (hB : Ints w a'' n'' B) (hn : n ≤ 65536) (hn' : n' ≤ 65536) (hn'' : n'' ≤ 65536)
    (uC : isUp C = true) (uA : isUp A = true) (uB : isUp B = true) (hv : C.count v = min (A.count v) (B.count v)) :
    Calls Trym.prog 13 #[.slice a n c, .slice a' n' c', .slice a'' n'' c'', .int .i64 v] w fun e w' => e = .returned (.bool true) ∧ w' = w := by
  have HV : Hid (C.count v = min (A.count v) (B.count v)) := hv
  clear hv
  obtain ⟨x, hx⟩ : ∃ x : Nat, A.count v = x := ⟨_, rfl⟩
  obtain ⟨y, hy⟩ : ∃ y : Nat, B.count v = y := ⟨_, rfl⟩
  have HX : Hid (A.count v = x) := hx
  have HY : Hid (B.count v = y) := hy
  clear hx hy
  by_cases hxy : y < x
  · go_enter Trym.func13, Trym.ntmps13
    go_wp2_with fail
    refine (count_any a' n' c' A v _ hA hn' uA).mono ?_
    rintro e w' ⟨rfl, rfl⟩
    rw [HX.out]
    go_wp2_with fail
    refine (count_any a'' n'' c'' B v _ hB hn'' uB).mono ?_
    rintro e w' ⟨rfl, rfl⟩
    rw [HY.out]
    go_wp2_with fail
    refine (count_any a n c C v _ hC hn uC).mono ?_
    rintro e w' ⟨rfl, rfl⟩
    rw [show C.count v = y from by rw [HV.out, HX.out, HY.out]; omega]
    go_wp2_with fail
    go_ret
    exact ⟨rfl, rfl⟩
  · go_enter Trym.func13, Trym.ntmps13
    go_wp2_with fail
    refine (count_any a' n' c' A v _ hA hn' uA).mono ?_
    rintro e w' ⟨rfl, rfl⟩
    rw [HX.out]
    go_wp2_with fail
    refine (count_any a'' n'' c'' B v _ hB hn'' uB).mono ?_
    rintro e w' ⟨rfl, rfl⟩
    rw [HY.out]
    go_wp2_with fail
    refine (count_any a n c C v _ hC hn uC).mono ?_
    rintro e w' ⟨rfl, rfl⟩
    rw [show C.count v = x from by rw [HV.out, HX.out, HY.out]; omega]
    go_wp2_with fail
    go_ret
    exact ⟨rfl, rfl⟩
end Go.Proofs.Qxb6000763aMods
