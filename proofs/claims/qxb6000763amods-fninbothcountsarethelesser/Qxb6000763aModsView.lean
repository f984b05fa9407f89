import Derived.Test.Qxb6000763aModsRows
import Derived.Test.Qxb6000763aModsPlain
import Derived.WalkKit
import Derived.ProofKit
import Derived.OpenShut
import Derived.RegionTactic
import Derived.Deep.QuietTactic
import Derived.BigQuiet
import Derived.Outline
import Derived.WalkSmall
namespace Go.Proofs.Qxb6000763aMods
open Go.ChangeShapes Go.WideShapes Go.ChangeAt Go.RowKit
set_option linter.unusedVariables false

/-- The slice of n int64s at a holds the numbers Z in the world w. -/
def Ints (w : World) (a : Option Addr) (n : Nat) (Z : List Int) : Prop :=
  Z.length = n ∧ (n = 0 ∨ ∃ b off, a = some ⟨b, off, none⟩ ∧ b < w.heap.size ∧ ∀ t, t < n → w.cell? ⟨b, off + t, none⟩ = some (.int .i64 (Z.getD t 0)))

theorem Ints.below {w w' : World} {a : Option Addr} {n : Nat} {Z : List Int} (h : Ints w a n Z) (hb : Below w.heap.size w w') : Ints w' a n Z := by
  obtain ⟨h1, h2⟩ := h
  refine ⟨h1, ?_⟩
  rcases h2 with h2 | ⟨b, off, ha, hlt, hc⟩
  · exact .inl h2
  · exact .inr ⟨b, off, ha, Nat.lt_of_lt_of_le hlt hb.size, fun t ht => (hb.cell (p := ⟨b, off + t, none⟩) hlt).trans (hc t ht)⟩

theorem ret_bool {a b : Bool} (h : a = b) : Ending.returned (.bool a) = .returned (.bool b) := by rw [h]

theorem up_false {Z : List Int} {k : Nat} (h : k + 1 < Z.length) (hlt : Z.getD (k + 1) 0 < Z.getD k 0) : isUp Z = false := by
  cases hu : isUp Z with
  | false => rfl
  | true =>
    have := up_get hu (Nat.le_succ k) h
    rw [List.getD_eq_getElem?_getD, List.getElem?_eq_getElem h] at hlt
    rw [List.getD_eq_getElem?_getD, List.getElem?_eq_getElem (by omega)] at hlt
    simp at hlt this; omega

theorem up_true {Z : List Int} (h : ∀ t, t + 1 < Z.length → Z.getD t 0 ≤ Z.getD (t + 1) 0) : isUp Z = true := by
  induction Z with
  | nil => rfl
  | cons x xs ih =>
    cases xs with
    | nil => rfl
    | cons y r =>
      simp only [isUp, Bool.and_eq_true, decide_eq_true_eq]
      refine ⟨by simpa using h 0 (by simp), ih fun t ht => ?_⟩
      simpa using h (t + 1) (by simp at ht ⊢; omega)

set_option maxHeartbeats 400000 in
theorem isUp_any (a : Option Addr) (n c : Nat) (Z : List Int) (w : World) (hZ : Ints w a n Z) (hn : n ≤ 65536) :
    Calls Trym.prog 10 #[.slice a n c] w fun e w' => e = .returned (.bool (isUp Z)) ∧ Below w.heap.size w w' := by
  obtain ⟨hl, h0 | ⟨b, off, rfl, hb, hc⟩⟩ := hZ
  · subst h0
    obtain rfl : Z = [] := List.length_eq_zero_iff.1 hl
    go_enter Trym.func10, Trym.ntmps10
    go_wp2
    go_loop [3] (fun i => i = .int .i64 1) (fun i => 0)
    case atStart => rfl
    case round =>
      subst hrel
      go_wp2
      go_ret
      exact ⟨rfl, Below.refl _ _⟩
  · have HC : Hid (∀ t, t < n → w.cell? ⟨b, off + t, none⟩ = some (.int .i64 (Z.getD t 0))) := hc
    clear hc
    go_enter Trym.func10, Trym.ntmps10
    go_wp2
    go_loopw [3] (fun i wr => ∃ k : Nat, (k = 0 ∨ k + 1 ≤ n) ∧ i = .int .i64 ((k : Int) + 1) ∧ (∀ t, t < k → Z.getD t 0 ≤ Z.getD (t + 1) 0) ∧ Below w.heap.size w wr) (fun i _ => n - (intOf i).toNat)
    case atStart => exact ⟨0, .inl rfl, rfl, fun t ht => absurd ht (by omega), Below.refl _ _⟩
    case round =>
      obtain ⟨k, hk, rfl, hle, hbel⟩ := hrel
      have HLE : Hid (∀ t, t < k → Z.getD t 0 ≤ Z.getD (t + 1) 0) := hle
      clear hle
      by_cases hlt : k + 1 < n
      · obtain ⟨x, hx⟩ : ∃ x, x = Z.getD k 0 := ⟨_, rfl⟩
        obtain ⟨y, hy⟩ : ∃ y, y = Z.getD (k + 1) 0 := ⟨_, rfl⟩
        have g0 : wr.cell? ⟨b, off + k, none⟩ = some (.int .i64 x) := by rw [hx]; exact (hbel.cell (by exact hb)).trans (HC.out k (by omega))
        have g1 : wr.cell? ⟨b, off + (k + 1), none⟩ = some (.int .i64 y) := by rw [hy]; exact (hbel.cell (by exact hb)).trans (HC.out (k + 1) (by omega))
        have HX : Hid (x = Z.getD k 0) := hx
        have HY : Hid (y = Z.getD (k + 1) 0) := hy
        clear hx hy
        have i0 : (0 : Int) ≤ (k : Int) := by omega
        have i1 : (k : Int) + 1 < (n : Int) := by omega
        have i2 : (k : Int) < (n : Int) := by omega
        by_cases hxy : y < x
        · go_wp2
          go_quiet (fail)
          go_wp2
          go_ret
          exact ⟨ret_bool (up_false (k := k) (by omega) (by rw [← HX.out, ← HY.out]; exact hxy)).symm, below_drewN hbel _⟩
        · go_wp2
          go_quiet (fail)
          go_wp2
          go_roundw
          case rel =>
            refine ⟨k + 1, .inr (by omega), by go_num, fun t ht => ?_, below_drewN hbel _⟩
            by_cases e : t = k
            · subst e; rw [← HX.out, ← HY.out]; omega
            · exact HLE.out t (by omega)
          case measure => simp [intOf]; omega
      · go_wp2
        go_ret
        refine ⟨ret_bool (up_true fun t ht => HLE.out t (by omega)).symm, hbel⟩

theorem same_false {A B : List Int} {k : Nat} (h : A.getD k 0 ≠ B.getD k 0) : (A == B) = false := by
  simp only [beq_eq_false_iff_ne]
  intro e; subst e; exact h rfl
theorem same_true {A B : List Int} (hl : A.length = B.length) (h : ∀ t, t < A.length → A.getD t 0 = B.getD t 0) : (A == B) = true := by
  rw [beq_iff_eq]
  refine List.ext_getElem hl fun i h1 h2 => ?_
  have := h i h1
  simpa [List.getD_eq_getElem?_getD, List.getElem?_eq_getElem h1, List.getElem?_eq_getElem h2] using this

set_option maxHeartbeats 400000 in
theorem same_any (a a' : Option Addr) (n n' c c' : Nat) (A B : List Int) (w : World) (hA : Ints w a n A) (hB : Ints w a' n' B) (hn : n ≤ 65536) (hn' : n' ≤ 65536) :
    Calls Trym.prog 15 #[.slice a n c, .slice a' n' c'] w fun e w' => e = .returned (.bool (A == B)) ∧ Below w.heap.size w w' := by
  by_cases hnn : n = n'
  · subst hnn
    obtain ⟨hl, h0 | ⟨b, off, rfl, hb, hc⟩⟩ := hA
    · subst h0
      obtain rfl : A = [] := List.length_eq_zero_iff.1 hl
      obtain rfl : B = [] := List.length_eq_zero_iff.1 hB.1
      go_enter Trym.func15, Trym.ntmps15
      go_wp2
      go_loop [5] (fun i => i = .int .i64 0) (fun i => 0)
      case atStart => rfl
      case round =>
        subst hrel
        go_wp2
        go_ret
        exact ⟨rfl, Below.refl _ _⟩
    · obtain ⟨hl', h0' | ⟨b', off', rfl, hb', hc'⟩⟩ := hB
      · subst h0'
        obtain rfl : A = [] := List.length_eq_zero_iff.1 hl
        obtain rfl : B = [] := List.length_eq_zero_iff.1 hl'
        go_enter Trym.func15, Trym.ntmps15
        go_wp2
        go_loop [5] (fun i => i = .int .i64 0) (fun i => 0)
        case atStart => rfl
        case round =>
          subst hrel
          go_wp2
          go_ret
          exact ⟨rfl, Below.refl _ _⟩
      · have HC : Hid (∀ t, t < n → w.cell? ⟨b, off + t, none⟩ = some (.int .i64 (A.getD t 0))) := hc
        have HC' : Hid (∀ t, t < n → w.cell? ⟨b', off' + t, none⟩ = some (.int .i64 (B.getD t 0))) := hc'
        have HL : Hid (A.length = n) := hl
        have HL' : Hid (B.length = n) := hl'
        clear hc hc' hl hl'
        go_enter Trym.func15, Trym.ntmps15
        go_wp2
        go_loopw [5] (fun i wr => ∃ k : Nat, k ≤ n ∧ i = .int .i64 k ∧ (∀ t, t < k → A.getD t 0 = B.getD t 0) ∧ Below w.heap.size w wr) (fun i _ => n - (intOf i).toNat)
        case atStart => exact ⟨0, Nat.zero_le _, rfl, fun t ht => absurd ht (by omega), Below.refl _ _⟩
        case round =>
          obtain ⟨k, hk, rfl, hle, hbel⟩ := hrel
          have HLE : Hid (∀ t, t < k → A.getD t 0 = B.getD t 0) := hle
          clear hle
          by_cases hlt : k < n
          · obtain ⟨x, hx⟩ : ∃ x, x = A.getD k 0 := ⟨_, rfl⟩
            obtain ⟨y, hy⟩ : ∃ y, y = B.getD k 0 := ⟨_, rfl⟩
            have g0 : wr.cell? ⟨b, off + k, none⟩ = some (.int .i64 x) := by rw [hx]; exact (hbel.cell (by exact hb)).trans (HC.out k (by omega))
            have g1 : wr.cell? ⟨b', off' + k, none⟩ = some (.int .i64 y) := by rw [hy]; exact (hbel.cell (by exact hb')).trans (HC'.out k (by omega))
            have HX : Hid (x = A.getD k 0) := hx
            have HY : Hid (y = B.getD k 0) := hy
            clear hx hy
            have i0 : (0 : Int) ≤ (k : Int) := by omega
            have i2 : (k : Int) < (n : Int) := by omega
            by_cases hxy : x = y
            · subst hxy
              go_wp2
              go_quiet (fail)
              go_wp2
              go_roundw
              case rel =>
                refine ⟨k + 1, by omega, by go_num, fun t ht => ?_, below_drewN hbel _⟩
                by_cases e : t = k
                · subst e; rw [← HX.out, ← HY.out]
                · exact HLE.out t (by omega)
              case measure => simp [intOf]; omega
            · have hne : (x != y) = true := by simpa using hxy
              go_wp2
              go_quiet (fail)
              go_wp2
              go_ret
              exact ⟨ret_bool (same_false (k := k) (by rw [← HX.out, ← HY.out]; exact hxy)).symm, below_drewN hbel _⟩
          · go_wp2
            go_ret
            have e1 := HL.out
            have e2 := HL'.out
            exact ⟨ret_bool (same_true (by omega) fun t ht => HLE.out t (by omega)).symm, hbel⟩
  · have hlen : (A == B) = false := by
      simp only [beq_eq_false_iff_ne]
      intro e; subst e; exact hnn (hA.1.symm.trans hB.1)
    have hne : ((n : Int) != (n' : Int)) = true := by simp; omega
    have HH := hlen
    rw [hlen]
    clear HH hlen
    go_enter Trym.func15, Trym.ntmps15
    go_wp2
    go_ret
    exact ⟨rfl, Below.refl _ _⟩
end Go.Proofs.Qxb6000763aMods
