import Derived.Test.Qxb6000763aModsRows
import Derived.WalkKit
import Derived.ProofKit
import Derived.OpenShut
import Derived.ShutString
import Derived.RegionTactic
import Derived.Deep.QuietTactic
import Derived.BigQuiet
import Derived.Outline
namespace Go.Proofs.Qxb6000763aMods
open Go.ChangeShapes Go.WideShapes Go.ChangeAt Go.RowKit
set_option linter.unusedVariables false

set_option maxHeartbeats 400000 in
theorem bounds_size (number size n : Int) (hs : size ≤ 0) (w : World) :
    Calls Trym.prog 8 #[.agg #[.int .i64 number, .int .i64 size], .int .i64 n] w fun e w' => e = .returned (.tuple #[.int .i64 0, .int .i64 0]) ∧ Grown w w' := by
  go_enter Trym.func8, Trym.ntmps8
  go_wp2
  go_ret2
  exact ⟨rfl, by repeat (first | exact Grown.refl _ | apply Grown.drew | apply Grown.alloc)⟩

set_option maxHeartbeats 400000 in
theorem bounds_neg (number size n : Int) (hs : 0 < size) (h1 : -9223372036854775808 < number) (h2 : number ≤ 0) (w : World) :
    Calls Trym.prog 8 #[.agg #[.int .i64 number, .int .i64 size], .int .i64 n] w fun e w' => e = .returned (.tuple #[.int .i64 0, .int .i64 0]) ∧ Grown w w' := by
  go_enter Trym.func8, Trym.ntmps8
  go_wp2
  go_ret2
  exact ⟨rfl, by repeat (first | exact Grown.refl _ | apply Grown.drew | apply Grown.alloc)⟩

set_option maxHeartbeats 400000 in
theorem bounds_far (number size n : Int) (hs : 0 < size) (hs2 : size ≤ 9223372036854775807) (h1 : 1 ≤ number) (h2 : number ≤ 9223372036854775807) (hn : 0 ≤ n) (hn2 : n ≤ 9223372036854775807) (hf : n / size < number - 1) (w : World) :
    Calls Trym.prog 8 #[.agg #[.int .i64 number, .int .i64 size], .int .i64 n] w fun e w' => e = .returned (.tuple #[.int .i64 0, .int .i64 0]) ∧ Grown w w' := by
  go_enter Trym.func8, Trym.ntmps8
  go_wp2
  go_ret2
  exact ⟨rfl, by repeat (first | exact Grown.refl _ | apply Grown.drew | apply Grown.alloc)⟩

theorem wrap_min : wrap64 (-9223372036854775809) = 9223372036854775807 := by unfold wrap64; omega
theorem ret_two {a b c d : Int} (h1 : a = c) (h2 : b = d) : Ending.returned (.tuple #[.int .i64 a, .int .i64 b]) = .returned (.tuple #[.int .i64 c, .int .i64 d]) := by rw [h1, h2]

set_option maxHeartbeats 400000 in
theorem bounds_in (number size n m : Int) (hs : 0 < size) (hs2 : size ≤ 9223372036854775807) (h1 : 1 ≤ number) (h2 : number ≤ 9223372036854775807) (hn : 0 ≤ n) (hn2 : n ≤ 9223372036854775807) (hf : ¬ n / size < number - 1)
    (hm : (number - 1) * size = m) (hm0 : 0 ≤ m) (hm1 : m ≤ n) (w : World) :
    Calls Trym.prog 8 #[.agg #[.int .i64 number, .int .i64 size], .int .i64 n] w fun e w' => e = .returned (.tuple #[.int .i64 m, .int .i64 (m + min size (n - m))]) ∧ Grown w w' := by
  go_enter Trym.func8, Trym.ntmps8
  go_wp2
  go_region
  go_wp2
  all_goals
    go_ret2
    exact ⟨ret_two rfl (by omega), by repeat (first | exact Grown.refl _ | apply Grown.drew | apply Grown.alloc)⟩

set_option maxHeartbeats 400000 in
theorem bounds_min_far (size n : Int) (hs : 0 < size) (hs2 : size ≤ 9223372036854775807) (hn : 0 ≤ n) (hn2 : n ≤ 9223372036854775807) (hf : n / size < 9223372036854775807) (w : World) :
    Calls Trym.prog 8 #[.agg #[.int .i64 (-9223372036854775808), .int .i64 size], .int .i64 n] w fun e w' => e = .returned (.tuple #[.int .i64 0, .int .i64 0]) ∧ Grown w w' := by
  have hw := wrap_min
  go_enter Trym.func8, Trym.ntmps8
  go_wp2
  go_ret2
  exact ⟨rfl, by repeat (first | exact Grown.refl _ | apply Grown.drew | apply Grown.alloc)⟩

set_option maxHeartbeats 400000 in
theorem bounds_min_in (w : World) :
    Calls Trym.prog 8 #[.agg #[.int .i64 (-9223372036854775808), .int .i64 1], .int .i64 9223372036854775807] w fun e w' => e = .returned (.tuple #[.int .i64 9223372036854775807, .int .i64 9223372036854775807]) ∧ Grown w w' := by
  have hw := wrap_min
  go_enter Trym.func8, Trym.ntmps8
  go_wp2
  go_region
  go_wp2
  go_ret2
  exact ⟨rfl, by repeat (first | exact Grown.refl _ | apply Grown.drew | apply Grown.alloc)⟩

/-- What the law wants of a page: the plain facts. -/
def PageOk (number size n f t : Int) : Prop :=
  0 ≤ f ∧ f ≤ t ∧ t ≤ n ∧ (size ≤ 0 → f = 0 ∧ t = 0) ∧ (0 < size → t - f ≤ size) ∧ (number = 1 → 0 < size → f = 0 ∧ t = min size n)

theorem page_zero {number size n : Int} (hn : 0 ≤ n) (h : number = 1 → 0 < size → min size n = 0) : PageOk number size n 0 0 :=
  ⟨by omega, by omega, hn, fun _ => ⟨rfl, rfl⟩, fun _ => by omega, fun a b => ⟨rfl, (h a b).symm⟩⟩

theorem far_not_one {number size n : Int} (hs : 0 < size) (hn : 0 ≤ n) (hf : n / size < number - 1) : number ≠ 1 := by
  intro h
  have : 0 ≤ n / size := Int.ediv_nonneg hn (by omega)
  omega

theorem bounds_any (number size n : Int) (hk1 : -9223372036854775808 ≤ number) (hk2 : number ≤ 9223372036854775807) (hs2 : size ≤ 9223372036854775807) (hn : 0 ≤ n) (hn2 : n ≤ 9223372036854775807) (w : World) :
    Calls Trym.prog 8 #[.agg #[.int .i64 number, .int .i64 size], .int .i64 n] w fun e w' => ∃ f t : Int, e = .returned (.tuple #[.int .i64 f, .int .i64 t]) ∧ PageOk number size n f t ∧ Grown w w' := by
  by_cases hs : size ≤ 0
  · exact (bounds_size number size n hs w).mono fun e w' h => ⟨0, 0, h.1, page_zero hn (by omega), h.2⟩
  have hs : 0 < size := by omega
  have hd0 : 0 ≤ n / size := Int.ediv_nonneg hn (by omega)
  have hdm : n / size * size ≤ n := by have := Int.ediv_mul_le n (show size ≠ 0 by omega); omega
  by_cases hmin : number = -9223372036854775808
  · subst hmin
    by_cases hf : n / size < 9223372036854775807
    · exact (bounds_min_far size n hs hs2 hn hn2 hf w).mono fun e w' h => ⟨0, 0, h.1, page_zero hn (by omega), h.2⟩
    · have hsz : size = 1 := by
        have h2 : n / size ≤ n / 1 := by
          rw [Int.ediv_one]; exact Int.ediv_le_self _ hn
        rcases Int.lt_or_le 1 size with h | h
        · have : 9223372036854775807 * size ≤ n := Int.le_trans (Int.mul_le_mul_of_nonneg_right (by omega) (by omega)) hdm
          omega
        · omega
      subst hsz
      have hnn : n = 9223372036854775807 := by rw [Int.ediv_one] at hf; omega
      subst hnn
      exact (bounds_min_in w).mono fun e w' h => ⟨_, _, h.1, ⟨by omega, by omega, by omega, by omega, by omega, by omega⟩, h.2⟩
  by_cases hneg : number ≤ 0
  · exact (bounds_neg number size n hs (by omega) hneg w).mono fun e w' h => ⟨0, 0, h.1, page_zero hn (by omega), h.2⟩
  by_cases hf : n / size < number - 1
  · exact (bounds_far number size n hs hs2 (by omega) hk2 hn hn2 hf w).mono fun e w' h => ⟨0, 0, h.1, page_zero hn (fun h => absurd h (far_not_one hs hn hf)), h.2⟩
  · have hm0 : 0 ≤ (number - 1) * size := Int.mul_nonneg (by omega) (by omega)
    have hm1 : (number - 1) * size ≤ n := Int.le_trans (Int.mul_le_mul_of_nonneg_right (by omega) (by omega)) hdm
    refine (bounds_in number size n _ hs hs2 (by omega) hk2 hn hn2 hf rfl hm0 hm1 w).mono fun e w' h => ⟨_, _, h.1, ?_, h.2⟩
    have h1 : number = 1 → (number - 1) * size = 0 := by intro h; subst h; simp
    generalize (number - 1) * size = m at *
    exact ⟨by omega, by omega, by omega, by omega, by omega, fun a b => ⟨h1 a, by have := h1 a; omega⟩⟩
end Go.Proofs.Qxb6000763aMods
