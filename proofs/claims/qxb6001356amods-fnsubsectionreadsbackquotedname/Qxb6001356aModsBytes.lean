import Derived.Test.Qxb6001356aModsRows
import Derived.WalkKit
import Derived.ProofKit
import Derived.OpenShut
import Derived.RegionTactic
import Derived.Outline
import Derived.WalkSmall
import Derived.WalkSpells
import Derived.Deep.Upon
import Derived.Lib.AppendStr
namespace Go.Proofs.Qxb6001356aMods
open Go.ChangeShapes Go.WideShapes Go.ChangeAt Go.RowKit
set_option linter.unusedVariables false

theorem ret_bool {a b : Bool} (h : a = b) : Ending.returned (.bool a) = .returned (.bool b) := by rw [h]

def blank (c : Int) : Bool := decide (c = 32) || decide (c = 9) || decide (c = 13)

set_option maxHeartbeats 400000 in
theorem isBlank_yes (c : Int) (w : World) (h : c = 32 ∨ c = 9 ∨ c = 13) : Calls Trym.prog 21 #[.int .u8 c] w fun e w' => e = .returned (.bool true) ∧ w' = w := by
  rcases h with rfl | rfl | rfl
  all_goals
    go_enter Trym.func21, Trym.ntmps21
    go_wp2
    go_ret
    exact ⟨rfl, rfl⟩
set_option maxHeartbeats 400000 in
theorem isBlank_no (c : Int) (w : World) (h1 : (c == 32) = false) (h2 : (c == 9) = false) (h3 : (c == 13) = false) : Calls Trym.prog 21 #[.int .u8 c] w fun e w' => e = .returned (.bool false) ∧ w' = w := by
  go_enter Trym.func21, Trym.ntmps21
  go_wp2
  go_ret
  exact ⟨rfl, rfl⟩
set_option maxHeartbeats 400000 in
theorem isSpace_yes (c : Int) (w : World) (h : c = 32 ∨ c = 9 ∨ c = 13) : Calls Trym.prog 38 #[.int .u8 c] w fun e w' => e = .returned (.bool true) ∧ w' = w := by
  rcases h with rfl | rfl | rfl
  all_goals
    go_enter Trym.func38, Trym.ntmps38
    go_wp2
    go_ret
    exact ⟨rfl, rfl⟩
set_option maxHeartbeats 400000 in
theorem isSpace_no (c : Int) (w : World) (h1 : (c == 32) = false) (h2 : (c == 9) = false) (h3 : (c == 13) = false) : Calls Trym.prog 38 #[.int .u8 c] w fun e w' => e = .returned (.bool false) ∧ w' = w := by
  go_enter Trym.func38, Trym.ntmps38
  go_wp2
  go_ret
  exact ⟨rfl, rfl⟩

def isB (c : UInt8) : Bool := c == 32 || c == 9 || c == 13
theorem isB_yes {c : UInt8} (h : isB c = true) : (c.toNat : Int) = 32 ∨ (c.toNat : Int) = 9 ∨ (c.toNat : Int) = 13 := by
  simp [isB] at h
  rcases h with (h | h) | h
  · subst h; exact .inl rfl
  · subst h; exact .inr (.inl rfl)
  · subst h; exact .inr (.inr rfl)
theorem byte_ne {c : UInt8} {n : Nat} (hn : n < 256) (h : c ≠ UInt8.ofNat n) : ((c.toNat : Int) == (n : Int)) = false := by
  rw [beq_eq_false_iff_ne]
  intro e
  apply h
  have e' : c.toNat = n := by omega
  rw [← e', UInt8.ofNat_toNat]
theorem isB_no {c : UInt8} (h : isB c = false) : ((c.toNat : Int) == 32) = false ∧ ((c.toNat : Int) == 9) = false ∧ ((c.toNat : Int) == 13) = false := by
  simp [isB] at h
  exact ⟨byte_ne (n := 32) (by omega) h.1.1, byte_ne (n := 9) (by omega) h.1.2, byte_ne (n := 13) (by omega) h.2⟩
theorem take_snoc (s : ByteArray) (k : Nat) (h : k < s.size) : s.data.toList.take (k + 1) = s.data.toList.take k ++ [s[k]] := by
  rw [List.take_succ_eq_append_getElem (by simpa using h)]; rfl

/-- Every byte of s is a blank. -/
def allB (s : ByteArray) : Bool := s.data.toList.all isB
def allTo (s : ByteArray) (k : Nat) : Bool := (s.data.toList.take k).all isB
theorem allTo_succ {s : ByteArray} {k : Nat} (h : k < s.size) : allTo s (k + 1) = (allTo s k && isB s[k]) := by
  unfold allTo; rw [take_snoc s k h, List.all_append]; simp
theorem allTo_size (s : ByteArray) (k : Nat) (h : s.size ≤ k) : allTo s k = allB s := by
  unfold allTo allB; rw [List.take_of_length_le (by simpa using h)]
theorem allB_false {s : ByteArray} {k : Nat} (h : k < s.size) (hb : isB s[k] = false) : allB s = false := by
  unfold allB
  rw [List.all_eq_false]
  exact ⟨s[k], by rw [← Array.mem_def]; exact Array.getElem_mem _, by simp [hb]⟩

set_option maxHeartbeats 400000 in
theorem blanks_any (s : ByteArray) (w : World) (hs : s.size ≤ 1048576) :
    Calls Trym.prog 12 #[.string s] w fun e w' => e = .returned (.bool (allB s)) ∧ w' = w := by
  go_enter Trym.func12, Trym.ntmps12
  go_wp2
  go_loop [3] (fun i => ∃ k : Nat, k ≤ s.size ∧ i = .int .i64 k ∧ Hid (allTo s k = true)) (fun i => s.size - (intOf i).toNat)
  case atStart => exact ⟨0, Nat.zero_le _, rfl, rfl⟩
  case round =>
    obtain ⟨k, hk, rfl, HA⟩ := hrel
    by_cases hlt : k < s.size
    · cases hb : isB s[k] with
      | true =>
        have HB : Hid (isB s[k] = true) := hb
        clear hb
        go_wp2_with fail
        refine (isBlank_yes _ _ (isB_yes HB.out)).mono ?_
        rintro e w' ⟨rfl, rfl⟩
        go_wp2_with fail
        go_round
        case rel => exact ⟨k + 1, by omega, by go_num, by show allTo s (k + 1) = true; rw [allTo_succ hlt, HA.out, HB.out]; rfl⟩
        case measure => simp [intOf]; omega
      | false =>
        have HB : Hid (isB s[k] = false) := hb
        clear hb
        go_wp2_with fail
        refine (isBlank_no _ _ (isB_no HB.out).1 (isB_no HB.out).2.1 (isB_no HB.out).2.2).mono ?_
        rintro e w' ⟨rfl, rfl⟩
        go_wp2_with fail
        go_ret
        exact ⟨ret_bool (allB_false hlt HB.out).symm, rfl⟩
    · go_wp2
      go_ret
      exact ⟨ret_bool (by rw [← allTo_size s k (by omega), HA.out]), rfl⟩

/-- A newline stands in s. -/
def hasN (s : ByteArray) : Bool := s.data.toList.any (· == 10)
def noN (s : ByteArray) (k : Nat) : Bool := (s.data.toList.take k).any (· == 10)
theorem noN_succ {s : ByteArray} {k : Nat} (h : k < s.size) : noN s (k + 1) = (noN s k || s[k] == 10) := by
  unfold noN; rw [take_snoc s k h, List.any_append]; simp
theorem noN_size (s : ByteArray) (k : Nat) (h : s.size ≤ k) : noN s k = hasN s := by
  unfold noN hasN; rw [List.take_of_length_le (by simpa using h)]
theorem hasN_true {s : ByteArray} {k : Nat} (h : k < s.size) (hb : s[k] = 10) : hasN s = true := by
  unfold hasN
  rw [List.any_eq_true]
  exact ⟨s[k], by rw [← Array.mem_def]; exact Array.getElem_mem _, by simp [hb]⟩

set_option maxHeartbeats 400000 in
theorem hasByte_any (s : ByteArray) (w : World) (hs : s.size ≤ 1048576) :
    Calls Trym.prog 13 #[.string s, .int .u8 10] w fun e w' => e = .returned (.bool (hasN s)) ∧ w' = w := by
  go_enter Trym.func13, Trym.ntmps13
  go_wp2
  go_loop [5] (fun i => ∃ k : Nat, k ≤ s.size ∧ i = .int .i64 k ∧ Hid (noN s k = false)) (fun i => s.size - (intOf i).toNat)
  case atStart => exact ⟨0, Nat.zero_le _, rfl, rfl⟩
  case round =>
    obtain ⟨k, hk, rfl, HA⟩ := hrel
    by_cases hlt : k < s.size
    · by_cases hb : s[k] = 10
      · have HB : Hid (s[k] = 10) := hb
        have h10 : ((s[k].toNat : Int) == 10) = true := by rw [hb]; rfl
        clear hb
        go_wp2
        go_ret
        exact ⟨ret_bool (hasN_true hlt HB.out).symm, rfl⟩
      · have HB : Hid ((s[k] == 10) = false) := by show (s[k] == 10) = false; simpa using hb
        have h10 : ((s[k].toNat : Int) == 10) = false := byte_ne (n := 10) (by omega) hb
        clear hb
        go_wp2
        go_round
        case rel => exact ⟨k + 1, by omega, by go_num, by show noN s (k + 1) = false; rw [noN_succ hlt, HA.out, HB.out]; rfl⟩
        case measure => simp [intOf]; omega
    · go_wp2
      go_ret
      exact ⟨ret_bool (by rw [← noN_size s k (by omega), HA.out]), rfl⟩
end Go.Proofs.Qxb6001356aMods
