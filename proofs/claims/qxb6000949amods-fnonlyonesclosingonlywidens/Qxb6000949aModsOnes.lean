import Derived.Test.Qxb6000949aModsMk
namespace Go.Proofs.Qxb6000949aMods
open Go.ChangeShapes Go.WideShapes Go.ChangeAt Go.RowKit
set_option linter.unusedVariables false

theorem bcell {W w1 : World} (hb : Below W.heap.size W w1) : (∀ b o, b < W.heap.size → w1.cell? ⟨b, o, none⟩ = W.cell? ⟨b, o, none⟩) ∧ (∀ b o, b < W.heap.size → w1.frozen? ⟨b, o, none⟩ = W.frozen? ⟨b, o, none⟩) :=
  ⟨fun b o h => hb.cell (p := ⟨b, o, none⟩) h, fun b o h => hb.frozen (p := ⟨b, o, none⟩) h⟩

set_option maxHeartbeats 400000 in
theorem is_yes (sc sk sv : Int) (w : World) :
    Calls Trym.prog 23 #[.agg #[.int .i32 sc, .int .i64 sk, .int .i64 sv], .int .i64 sk, .int .i64 sv] w fun e w' => e = .returned (.bool true) ∧ Below w.heap.size w w' := by
  go_enter Trym.func23, Trym.ntmps23
  go_wp2
  go_ret
  exact ⟨rfl, (Below.refl _ _).alloc (Nat.le_refl _) _⟩
set_option maxHeartbeats 400000 in
theorem is_no (sc sk sv k v : Int) (h : ¬ (sk = k ∧ sv = v)) (w : World) :
    Calls Trym.prog 23 #[.agg #[.int .i32 sc, .int .i64 sk, .int .i64 sv], .int .i64 k, .int .i64 v] w fun e w' => e = .returned (.bool false) ∧ Below w.heap.size w w' := by
  by_cases h1 : sk = k
  · subst h1
    have h2 : (sv == v) = false := by simp at h; simpa using h
    clear h
    go_enter Trym.func23, Trym.ntmps23
    go_wp2
    go_ret
    exact ⟨rfl, (Below.refl _ _).alloc (Nat.le_refl _) _⟩
  · have h2 : (sk == k) = false := by simpa using h1
    clear h
    go_enter Trym.func23, Trym.ntmps23
    go_wp2
    go_ret
    exact ⟨rfl, (Below.refl _ _).alloc (Nat.le_refl _) _⟩

/-- What 'onlyOnes' says of the symbol before. -/
def ones (sk sv : Int) (closing : Bool) : Bool := (decide (sk = 0) && decide (sv = 0)) || (decide (sk = 1) && decide (sv = 10)) || (decide (sk = 2) && closing)

set_option maxHeartbeats 400000 in
theorem ones_zero (x : Addr) (n c : Nat) (cl : Bool) (w : World) :
    Calls Trym.prog 22 #[.slice (some x) n c, .int .i64 0, .bool cl] w fun e w' => e = .returned (.bool true) ∧ Below w.heap.size w w' := by
  go_enter Trym.func22, Trym.ntmps22
  go_wp2
  go_ret
  exact ⟨rfl, Below.refl _ _⟩

set_option maxHeartbeats 1600000 in
theorem ones_at (b off n c k : Nat) (sc sk sv : Int) (cl : Bool) (w : World) (hk : k < n) (hn : n ≤ 65536) (hb : b < w.heap.size)
    (q0 : w.cell? ⟨b, off + k * 3, none⟩ = some (.int .i32 sc)) (q1 : w.cell? ⟨b, off + k * 3 + 1, none⟩ = some (.int .i64 sk)) (q2 : w.cell? ⟨b, off + k * 3 + 2, none⟩ = some (.int .i64 sv)) :
    Calls Trym.prog 22 #[.slice (some ⟨b, off, none⟩) n c, .int .i64 ((k : Int) + 1), .bool cl] w fun e w' => e = .returned (.bool (ones sk sv cl)) ∧ Below w.heap.size w w' := by
  have i0 : (0 : Int) ≤ (k : Int) := by omega
  have i2 : (k : Int) < (n : Int) := by omega
  have i3 : ((k : Int) + 1 == 0) = false := by simp; omega
  by_cases hA : sk = 0 ∧ sv = 0
  · obtain ⟨rfl, rfl⟩ := hA
    go_enter Trym.func22, Trym.ntmps22
    go_wp2_with fail
    refine (is_yes sc 0 0 _).mono ?_
    rintro e w1 ⟨rfl, b1⟩
    have B1 := ((Below.refl w.heap.size w).alloc (Nat.le_refl _) _).trans (b1.mono (by simp))
    clear b1
    go_wp2_with fail
    go_ret
    exact ⟨ret_bool (by simp [ones]), B1⟩
  by_cases hB : sk = 1 ∧ sv = 10
  · obtain ⟨rfl, rfl⟩ := hB
    clear hA
    go_enter Trym.func22, Trym.ntmps22
    go_wp2_with fail
    refine (is_no sc 1 10 0 0 (by omega) _).mono ?_
    rintro e w1 ⟨rfl, b1⟩
    obtain ⟨hc, hf⟩ := bcell b1
    have B1 := ((Below.refl w.heap.size w).alloc (Nat.le_refl _) _).trans (b1.mono (by simp))
    have hz1 : w.heap.size < w1.heap.size := by have := b1.size; simp at this; omega
    clear b1
    go_wp2_with fail
    refine (is_yes sc 1 10 _).mono ?_
    rintro e w2 ⟨rfl, b2⟩
    have B2 := B1.trans (b2.mono B1.size)
    clear b2
    go_wp2_with fail
    go_ret
    exact ⟨ret_bool (by simp [ones]), B2⟩
  · have hone : Hid (ones sk sv cl = (decide (sk = 2) && cl)) := by
      have h1 : (decide (sk = 0) && decide (sv = 0)) = false := by simp; omega
      have h2 : (decide (sk = 1) && decide (sv = 10)) = false := by simp; omega
      show ones sk sv cl = _
      unfold ones; rw [h1, h2]; rfl
    have HA : Hid (¬ (sk = 0 ∧ sv = 0)) := hA
    have HB : Hid (¬ (sk = 1 ∧ sv = 10)) := hB
    clear hA hB
    by_cases h2 : sk = 2
    · subst h2
      go_enter Trym.func22, Trym.ntmps22
      go_wp2_with fail
      refine (is_no sc 2 sv 0 0 HA.out _).mono ?_
      rintro e w1 ⟨rfl, b1⟩
      obtain ⟨hc, hf⟩ := bcell b1
      have B1 := ((Below.refl w.heap.size w).alloc (Nat.le_refl _) _).trans (b1.mono (by simp))
      have hz1 : w.heap.size < w1.heap.size := by have := b1.size; simp at this; omega
      clear b1
      go_wp2_with fail
      refine (is_no sc 2 sv 1 10 HB.out _).mono ?_
      rintro e w2 ⟨rfl, b2⟩
      obtain ⟨hc2, hf2⟩ := bcell b2
      have B2 := B1.trans (b2.mono B1.size)
      clear b2
      go_wp2_with fail
      go_ret
      exact ⟨ret_bool (by rw [hone.out]; simp), B2⟩
    · have h2' : (sk == 2) = false := by simpa using h2
      go_enter Trym.func22, Trym.ntmps22
      go_wp2_with fail
      refine (is_no sc sk sv 0 0 HA.out _).mono ?_
      rintro e w1 ⟨rfl, b1⟩
      obtain ⟨hc, hf⟩ := bcell b1
      have B1 := ((Below.refl w.heap.size w).alloc (Nat.le_refl _) _).trans (b1.mono (by simp))
      have hz1 : w.heap.size < w1.heap.size := by have := b1.size; simp at this; omega
      clear b1
      go_wp2_with fail
      refine (is_no sc sk sv 1 10 HB.out _).mono ?_
      rintro e w2 ⟨rfl, b2⟩
      obtain ⟨hc2, hf2⟩ := bcell b2
      have B2 := B1.trans (b2.mono B1.size)
      clear b2
      go_wp2_with fail
      go_ret
      exact ⟨ret_bool (by rw [hone.out]; simp [h2]), B2⟩

set_option maxHeartbeats 400000 in
theorem zzones_zero (x : Addr) (n c : Nat) (cl : Bool) (w : World) :
    Calls Trym.prog 19 #[.slice (some x) n c, .int .i64 0, .bool cl] w fun e w' => e = .returned (.bool true) ∧ Below w.heap.size w w' := by
  go_enter Trym.func19, Trym.ntmps19
  go_wp2_with fail
  refine (ones_zero x n c cl w).mono ?_
  rintro e w' ⟨rfl, hb⟩
  go_wp2_with fail
  go_ret
  exact ⟨rfl, hb⟩
set_option maxHeartbeats 400000 in
theorem zzones_at (x : Addr) (n c k : Nat) (L : List S3) (s : S3) (cl : Bool) (w : World) (hL : Syms w (some x) n L) (hs : L[k]? = some s) (hn : n ≤ 65536) :
    Calls Trym.prog 19 #[.slice (some x) n c, .int .i64 ((k : Int) + 1), .bool cl] w fun e w' => e = .returned (.bool (ones s.2.1 s.2.2 cl)) ∧ Below w.heap.size w w' := by
  have hk : k < n := by
    rw [← hL.1]
    rcases Nat.lt_or_ge k L.length with h1 | h1
    · exact h1
    · rw [List.getElem?_eq_none h1] at hs; cases hs
  obtain ⟨hl, hwf, h0 | ⟨b, off, hx, hb, hc⟩⟩ := hL
  · omega
  obtain rfl := Option.some.inj hx
  obtain ⟨q0, q1, q2⟩ := hc k s hs
  have key := ones_at b off n c k s.1 s.2.1 s.2.2 cl w hk hn hb q0 q1 q2
  generalize ones s.2.1 s.2.2 cl = r at *
  clear q0 q1 q2 hc hs
  go_enter Trym.func19, Trym.ntmps19
  go_wp2_with fail
  refine key.mono ?_
  rintro e w' ⟨rfl, hb⟩
  go_wp2_with fail
  go_ret
  exact ⟨rfl, hb⟩
end Go.Proofs.Qxb6000949aMods
