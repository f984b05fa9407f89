import Derived.Test.Qxb6000763aModsView
import Derived.Lib.SliceRun
import Derived.WalkSpells
namespace Go.Proofs.Qxb6000763aMods
open Go.ChangeShapes Go.WideShapes Go.ChangeAt Go.RowKit
set_option linter.unusedVariables false

theorem Trym.info2 : (Trym.prog.info? 2).map (fun i => (i.zero, i.size, i.bytes)) = some (some (.int .i64 0), 1, 8) := by kernel_rfl

/-- What a call's own row of numbers gives to whoever reads it. -/
theorem ints_of_own {w : World} {base : Nat} {v : Value} {Z : List Int} (h : w.ownsRow base 2 1 v Z.length (Z.map (Value.int .i64))) :
    ∃ a c, v = .slice a Z.length c ∧ Ints w a Z.length Z := by
  rcases h.2 with ⟨rfl, h0⟩ | ⟨g, cap, cur, rfl, hb, hg, hnc, hcm, hcs, htake⟩
  · exact ⟨none, 0, by rw [h0], rfl, .inl h0⟩
  · refine ⟨_, _, rfl, rfl, .inr ⟨g, 0, rfl, ?_, fun t ht => ?_⟩⟩
    · rcases Nat.lt_or_ge g w.heap.size with h1 | h1
      · exact h1
      · rw [Array.getElem?_eq_none h1] at hg; cases hg
    · rw [Nat.zero_add, h.cellAt t (by omega)]
      simp [List.getElem?_map, List.getElem?_eq_getElem ht]

/-- What 'clone' has laid behind k rounds. -/
def half (Z : List Int) (k : Nat) : List Int := Z.take k ++ List.replicate (Z.length - k) 0
theorem half_len (Z : List Int) (k : Nat) (h : k ≤ Z.length) : (half Z k).length = Z.length := by simp [half]; omega
theorem half_zero (Z : List Int) : half Z 0 = List.replicate Z.length 0 := by simp [half]
theorem half_all (Z : List Int) : half Z Z.length = Z := by simp [half]
theorem half_set (Z : List Int) (k : Nat) (h : k < Z.length) : (half Z k).set k (Z.getD k 0) = half Z (k + 1) := by
  apply List.ext_getElem
  · rw [List.length_set, half_len Z k (by omega), half_len Z (k + 1) (by omega)]
  · intro i h1 h2
    rw [List.length_set, half_len Z k (by omega)] at h1
    rw [List.getElem_set]
    simp only [half, List.getElem_append, List.length_take]
    by_cases e : k = i
    · subst e
      rw [if_pos rfl, dif_pos (by omega)]
      simp [List.getD_eq_getElem?_getD, List.getElem?_eq_getElem h]
    · rw [if_neg e]
      by_cases hik : i < k
      · rw [dif_pos (by omega), dif_pos (by omega)]; simp
      · rw [dif_neg (by omega), dif_neg (by omega)]; simp

set_option maxHeartbeats 400000 in
theorem clone_nil (w : World) : Calls Trym.prog 11 #[.slice none 0 0] w fun e w' => e = .returned (.slice none 0 0) ∧ w' = w := by
  have hq := fun w => Lib.run_eql_slice_nil (P := Trym.prog) w 27 2 none 0 0 0 0 Trym.underlying27
  go_enter Trym.func11, Trym.ntmps11
  go_wp2
  go_ret
  exact ⟨rfl, rfl⟩

set_option maxHeartbeats 400000 in
theorem clone_some (x : Addr) (n c : Nat) (Z : List Int) (w : World) (hZ : Ints w (some x) n Z) (hn : n ≤ 65536) :
    Calls Trym.prog 11 #[.slice (some x) n c] w fun e w' => e = .returned (.slice (some ⟨w.heap.size, 0, none⟩) n n) ∧ Ints w' (some ⟨w.heap.size, 0, none⟩) n Z ∧ Below w.heap.size w w' := by
  obtain ⟨i0, hi, hz0, hz1, hz2⟩ := info_parts Trym.info2
  have hq := fun w => Lib.run_eql_slice_nil (P := Trym.prog) w 27 2 (some x) n c 0 0 Trym.underlying27
  obtain ⟨hl, h0⟩ := hZ
  have HC : Hid (n = 0 ∨ ∃ b off, some x = some (⟨b, off, none⟩ : Addr) ∧ b < w.heap.size ∧ ∀ t, t < n → w.cell? ⟨b, off + t, none⟩ = some (.int .i64 (Z.getD t 0))) := h0
  have HL : Hid (Z.length = n) := hl
  clear h0 hl
  go_enter Trym.func11, Trym.ntmps11
  go_wp2_with (at_make; refine wpList_make_full _ rfl _ _ 27 rfl w.heap.size 2 i0 (.int .i64 0) 1 Trym.underlying27 hi hz0 hz1 _ _ _ _ n rfl rfl rfl rfl ?b2 ?b3 (Nat.le_refl _) ?_)
  case b2 => rw [hz2]; omega
  case b3 => unfold maxLen; omega
  intro w0 hown0 hgrow0
  have hown : w0.ownsRow w.heap.size 2 1 (.slice (some ⟨w.heap.size, 0, none⟩) n n) n ((half Z 0).map (Value.int .i64)) := by
    rw [half_zero, HL.out, List.map_replicate]
    simpa [Value.cells, toList_madeCells_one] using hown0
  clear hown0
  have hbel0 : Below w.heap.size w w0 := (Below.refl _ _).grown hgrow0 (Nat.le_refl _) (fun k h => by cases h)
  clear hgrow0
  go_wp2
  go_loopw [4] (fun i wr => ∃ k : Nat, k ≤ n ∧ i = .int .i64 k ∧ wr.ownsRow w.heap.size 2 1 (.slice (some ⟨w.heap.size, 0, none⟩) n n) n ((half Z k).map (Value.int .i64)) ∧ Below w.heap.size w wr) (fun i _ => n - (intOf i).toNat)
  case atStart => exact ⟨0, Nat.zero_le _, rfl, hown, hbel0⟩
  case round =>
    clear hown hbel0
    obtain ⟨k, hk, rfl, hown, hbel⟩ := hrel
    by_cases hlt : k < n
    · obtain ⟨b, off, hx, hb, hc⟩ : ∃ b off, some x = some (⟨b, off, none⟩ : Addr) ∧ b < w.heap.size ∧ ∀ t, t < n → w.cell? ⟨b, off + t, none⟩ = some (.int .i64 (Z.getD t 0)) := by
        rcases HC.out with h | h
        · omega
        · exact h
      obtain rfl : x = ⟨b, off, none⟩ := Option.some.inj hx
      obtain ⟨y, hy⟩ : ∃ y, y = Z.getD k 0 := ⟨_, rfl⟩
      have g0 : wr.cell? ⟨b, off + k, none⟩ = some (.int .i64 y) := by rw [hy]; exact (hbel.cell (by exact hb)).trans (hc k hlt)
      have HY : Hid (y = Z.getD k 0) := hy
      have g1 : ∃ u, wr.cell? ⟨w.heap.size, k, none⟩ = some u := by
        rw [hown.cellAt k (by omega)]
        have : k < ((half Z k).map (Value.int .i64)).length := by rw [List.length_map, half_len _ _ (by rw [HL.out]; omega), HL.out]; exact hlt
        exact ⟨_, List.getElem?_eq_getElem this⟩
      obtain ⟨u, g1⟩ := g1
      have f1 : wr.frozen? ⟨w.heap.size, k, none⟩ = false := hown.frozenAt k
      have hst := hown.stored k (.int .i64 y)
      have hst1 : (wr.setCell ⟨w.heap.size, k, none⟩ (.int .i64 y)).ownsRow w.heap.size 2 1 (.slice (some ⟨w.heap.size, 0, none⟩) n n) n ((half Z (k + 1)).map (Value.int .i64)) := by
        have := hst.1
        rw [← half_set Z k (by rw [HL.out]; exact hlt), List.map_set, ← hy]; exact this
      have hbel1 : Below w.heap.size w (wr.setCell ⟨w.heap.size, k, none⟩ (.int .i64 y)) := hbel.setCell (by simp) _
      clear hst hy hx hc HC
      have i0 : (0 : Int) ≤ (k : Int) := by omega
      have i2 : (k : Int) < (n : Int) := by omega
      have H1 := hst1
      have HS1 : Hid ((wr.setCell ⟨w.heap.size, k, none⟩ (.int .i64 y)).ownsRow w.heap.size 2 1 (.slice (some ⟨w.heap.size, 0, none⟩) n n) n ((half Z (k + 1)).map (Value.int .i64))) := hst1
      clear hst1 H1 hown
      go_wp2
      go_roundw
      case rel => exact ⟨k + 1, by omega, by go_num, HS1.out, hbel1⟩
      case measure => simp [intOf]; omega
    · go_wp2
      go_ret
      have e : k = n := by omega
      subst e
      rw [show half Z k = Z from by rw [← HL.out]; exact half_all Z] at hown
      have hown' : wr.ownsRow w.heap.size 2 1 (.slice (some ⟨w.heap.size, 0, none⟩) k k) Z.length (Z.map (Value.int .i64)) := by rw [HL.out]; exact hown
      obtain ⟨a, c', hv, hI⟩ := ints_of_own hown'
      simp only [Value.slice.injEq] at hv
      obtain ⟨rfl, _, _⟩ := hv
      exact ⟨rfl, by rw [← HL.out]; exact hI, hbel⟩
end Go.Proofs.Qxb6000763aMods
