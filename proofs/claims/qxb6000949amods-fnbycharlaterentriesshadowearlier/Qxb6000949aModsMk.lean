import Derived.Test.Qxb6000949aModsSplit
import Derived.BigRegion
namespace Go.Proofs.Qxb6000949aMods
open Go.ChangeShapes Go.WideShapes Go.ChangeAt Go.RowKit
set_option linter.unusedVariables false

set_option maxHeartbeats 1600000 in
theorem symbols_any (g0 g1 g2 n : Nat) (L : List S3) (w : World) (hL : Cols w g0 g1 g2 L) (hl : L.length = n) (hwf : ∀ s ∈ L, (Lit.int .i32 s.1).wf = true) (hn : n ≤ 65536) :
    Calls Trym.prog 11 #[.slice (some ⟨g0, 0, none⟩) n n, .slice (some ⟨g1, 0, none⟩) n n, .slice (some ⟨g2, 0, none⟩) n n] w fun e w' => e = .returned (.slice (some ⟨w.heap.size, 0, none⟩) n n) ∧ Syms w' (some ⟨w.heap.size, 0, none⟩) n L ∧ Below w.heap.size w w' := by
  obtain ⟨i0, hi, hz0, hz1, hz2⟩ := info_parts Trym.info48
  obtain ⟨hb0, hb1, hb2, hc⟩ := hL
  have HC : Hid (∀ t s, L[t]? = some s → w.cell? ⟨g0, t, none⟩ = some (.int .i32 s.1) ∧ w.cell? ⟨g1, t, none⟩ = some (.int .i64 s.2.1) ∧ w.cell? ⟨g2, t, none⟩ = some (.int .i64 s.2.2)) := hc
  have HL : Hid (L.length = n) := hl
  have HW : Hid (∀ s ∈ L, (Lit.int .i32 s.1).wf = true) := hwf
  clear hc hl hwf
  go_enter Trym.func11, Trym.ntmps11
  go_wp2_with (at_make; refine wpList_make_full _ rfl _ _ 30 rfl w.heap.size 48 i0 (.agg #[.int .i32 0, .int .i64 0, .int .i64 0]) 3 Trym.underlying30 hi hz0 hz1 _ _ _ _ n rfl rfl rfl rfl ?b2 ?b3 (Nat.le_refl _) ?_)
  case b2 => rw [hz2]; omega
  case b3 => unfold maxLen; omega
  intro w0 hown0 hgrow0
  have hown : Hid (w0.ownsRow w.heap.size 48 3 (.slice (some ⟨w.heap.size, 0, none⟩) n n) n (cells3 (half L 0))) := by
    rw [half_zero, HL.out, ← made3]; exact hown0
  clear hown0
  have hbel0 : Below w.heap.size w w0 := (Below.refl _ _).grown hgrow0 (Nat.le_refl _) (fun k h => by cases h)
  clear hgrow0
  go_wp2
  go_loopw [9] (fun i wr => ∃ k : Nat, k ≤ n ∧ i = .int .i64 k ∧ Hid (wr.ownsRow w.heap.size 48 3 (.slice (some ⟨w.heap.size, 0, none⟩) n n) n (cells3 (half L k))) ∧ Below w.heap.size w wr) (fun i _ => n - (intOf i).toNat)
  case atStart => exact ⟨0, Nat.zero_le _, rfl, hown, hbel0⟩
  case round =>
    clear hown hbel0
    obtain ⟨k, hk, rfl, HO, hbel⟩ := hrel
    by_cases hlt : k < n
    · obtain ⟨⟨sc, sk, sv⟩, hs⟩ : ∃ s, L[k]? = some s := ⟨_, List.getElem?_eq_getElem (by rw [HL.out]; exact hlt)⟩
      have hcs := HC.out k _ hs
      have q0 : wr.cell? ⟨g0, k, none⟩ = some (.int .i32 sc) := (hbel.cell (by exact hb0)).trans hcs.1
      have q1 : wr.cell? ⟨g1, k, none⟩ = some (.int .i64 sk) := (hbel.cell (by exact hb1)).trans hcs.2.1
      have q2 : wr.cell? ⟨g2, k, none⟩ = some (.int .i64 sv) := (hbel.cell (by exact hb2)).trans hcs.2.2
      clear hcs
      have HS : Hid (L[k]? = some (sc, sk, sv)) := hs
      clear hs
      have f0 : wr.frozen? ⟨w.heap.size, k * 3, none⟩ = false := HO.out.frozenAt _
      have f1 : wr.frozen? ⟨w.heap.size, k * 3 + 1, none⟩ = false := HO.out.frozenAt _
      have f2 : wr.frozen? ⟨w.heap.size, k * 3 + 2, none⟩ = false := HO.out.frozenAt _
      obtain ⟨u0, d0⟩ := own_cell HO.out (show k * 3 < n * 3 by omega)
      obtain ⟨u1, d1⟩ := own_cell HO.out (show k * 3 + 1 < n * 3 by omega)
      obtain ⟨u2, d2⟩ := own_cell HO.out (show k * 3 + 2 < n * 3 by omega)
      have i0 : (0 : Int) ≤ (k : Int) := by omega
      have i2 : (k : Int) < (n : Int) := by omega
      have hnew : Hid ((((wr.setCell ⟨w.heap.size, k * 3, none⟩ (.int .i32 sc)).setCell ⟨w.heap.size, k * 3 + 1, none⟩ (.int .i64 sk)).setCell ⟨w.heap.size, k * 3 + 2, none⟩ (.int .i64 sv)).ownsRow w.heap.size 48 3 (.slice (some ⟨w.heap.size, 0, none⟩) n n) n (cells3 (half L (k + 1)))) := by
        rw [← half_set L k _ HS.out]; exact own_set3 HO.out k (sc, sk, sv)
      have hbel1 : Below w.heap.size w (((wr.setCell ⟨w.heap.size, k * 3, none⟩ (.int .i32 sc)).setCell ⟨w.heap.size, k * 3 + 1, none⟩ (.int .i64 sk)).setCell ⟨w.heap.size, k * 3 + 2, none⟩ (.int .i64 sv)) :=
        ((hbel.setCell (by simp) _).setCell (by simp) _).setCell (by simp) _
      go_wp2
      go_region
      go_wp2
      go_roundw
      case rel => exact ⟨k + 1, by omega, by go_num, hnew.out.drew, hbel1.drew⟩
      case measure => simp [intOf]; omega
    · go_wp2
      go_ret
      have e : k = n := by omega
      subst e
      have hown := HO.out
      rw [show half L k = L from by rw [← HL.out]; exact half_all L] at hown
      have hown' : wr.ownsRow w.heap.size 48 3 (.slice (some ⟨w.heap.size, 0, none⟩) k k) L.length (cells3 L) := by rw [HL.out]; exact hown
      obtain ⟨a, c', hv, hI⟩ := syms_of_own HW.out hown'
      simp only [Value.slice.injEq] at hv
      obtain ⟨rfl, _, _⟩ := hv
      exact ⟨rfl, by rw [← HL.out]; exact hI, hbel⟩
end Go.Proofs.Qxb6000949aMods
