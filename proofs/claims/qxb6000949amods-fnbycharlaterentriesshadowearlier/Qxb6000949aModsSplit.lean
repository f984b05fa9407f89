import Derived.Test.Qxb6000949aModsView
namespace Go.Proofs.Qxb6000949aMods
open Go.ChangeShapes Go.WideShapes Go.ChangeAt Go.RowKit
set_option linter.unusedVariables false

def col0 (L : List S3) : List Value := L.map fun s => .int .i32 s.1
def col1 (L : List S3) : List Value := L.map fun s => .int .i64 s.2.1
def col2 (L : List S3) : List Value := L.map fun s => .int .i64 s.2.2
theorem col0_set (L : List S3) (k : Nat) (s : S3) : col0 (L.set k s) = (col0 L).set k (.int .i32 s.1) := by simp [col0, List.map_set]
theorem col1_set (L : List S3) (k : Nat) (s : S3) : col1 (L.set k s) = (col1 L).set k (.int .i64 s.2.1) := by simp [col1, List.map_set]
theorem col2_set (L : List S3) (k : Nat) (s : S3) : col2 (L.set k s) = (col2 L).set k (.int .i64 s.2.2) := by simp [col2, List.map_set]
theorem col0_made (n : Nat) : (madeCells #[.int .i32 0] n).toList = col0 (List.replicate n (0, 0, 0)) := by simp [toList_madeCells_one, col0]
theorem col1_made (n : Nat) : (madeCells #[.int .i64 0] n).toList = col1 (List.replicate n (0, 0, 0)) := by simp [toList_madeCells_one, col1]
theorem col2_made (n : Nat) : (madeCells #[.int .i64 0] n).toList = col2 (List.replicate n (0, 0, 0)) := by simp [toList_madeCells_one, col2]

theorem own_cell1 {w : World} {base n cap g : Nat} {e : TypeId} {M : List Value} (h : w.ownsRow base e 1 (.slice (some ⟨g, 0, none⟩) n cap) n M) {j : Nat} (hj : j < n) : ∃ u, w.cell? ⟨g, j, none⟩ = some u := by
  rw [h.cellAt j (by omega)]
  exact ⟨_, List.getElem?_eq_getElem (by rw [h.1]; omega)⟩

/-- Three parallel rows, each at its block's head, that hold L's three columns. -/
def Cols (w : World) (g0 g1 g2 : Nat) (L : List S3) : Prop :=
  g0 < w.heap.size ∧ g1 < w.heap.size ∧ g2 < w.heap.size ∧ ∀ t s, L[t]? = some s → w.cell? ⟨g0, t, none⟩ = some (.int .i32 s.1) ∧ w.cell? ⟨g1, t, none⟩ = some (.int .i64 s.2.1) ∧ w.cell? ⟨g2, t, none⟩ = some (.int .i64 s.2.2)

/-- The three rows as the call fills them. -/
def Own3 (w : World) (base g0 g1 g2 n : Nat) (M : List S3) : Prop :=
  w.ownsRow base 21 1 (.slice (some ⟨g0, 0, none⟩) n n) n (col0 M) ∧ w.ownsRow base 3 1 (.slice (some ⟨g1, 0, none⟩) n n) n (col1 M) ∧ w.ownsRow base 2 1 (.slice (some ⟨g2, 0, none⟩) n n) n (col2 M)

theorem own3_cols {w : World} {base g0 g1 g2 n : Nat} {L : List S3} (h : Own3 w base g0 g1 g2 n L) : Cols w g0 g1 g2 L := by
  obtain ⟨h0, h1, h2⟩ := h
  have hl := h0.1
  simp [col0] at hl
  refine ⟨(h0.lt g0 rfl).2, (h1.lt g1 rfl).2, (h2.lt g2 rfl).2, fun t s ht => ?_⟩
  have hlt : t < L.length := by
    rcases Nat.lt_or_ge t L.length with h1 | h1
    · exact h1
    · rw [List.getElem?_eq_none h1] at ht; cases ht
  rw [h0.cellAt t (by omega), h1.cellAt t (by omega), h2.cellAt t (by omega)]
  simp [col0, col1, col2, ht]

theorem own3_set {w : World} {base g0 g1 g2 n : Nat} {M : List S3} (h : Own3 w base g0 g1 g2 n M) (h01 : g0 ≠ g1) (h02 : g0 ≠ g2) (h12 : g1 ≠ g2) (k : Nat) (s : S3) :
    Own3 (((w.setCell ⟨g0, k, none⟩ (.int .i32 s.1)).setCell ⟨g1, k, none⟩ (.int .i64 s.2.1)).setCell ⟨g2, k, none⟩ (.int .i64 s.2.2)) base g0 g1 g2 n (M.set k s) := by
  obtain ⟨h0, h1, h2⟩ := h
  have a := h0.stored k (.int .i32 s.1)
  have b0 := a.1
  have b1 := h1.kept a.2 (.inr (by simp [Value.ownBlock]; omega))
  have b2 := h2.kept a.2 (.inr (by simp [Value.ownBlock]; omega))
  have b := b1.stored k (.int .i64 s.2.1)
  have c0 := b0.kept b.2 (.inr (by simp [Value.ownBlock]; omega))
  have c2 := b2.kept b.2 (.inr (by simp [Value.ownBlock]; omega))
  have c := c2.stored k (.int .i64 s.2.2)
  have d0 := c0.kept c.2 (.inr (by simp [Value.ownBlock]; omega))
  have d1 := b.1.kept c.2 (.inr (by simp [Value.ownBlock]; omega))
  unfold Own3
  rw [col0_set, col1_set, col2_set]
  exact ⟨d0, d1, c.1⟩

set_option maxHeartbeats 1600000 in
theorem split_any (a : Option Addr) (n c : Nat) (L : List S3) (w : World) (hL : Syms w a n L) (hn : n ≤ 65536) :
    Calls Trym.prog 10 #[.slice a n c] w fun e w' => ∃ g0 g1 g2, e = .returned (.tuple #[.slice (some ⟨g0, 0, none⟩) n n, .slice (some ⟨g1, 0, none⟩) n n, .slice (some ⟨g2, 0, none⟩) n n]) ∧ Cols w' g0 g1 g2 L ∧ Below w.heap.size w w' := by
  obtain ⟨i0, hi, hz0, hz1, hz2⟩ := info_parts Trym.info21
  obtain ⟨j0, hj, hy0, hy1, hy2⟩ := info_parts Trym.info3
  obtain ⟨l0, hk, hx0, hx1, hx2⟩ := info_parts Trym.info2
  obtain ⟨hl, hwf, h0⟩ := hL
  have HC : Hid (n = 0 ∨ ∃ b off, a = some (⟨b, off, none⟩ : Addr) ∧ b < w.heap.size ∧ ∀ t s, L[t]? = some s →
    w.cell? ⟨b, off + t * 3, none⟩ = some (.int .i32 s.1) ∧ w.cell? ⟨b, off + t * 3 + 1, none⟩ = some (.int .i64 s.2.1) ∧ w.cell? ⟨b, off + t * 3 + 2, none⟩ = some (.int .i64 s.2.2)) := h0
  have HL : Hid (L.length = n) := hl
  clear h0 hl hwf
  go_enter Trym.func10, Trym.ntmps10
  go_wp2_with (at_make; refine wpList_make_full _ rfl (.tmp 12) (.tmp 12) 25 rfl w.heap.size 21 i0 (.int .i32 0) 1 Trym.underlying25 hi hz0 hz1 _ _ _ _ n rfl rfl rfl rfl ?b2 ?b3 (Nat.le_refl _) ?_)
  case b2 => rw [hz2]; omega
  case b3 => unfold maxLen; omega
  intro w0 hown0 hgrow0
  rw [col0_made] at hown0
  have hs0 := (hown0.lt w.heap.size rfl).2
  have hbel0 : Below w.heap.size w w0 := (Below.refl _ _).grown hgrow0 (Nat.le_refl _) (fun k h => by cases h)
  clear hgrow0
  go_wp2_with (at_make; refine wpList_make_full _ rfl (.tmp 14) (.tmp 14) 26 rfl w.heap.size 3 j0 (.int .i64 0) 1 Trym.underlying26 hj hy0 hy1 _ _ _ _ n rfl rfl rfl rfl ?b4 ?b5 (by omega) ?_)
  case b4 => rw [hy2]; omega
  case b5 => unfold maxLen; omega
  intro w1 hown1 hgrow1
  rw [col1_made] at hown1
  have hs1 := (hown1.lt w0.heap.size rfl).2
  have hown01 := hown0.kept hgrow1 (.inr (by simp [Value.ownBlock]))
  have hbel1 : Below w.heap.size w w1 := hbel0.grown hgrow1 (by omega) (fun k h => by cases h)
  clear hgrow1 hown0 hbel0
  go_wp2_with (at_make; refine wpList_make_full _ rfl (.tmp 16) (.tmp 16) 27 rfl w.heap.size 2 l0 (.int .i64 0) 1 Trym.underlying27 hk hx0 hx1 _ _ _ _ n rfl rfl rfl rfl ?b6 ?b7 (by omega) ?_)
  case b6 => rw [hx2]; omega
  case b7 => unfold maxLen; omega
  intro w2 hown2 hgrow2
  rw [col2_made] at hown2
  have hs2 := (hown2.lt w1.heap.size rfl).2
  have hown02 := hown01.kept hgrow2 (.inr (by simp [Value.ownBlock]))
  have hown12 := hown1.kept hgrow2 (.inr (by simp [Value.ownBlock]))
  have hbel2 : Below w.heap.size w w2 := hbel1.grown hgrow2 (by omega) (fun k h => by cases h)
  clear hgrow2 hown01 hown1 hbel1
  have hO : Hid (Own3 w2 w.heap.size w.heap.size w0.heap.size w1.heap.size n (half L 0)) := by
    rw [half_zero, HL.out]; exact ⟨hown02, hown12, hown2⟩
  clear hown02 hown12 hown2
  generalize hg1 : w0.heap.size = g1 at *
  generalize hg2 : w1.heap.size = g2 at *
  clear hg1 hg2
  go_wp2
  go_loopw [9] (fun i wr => ∃ k : Nat, k ≤ n ∧ i = .int .i64 k ∧ Hid (Own3 wr w.heap.size w.heap.size g1 g2 n (half L k)) ∧ Below w.heap.size w wr) (fun i _ => n - (intOf i).toNat)
  case atStart => exact ⟨0, Nat.zero_le _, rfl, hO, hbel2⟩
  case round =>
    clear hO hbel2
    obtain ⟨k, hk, rfl, HO, hbel⟩ := hrel
    by_cases hlt : k < n
    · obtain ⟨b, off, rfl, hb, hc⟩ : ∃ b off, a = some (⟨b, off, none⟩ : Addr) ∧ b < w.heap.size ∧ ∀ t s, L[t]? = some s →
          w.cell? ⟨b, off + t * 3, none⟩ = some (.int .i32 s.1) ∧ w.cell? ⟨b, off + t * 3 + 1, none⟩ = some (.int .i64 s.2.1) ∧ w.cell? ⟨b, off + t * 3 + 2, none⟩ = some (.int .i64 s.2.2) := by
        rcases HC.out with h | h
        · omega
        · exact h
      obtain ⟨⟨sc, sk, sv⟩, hs⟩ : ∃ s, L[k]? = some s := ⟨_, List.getElem?_eq_getElem (by rw [HL.out]; exact hlt)⟩
      have hcs := hc k _ hs
      have q0 : wr.cell? ⟨b, off + k * 3, none⟩ = some (.int .i32 sc) := (hbel.cell (by exact hb)).trans hcs.1
      have q1 : wr.cell? ⟨b, off + k * 3 + 1, none⟩ = some (.int .i64 sk) := (hbel.cell (by exact hb)).trans hcs.2.1
      have q2 : wr.cell? ⟨b, off + k * 3 + 2, none⟩ = some (.int .i64 sv) := (hbel.cell (by exact hb)).trans hcs.2.2
      clear hcs hc HC
      have HS : Hid (L[k]? = some (sc, sk, sv)) := hs
      clear hs
      have f0 : wr.frozen? ⟨w.heap.size, k, none⟩ = false := HO.out.1.frozenAt _
      have f1 : wr.frozen? ⟨g1, k, none⟩ = false := HO.out.2.1.frozenAt _
      have f2 : wr.frozen? ⟨g2, k, none⟩ = false := HO.out.2.2.frozenAt _
      obtain ⟨u0, d0⟩ := own_cell1 HO.out.1 hlt
      obtain ⟨u1, d1⟩ := own_cell1 HO.out.2.1 hlt
      obtain ⟨u2, d2⟩ := own_cell1 HO.out.2.2 hlt
      have i0 : (0 : Int) ≤ (k : Int) := by omega
      have i2 : (k : Int) < (n : Int) := by omega
      have n1 : ¬ w.heap.size = b := by omega
      have n2 : ¬ g1 = b := by omega
      have n3 : ¬ g2 = b := by omega
      have n4 : ¬ w.heap.size = g1 := by omega
      have n5 : ¬ w.heap.size = g2 := by omega
      have n6 : ¬ g1 = g2 := by omega
      have m1 : ¬ b = w.heap.size := by omega
      have m2 : ¬ b = g1 := by omega
      have m3 : ¬ b = g2 := by omega
      have m4 : ¬ g1 = w.heap.size := by omega
      have m5 : ¬ g2 = w.heap.size := by omega
      have m6 : ¬ g2 = g1 := by omega
      have hnew : Hid (Own3 (((wr.setCell ⟨w.heap.size, k, none⟩ (.int .i32 sc)).setCell ⟨g1, k, none⟩ (.int .i64 sk)).setCell ⟨g2, k, none⟩ (.int .i64 sv)) w.heap.size w.heap.size g1 g2 n (half L (k + 1))) := by
        rw [← half_set L k _ HS.out]; exact own3_set HO.out n4 n5 n6 k (sc, sk, sv)
      have hbel1 : Below w.heap.size w (((wr.setCell ⟨w.heap.size, k, none⟩ (.int .i32 sc)).setCell ⟨g1, k, none⟩ (.int .i64 sk)).setCell ⟨g2, k, none⟩ (.int .i64 sv)) :=
        ((hbel.setCell (by simp) _).setCell (by simp; omega) _).setCell (by simp; omega) _
      go_wp2
      go_roundw
      case rel => exact ⟨k + 1, by omega, by go_num, hnew.out, hbel1⟩
      case measure => simp [intOf]; omega
    · go_wp2
      go_ret3
      have e : k = n := by omega
      subst e
      have hO := HO.out
      rw [show half L k = L from by rw [← HL.out]; exact half_all L] at hO
      exact ⟨_, _, _, rfl, own3_cols hO, hbel⟩
end Go.Proofs.Qxb6000949aMods
