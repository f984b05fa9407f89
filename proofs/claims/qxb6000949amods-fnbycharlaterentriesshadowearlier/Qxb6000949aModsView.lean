import Derived.Test.Qxb6000949aModsRows
import Derived.WalkKit
import Derived.ProofKit
import Derived.OpenShut
import Derived.RegionTactic
import Derived.Deep.QuietTactic
import Derived.BigQuiet
import Derived.Outline
import Derived.WalkSmall
import Derived.Lib.SliceRun
import Derived.WalkSpells
namespace Go.Proofs.Qxb6000949aMods
open Go.ChangeShapes Go.WideShapes Go.ChangeAt Go.RowKit
set_option linter.unusedVariables false

/-- A symbol as plain data: its character, its kind, its worth. -/
abbrev S3 := Int × Int × Int
/-- A symbol's three cells. -/
def c3 (s : S3) : List Value := [.int .i32 s.1, .int .i64 s.2.1, .int .i64 s.2.2]
def cells3 (L : List S3) : List Value := L.flatMap c3

/-- The slice of n symbols at a holds L in the world w. -/
def Syms (w : World) (a : Option Addr) (n : Nat) (L : List S3) : Prop :=
  L.length = n ∧ (∀ s ∈ L, (Lit.int .i32 s.1).wf = true) ∧ (n = 0 ∨ ∃ b off, a = some ⟨b, off, none⟩ ∧ b < w.heap.size ∧ ∀ t s, L[t]? = some s →
    w.cell? ⟨b, off + t * 3, none⟩ = some (.int .i32 s.1) ∧ w.cell? ⟨b, off + t * 3 + 1, none⟩ = some (.int .i64 s.2.1) ∧ w.cell? ⟨b, off + t * 3 + 2, none⟩ = some (.int .i64 s.2.2))

theorem Syms.below {w w' : World} {a : Option Addr} {n : Nat} {L : List S3} (h : Syms w a n L) (hb : Below w.heap.size w w') : Syms w' a n L := by
  obtain ⟨h1, hw, h2⟩ := h
  refine ⟨h1, hw, ?_⟩
  rcases h2 with h2 | ⟨b, off, ha, hlt, hc⟩
  · exact .inl h2
  · exact .inr ⟨b, off, ha, Nat.lt_of_lt_of_le hlt hb.size, fun t s ht => ⟨(hb.cell (p := ⟨b, off + t * 3, none⟩) hlt).trans (hc t s ht).1, (hb.cell (p := ⟨b, off + t * 3 + 1, none⟩) hlt).trans (hc t s ht).2.1, (hb.cell (p := ⟨b, off + t * 3 + 2, none⟩) hlt).trans (hc t s ht).2.2⟩⟩

theorem cells3_len (L : List S3) : (cells3 L).length = L.length * 3 := by
  induction L with
  | nil => rfl
  | cons s r ih => simp [cells3, c3] at ih ⊢; omega
theorem cells3_at : ∀ (L : List S3) (t : Nat) (s : S3), L[t]? = some s → (cells3 L)[t * 3]? = some (.int .i32 s.1) ∧ (cells3 L)[t * 3 + 1]? = some (.int .i64 s.2.1) ∧ (cells3 L)[t * 3 + 2]? = some (.int .i64 s.2.2)
  | [], t, s, h => by simp at h
  | x :: r, 0, s, h => by simp at h; subst h; simp [cells3, c3]
  | x :: r, t + 1, s, h => by
    have ih := cells3_at r t s (by simpa using h)
    have e : cells3 (x :: r) = .int .i32 x.1 :: .int .i64 x.2.1 :: .int .i64 x.2.2 :: cells3 r := by simp [cells3, c3]
    rw [e, show (t + 1) * 3 = t * 3 + 3 from by omega]
    simpa using ih

/-- What a call's own row of symbols gives to whoever reads it. -/
theorem syms_of_own {w : World} {base : Nat} {e : TypeId} {v : Value} {L : List S3} (hw : ∀ s ∈ L, (Lit.int .i32 s.1).wf = true) (h : w.ownsRow base e 3 v L.length (cells3 L)) :
    ∃ a c, v = .slice a L.length c ∧ Syms w a L.length L := by
  rcases h.2 with ⟨rfl, h0⟩ | ⟨g, cap, cur, rfl, hb, hg, hnc, hcm, hcs, htake⟩
  · exact ⟨none, 0, by rw [h0], rfl, hw, .inl h0⟩
  · refine ⟨_, _, rfl, rfl, hw, .inr ⟨g, 0, rfl, ?_, fun t s ht => ?_⟩⟩
    · rcases Nat.lt_or_ge g w.heap.size with h1 | h1
      · exact h1
      · rw [Array.getElem?_eq_none h1] at hg; cases hg
    · have hlt : t < L.length := by
        rcases Nat.lt_or_ge t L.length with h1 | h1
        · exact h1
        · rw [List.getElem?_eq_none h1] at ht; cases ht
      have := cells3_at L t s ht
      rw [Nat.zero_add, h.cellAt (t * 3) (by omega), h.cellAt (t * 3 + 1) (by omega), h.cellAt (t * 3 + 2) (by omega)]
      exact this

theorem ret_bool {a b : Bool} (h : a = b) : Ending.returned (.bool a) = .returned (.bool b) := by rw [h]

theorem Trym.info37 : (Trym.prog.info? 37).map (fun i => (i.zero, i.size, i.bytes)) = some (some (.agg #[.int .i32 0, .int .i64 0, .int .i64 0]), 3, 24) := by kernel_rfl
theorem Trym.info48 : (Trym.prog.info? 48).map (fun i => (i.zero, i.size, i.bytes)) = some (some (.agg #[.int .i32 0, .int .i64 0, .int .i64 0]), 3, 24) := by kernel_rfl
theorem Trym.info21 : (Trym.prog.info? 21).map (fun i => (i.zero, i.size, i.bytes)) = some (some (.int .i32 0), 1, 4) := by kernel_rfl
theorem Trym.info3 : (Trym.prog.info? 3).map (fun i => (i.zero, i.size, i.bytes)) = some (some (.int .i64 0), 1, 8) := by kernel_rfl
theorem Trym.info2 : (Trym.prog.info? 2).map (fun i => (i.zero, i.size, i.bytes)) = some (some (.int .i64 0), 1, 8) := by kernel_rfl

theorem own_cell {w : World} {base n cap g : Nat} {e : TypeId} {M : List Value} (h : w.ownsRow base e 3 (.slice (some ⟨g, 0, none⟩) n cap) n M) {j : Nat} (hj : j < n * 3) : ∃ u, w.cell? ⟨g, j, none⟩ = some u := by
  rw [h.cellAt j hj]
  exact ⟨_, List.getElem?_eq_getElem (by rw [h.1]; exact hj)⟩

/-- What a copy holds behind k rounds. -/
def half (L : List S3) (k : Nat) : List S3 := L.take k ++ List.replicate (L.length - k) (0, 0, 0)
theorem half_len (L : List S3) (k : Nat) (h : k ≤ L.length) : (half L k).length = L.length := by simp [half]; omega
theorem half_zero (L : List S3) : half L 0 = List.replicate L.length (0, 0, 0) := by simp [half]
theorem half_all (L : List S3) : half L L.length = L := by simp [half]
theorem half_set (L : List S3) (k : Nat) (s : S3) (h : L[k]? = some s) : (half L k).set k s = half L (k + 1) := by
  have hk : k < L.length := by
    rcases Nat.lt_or_ge k L.length with h1 | h1
    · exact h1
    · rw [List.getElem?_eq_none h1] at h; cases h
  have hs : L[k] = s := by rw [List.getElem?_eq_getElem hk] at h; exact Option.some.inj h
  apply List.ext_getElem
  · rw [List.length_set, half_len L k (by omega), half_len L (k + 1) (by omega)]
  · intro i h1 h2
    rw [List.length_set, half_len L k (by omega)] at h1
    rw [List.getElem_set]
    simp only [half, List.getElem_append, List.length_take]
    by_cases e : k = i
    · subst e
      rw [if_pos rfl, dif_pos (by omega)]
      simp [hs]
    · rw [if_neg e]
      by_cases hik : i < k
      · rw [dif_pos (by omega), dif_pos (by omega)]; simp
      · rw [dif_neg (by omega), dif_neg (by omega)]; simp
theorem cells3_set : ∀ (L : List S3) (k : Nat) (s : S3), cells3 (L.set k s) = (((cells3 L).set (k * 3) (.int .i32 s.1)).set (k * 3 + 1) (.int .i64 s.2.1)).set (k * 3 + 2) (.int .i64 s.2.2)
  | [], k, s => by simp [cells3]
  | x :: r, 0, s => by simp [cells3, c3]
  | x :: r, k + 1, s => by
    have ih := cells3_set r k s
    have e : ∀ (x : S3) r, cells3 (x :: r) = .int .i32 x.1 :: .int .i64 x.2.1 :: .int .i64 x.2.2 :: cells3 r := fun x r => by simp [cells3, c3]
    rw [List.set_cons_succ, e, e, ih, show (k + 1) * 3 = k * 3 + 3 from by omega]
    rfl
theorem own_set3 {w : World} {base n cap g : Nat} {e : TypeId} {M : List S3} (h : w.ownsRow base e 3 (.slice (some ⟨g, 0, none⟩) n cap) n (cells3 M)) (k : Nat) (s : S3) :
    (((w.setCell ⟨g, k * 3, none⟩ (.int .i32 s.1)).setCell ⟨g, k * 3 + 1, none⟩ (.int .i64 s.2.1)).setCell ⟨g, k * 3 + 2, none⟩ (.int .i64 s.2.2)).ownsRow base e 3 (.slice (some ⟨g, 0, none⟩) n cap) n (cells3 (M.set k s)) := by
  rw [cells3_set]
  exact (((h.stored (k * 3) (.int .i32 s.1)).1.stored (k * 3 + 1) (.int .i64 s.2.1)).1.stored (k * 3 + 2) (.int .i64 s.2.2)).1

theorem made3 (n : Nat) : (madeCells (Value.cells (.agg #[.int .i32 0, .int .i64 0, .int .i64 0])) (n * 3)).toList = cells3 (List.replicate n (0, 0, 0)) := by
  apply List.ext_getElem?
  intro j
  by_cases hj : j < n * 3
  · obtain ⟨t, r, hr, rfl⟩ : ∃ t r, r < 3 ∧ j = t * 3 + r := ⟨j / 3, j % 3, Nat.mod_lt _ (by omega), by omega⟩
    have ht : (List.replicate n ((0, 0, 0) : S3))[t]? = some (0, 0, 0) := by rw [List.getElem?_replicate, if_pos (by omega)]
    have := cells3_at _ _ _ ht
    have hm : (t * 3 + r) % 3 = r := by omega
    match r, hr with
    | 0, _ => rw [Nat.add_zero, this.1]; simp [madeCells, Value.cells]; exact ⟨t * 3, List.getElem?_range (by omega), by simp⟩
    | 1, _ => rw [this.2.1]; simp [madeCells, Value.cells]; exact ⟨t * 3 + 1, List.getElem?_range (by omega), by rw [hm]; rfl⟩
    | 2, _ => rw [this.2.2]; simp [madeCells, Value.cells]; exact ⟨t * 3 + 2, List.getElem?_range (by omega), by rw [hm]; rfl⟩
  · have h1 : (cells3 (List.replicate n ((0, 0, 0) : S3))).length ≤ j := by rw [cells3_len]; simp; omega
    rw [List.getElem?_eq_none h1]
    simp [madeCells, hj]

set_option maxHeartbeats 400000 in
theorem clone_nil (w : World) : Calls Trym.prog 9 #[.slice none 0 0] w fun e w' => e = .returned (.slice none 0 0) ∧ w' = w := by
  have hq := fun w => Lib.run_eql_slice_nil (P := Trym.prog) w 22 37 none 0 0 0 0 Trym.underlying22
  go_enter Trym.func9, Trym.ntmps9
  go_wp2
  go_ret
  exact ⟨rfl, rfl⟩

set_option maxHeartbeats 800000 in
theorem clone_some (x : Addr) (n c : Nat) (L : List S3) (w : World) (hL : Syms w (some x) n L) (hn : n ≤ 65536) :
    Calls Trym.prog 9 #[.slice (some x) n c] w fun e w' => e = .returned (.slice (some ⟨w.heap.size, 0, none⟩) n n) ∧ Syms w' (some ⟨w.heap.size, 0, none⟩) n L ∧ Below w.heap.size w w' := by
  obtain ⟨i0, hi, hz0, hz1, hz2⟩ := info_parts Trym.info37
  have hq := fun w => Lib.run_eql_slice_nil (P := Trym.prog) w 22 37 (some x) n c 0 0 Trym.underlying22
  obtain ⟨hl, hwf, h0⟩ := hL
  have HC : Hid (n = 0 ∨ ∃ b off, some x = some (⟨b, off, none⟩ : Addr) ∧ b < w.heap.size ∧ ∀ t s, L[t]? = some s →
    w.cell? ⟨b, off + t * 3, none⟩ = some (.int .i32 s.1) ∧ w.cell? ⟨b, off + t * 3 + 1, none⟩ = some (.int .i64 s.2.1) ∧ w.cell? ⟨b, off + t * 3 + 2, none⟩ = some (.int .i64 s.2.2)) := h0
  have HL : Hid (L.length = n) := hl
  have HW : Hid (∀ s ∈ L, (Lit.int .i32 s.1).wf = true) := hwf
  clear h0 hl hwf
  go_enter Trym.func9, Trym.ntmps9
  go_wp2_with (at_make; refine wpList_make_full _ rfl _ _ 22 rfl w.heap.size 37 i0 (.agg #[.int .i32 0, .int .i64 0, .int .i64 0]) 3 Trym.underlying22 hi hz0 hz1 _ _ _ _ n rfl rfl rfl rfl ?b2 ?b3 (Nat.le_refl _) ?_)
  case b2 => rw [hz2]; omega
  case b3 => unfold maxLen; omega
  intro w0 hown0 hgrow0
  have hown : w0.ownsRow w.heap.size 37 3 (.slice (some ⟨w.heap.size, 0, none⟩) n n) n (cells3 (half L 0)) := by
    rw [half_zero, HL.out, ← made3]; exact hown0
  clear hown0
  have hbel0 : Below w.heap.size w w0 := (Below.refl _ _).grown hgrow0 (Nat.le_refl _) (fun k h => by cases h)
  clear hgrow0
  go_wp2
  go_loopw [4] (fun i wr => ∃ k : Nat, k ≤ n ∧ i = .int .i64 k ∧ wr.ownsRow w.heap.size 37 3 (.slice (some ⟨w.heap.size, 0, none⟩) n n) n (cells3 (half L k)) ∧ Below w.heap.size w wr) (fun i _ => n - (intOf i).toNat)
  case atStart => exact ⟨0, Nat.zero_le _, rfl, hown, hbel0⟩
  case round =>
    clear hown hbel0
    obtain ⟨k, hk, rfl, hown, hbel⟩ := hrel
    by_cases hlt : k < n
    · obtain ⟨b, off, hx, hb, hc⟩ : ∃ b off, some x = some (⟨b, off, none⟩ : Addr) ∧ b < w.heap.size ∧ ∀ t s, L[t]? = some s →
          w.cell? ⟨b, off + t * 3, none⟩ = some (.int .i32 s.1) ∧ w.cell? ⟨b, off + t * 3 + 1, none⟩ = some (.int .i64 s.2.1) ∧ w.cell? ⟨b, off + t * 3 + 2, none⟩ = some (.int .i64 s.2.2) := by
        rcases HC.out with h | h
        · omega
        · exact h
      obtain rfl : x = ⟨b, off, none⟩ := Option.some.inj hx
      obtain ⟨⟨sc, sk, sv⟩, hs⟩ : ∃ s, L[k]? = some s := ⟨_, List.getElem?_eq_getElem (by rw [HL.out]; exact hlt)⟩
      have hcs := hc k _ hs
      have g0 : wr.cell? ⟨b, off + k * 3, none⟩ = some (.int .i32 sc) := (hbel.cell (by exact hb)).trans hcs.1
      have g1 : wr.cell? ⟨b, off + k * 3 + 1, none⟩ = some (.int .i64 sk) := (hbel.cell (by exact hb)).trans hcs.2.1
      have g2 : wr.cell? ⟨b, off + k * 3 + 2, none⟩ = some (.int .i64 sv) := (hbel.cell (by exact hb)).trans hcs.2.2
      clear hcs hc HC hx
      have HS : Hid (L[k]? = some (sc, sk, sv)) := hs
      clear hs
      have f0 : wr.frozen? ⟨w.heap.size, k * 3, none⟩ = false := hown.frozenAt _
      have f1 : wr.frozen? ⟨w.heap.size, k * 3 + 1, none⟩ = false := hown.frozenAt _
      have f2 : wr.frozen? ⟨w.heap.size, k * 3 + 2, none⟩ = false := hown.frozenAt _
      obtain ⟨u0, d0⟩ := own_cell hown (show k * 3 < n * 3 by omega)
      obtain ⟨u1, d1⟩ := own_cell hown (show k * 3 + 1 < n * 3 by omega)
      obtain ⟨u2, d2⟩ := own_cell hown (show k * 3 + 2 < n * 3 by omega)
      have i0 : (0 : Int) ≤ (k : Int) := by omega
      have i2 : (k : Int) < (n : Int) := by omega
      have HO : Hid (wr.ownsRow w.heap.size 37 3 (.slice (some ⟨w.heap.size, 0, none⟩) n n) n (cells3 (half L k))) := hown
      clear hown
      have hnew : Hid ((((wr.setCell ⟨w.heap.size, k * 3, none⟩ (.int .i32 sc)).setCell ⟨w.heap.size, k * 3 + 1, none⟩ (.int .i64 sk)).setCell ⟨w.heap.size, k * 3 + 2, none⟩ (.int .i64 sv)).ownsRow w.heap.size 37 3 (.slice (some ⟨w.heap.size, 0, none⟩) n n) n (cells3 (half L (k + 1)))) := by
        rw [← half_set L k _ HS.out]; exact own_set3 HO.out k (sc, sk, sv)
      have hbel1 : Below w.heap.size w (((wr.setCell ⟨w.heap.size, k * 3, none⟩ (.int .i32 sc)).setCell ⟨w.heap.size, k * 3 + 1, none⟩ (.int .i64 sk)).setCell ⟨w.heap.size, k * 3 + 2, none⟩ (.int .i64 sv)) :=
        ((hbel.setCell (by simp) _).setCell (by simp) _).setCell (by simp) _
      go_wp2
      go_roundw
      case rel => exact ⟨k + 1, by omega, by go_num, hnew.out, hbel1⟩
      case measure => simp [intOf]; omega
    · go_wp2
      go_ret
      have e : k = n := by omega
      subst e
      rw [show half L k = L from by rw [← HL.out]; exact half_all L] at hown
      have hown' : wr.ownsRow w.heap.size 37 3 (.slice (some ⟨w.heap.size, 0, none⟩) k k) L.length (cells3 L) := by rw [HL.out]; exact hown
      obtain ⟨a, c', hv, hI⟩ := syms_of_own HW.out hown'
      simp only [Value.slice.injEq] at hv
      obtain ⟨rfl, _, _⟩ := hv
      exact ⟨rfl, by rw [← HL.out]; exact hI, hbel⟩

/-- 'cloneSyms' at whatever slice. -/
theorem clone_any (a : Option Addr) (n c : Nat) (L : List S3) (w : World) (hL : Syms w a n L) (h0 : a = none → n = 0 ∧ c = 0) (hn : n ≤ 65536) :
    Calls Trym.prog 9 #[.slice a n c] w fun e w' => ∃ v, e = .returned (.slice v n n) ∧ Syms w' v n L ∧ Below w.heap.size w w' := by
  cases a with
  | none =>
    obtain ⟨rfl, rfl⟩ := h0 rfl
    exact (clone_nil w).mono fun e w' h => ⟨none, h.1, by rw [h.2]; exact hL, by rw [h.2]; exact Below.refl _ _⟩
  | some x => exact (clone_some x n c L w hL hn).mono fun e w' h => ⟨_, h⟩
end Go.Proofs.Qxb6000949aMods
