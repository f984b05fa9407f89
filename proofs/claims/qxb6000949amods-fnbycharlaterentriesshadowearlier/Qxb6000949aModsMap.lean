import Derived.Test.Qxb6000949aModsMk
import Derived.Maps.Own
import Derived.Maps.OwnSet
namespace Go.Proofs.Qxb6000949aMods
open Go.ChangeShapes Go.WideShapes Go.ChangeAt Go.RowKit Go.Maps
set_option linter.unusedVariables false

/-- A symbol as a datum; how an element of the map reads. -/
def symD (s : S3) : DataW Unit := .agg [.lit (.int .i32 s.1), .lit (.int .i64 s.2.1), .lit (.int .i64 s.2.2)]
def symV (s : S3) : Value := .agg #[.int .i32 s.1, .int .i64 s.2.1, .int .i64 s.2.2]
def symL : List Value → Option (DataW Unit × List MemPlace)
  | [.int .i32 c, .int .i64 k, .int .i64 v] => some (symD (c, k, v), [])
  | _ => none
def symElem : Value → Option (DataW Unit × List MemPlace)
  | .agg cs => symL cs.toList
  | _ => none
theorem symElem_mk (s : S3) : symElem (symV s) = some (symD s, []) := rfl
theorem symElem_inv {v : Value} {z : DataW Unit × List MemPlace} (h : symElem v = some z) : ∃ s, v = symV s ∧ z = (symD s, []) := by
  unfold symElem at h
  split at h
  · rename_i cs
    unfold symL at h
    split at h
    · rename_i c k v hl
      cases h
      refine ⟨(c, k, v), ?_, rfl⟩
      have : cs = #[.int .i32 c, .int .i64 k, .int .i64 v] := by
        cases cs; simp at hl; rw [hl]
      rw [this]; rfl
    · cases h
  · cases h

theorem law : Keyed Trym.prog 21 := int_keyed Trym.underlying21
theorem zeroE (w : World) : (zeroValue 48).run Trym.prog w = .ok (symV (0, 0, 0)) w := by kernel_rfl

/-- The map that 'byChar' makes of a list, as a datum. -/
def dOf (L : List S3) : DataW Unit := L.foldl (fun D s => D.put (.int .i32 s.1) (symD s)) (.map [])
theorem dOf_snoc (L : List S3) (s : S3) : dOf (L ++ [s]) = (dOf L).put (.int .i32 s.1) (symD s) := by simp [dOf, List.foldl_append]
theorem take_snoc {L : List S3} {k : Nat} {s : S3} (h : L[k]? = some s) : L.take (k + 1) = L.take k ++ [s] := by
  rw [List.take_add_one, h]; rfl

theorem run_makeMap_hint (n : Nat) (w : World) : (Instr.makeMap 32 (some (.int .i64 n))).run Trym.prog w = .ok (.map (some w.heap.size)) (w.alloc (.map #[] 0)) := by
  simp [Instr.makeMap, run_underlying Trym.underlying32, asInt, asIntOf, Result.andThen]

set_option maxHeartbeats 1600000 in
theorem byChar_any (x : Addr) (n c : Nat) (L : List S3) (w : World) (hL : Syms w (some x) n L) (hn : n ≤ 65536) :
    Calls Trym.prog 21 #[.slice (some x) n c] w fun e w' => e = .returned (.map (some w.heap.size)) ∧ w'.ownsMap Trym.prog 21 symElem w.heap.size n (dOf L) ∧ Below w.heap.size w w' := by
  have hmm := run_makeMap_hint n
  obtain ⟨hl, hwf, h0⟩ := hL
  have HC : Hid (n = 0 ∨ ∃ b off, some x = some (⟨b, off, none⟩ : Addr) ∧ b < w.heap.size ∧ ∀ t s, L[t]? = some s →
    w.cell? ⟨b, off + t * 3, none⟩ = some (.int .i32 s.1) ∧ w.cell? ⟨b, off + t * 3 + 1, none⟩ = some (.int .i64 s.2.1) ∧ w.cell? ⟨b, off + t * 3 + 2, none⟩ = some (.int .i64 s.2.2)) := h0
  have HL : Hid (L.length = n) := hl
  have HW : Hid (∀ s ∈ L, (Lit.int .i32 s.1).wf = true) := hwf
  clear h0 hl hwf
  go_enter Trym.func21, Trym.ntmps21
  go_wp2
  go_loopw [11] (fun i wr => ∃ k : Nat, k ≤ n ∧ i = .int .i64 k ∧ wr.ownsMap Trym.prog 21 symElem w.heap.size k (dOf (L.take k)) ∧ Below w.heap.size w wr) (fun i _ => n - (intOf i).toNat)
  case atStart => exact ⟨0, Nat.zero_le _, rfl, World.ownsMap_made _ _ _ _, (Below.refl _ _).alloc (Nat.le_refl _) _⟩
  case round =>
    obtain ⟨k, hk, rfl, hown, hbel⟩ := hrel
    by_cases hlt : k < n
    · obtain ⟨b, off, hx, hb, hc⟩ : ∃ b off, some x = some (⟨b, off, none⟩ : Addr) ∧ b < w.heap.size ∧ ∀ t s, L[t]? = some s →
          w.cell? ⟨b, off + t * 3, none⟩ = some (.int .i32 s.1) ∧ w.cell? ⟨b, off + t * 3 + 1, none⟩ = some (.int .i64 s.2.1) ∧ w.cell? ⟨b, off + t * 3 + 2, none⟩ = some (.int .i64 s.2.2) := by
        rcases HC.out with h | h
        · omega
        · exact h
      obtain rfl : x = ⟨b, off, none⟩ := Option.some.inj hx
      obtain ⟨⟨sc, sk, sv⟩, hs⟩ : ∃ s, L[k]? = some s := ⟨_, List.getElem?_eq_getElem (by rw [HL.out]; exact hlt)⟩
      have hcs := hc k _ hs
      have q0 : wr.cell? ⟨b, off + k * 3, none⟩ = some (.int .i32 sc) := (hbel.cell (by exact hb)).trans hcs.1
      have q1 : wr.cell? ⟨b, off + k * 3 + 1, none⟩ = some (.int .i64 sk) := (hbel.cell (by exact hb)).trans hcs.2.1
      have q2 : wr.cell? ⟨b, off + k * 3 + 2, none⟩ = some (.int .i64 sv) := (hbel.cell (by exact hb)).trans hcs.2.2
      clear hcs hc HC hx
      have hkey : keyOf Trym.prog 21 (.int .i32 sc) = some (.int .i32 sc) := keyOf_int_mk Trym.underlying21 (HW.out _ (List.mem_of_getElem? hs))
      have HK : Hid (keyOf Trym.prog 21 (.int .i32 sc) = some (.int .i32 sc)) := hkey
      have HS : Hid (L[k]? = some (sc, sk, sv)) := hs
      clear hs hkey
      have i0 : (0 : Int) ≤ (k : Int) := by omega
      have i2 : (k : Int) < (n : Int) := by omega
      go_wp2_with (at_mapUpdate; refine wpList_mapUpdate_own _ rfl _ _ _ 32 rfl 21 48 law Trym.underlying32 symElem w.heap.size k (dOf (L.take k)) rfl (by exact hown.alloc _) (by unfold maxLen; omega) _ _ (.int .i32 sc) rfl rfl HK.out (symD (sc, sk, sv)) [] (symElem_mk (sc, sk, sv)) ?_)
      intro w1 hown1 hgrow1
      have hsz := hbel.size
      have hbel1 : Below w.heap.size w w1 := (hbel.alloc hsz _).grown hgrow1 (by simp; omega) (fun j hj => by cases hj; exact Nat.le_refl _)
      have HO1 : Hid (w1.ownsMap Trym.prog 21 symElem w.heap.size (k + 1) (dOf (L.take (k + 1)))) := by
        rw [take_snoc HS.out, dOf_snoc]; exact hown1
      clear hown1 hgrow1 hown q0 q1 q2
      go_wp2
      go_roundw
      case rel => exact ⟨k + 1, by omega, by go_num, HO1.out, hbel1⟩
      case measure => simp [intOf]; omega
    · go_wp2
      go_ret
      have e : k = n := by omega
      subst e
      rw [List.take_of_length_le (by rw [HL.out]; exact Nat.le_refl _)] at hown
      exact ⟨rfl, hown, hbel⟩
end Go.Proofs.Qxb6000949aMods
