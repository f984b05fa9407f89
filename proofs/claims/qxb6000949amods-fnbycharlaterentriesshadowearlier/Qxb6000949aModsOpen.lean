import Derived.Test.Qxb6000949aModsView
import Derived.Deep.Strs
import Derived.ChangeOld
import Derived.Below
namespace Go.Proofs.Qxb6000949aMods
open Go.ChangeShapes Go.WideShapes Go.ChangeAt Go.RowKit
set_option linter.unusedVariables false

theorem own : ownKnob Trym.prog.godebug = none := by kernel_rfl
theorem laidOut : laidOutB Trym.prog = true := by kernel_rfl
theorem Trym.cells37 : Trym.prog.cellsOf 37 = 3 := by kernel_rfl
theorem Trym.cells21 : Trym.prog.cellsOf 21 = 1 := by kernel_rfl
theorem Trym.cells3 : Trym.prog.cellsOf 3 = 1 := by kernel_rfl
theorem Trym.cells2 : Trym.prog.cellsOf 2 = 1 := by kernel_rfl

/-- What the walk is told of a slice of symbols that came in. -/
def IsSyms (w : World) (a : Option Addr) (len cap : Nat) (L : List S3) : Prop := Syms w a len L ∧ (a = none → len = 0 ∧ cap = 0) ∧ len ≤ maxLen

theorem one_sym {H : Type} {enc : TypeId × Value → H} {W : World} {base : Nat} {sp : Nat → Bool} {held : Bool} {n : Nat} {cs : List Value} {y : DataW H × List MemPlace} (hl : cs.length = 3)
    (h : DataW.trod enc Trym.prog W base sp held n 37 cs = some y) : ∃ s : S3, cs = c3 s ∧ (Lit.int .i32 s.1).wf = true := by
  obtain ⟨y0, y1, y2, m, _, _, t0, t1, t2⟩ := Go.Deep.trod_struct3 Trym.underlying37 h
  simp only [Trym.cells21, Trym.cells3, Trym.cells2] at t0 t1 t2
  match cs, hl with
  | [x0, x1, x2], _ =>
    obtain ⟨c, e0, _, wc⟩ := DataW.trod_int Trym.underlying21 t0
    obtain ⟨k, e1, _, wk⟩ := DataW.trod_int Trym.underlying3 t1
    obtain ⟨v, e2, _, wv⟩ := DataW.trod_int Trym.underlying2 t2
    simp at e0 e1 e2
    exact ⟨(c, k, v), by rw [e0, e1, e2]; rfl, wc⟩

theorem open_syms {H : Type} {enc : TypeId × Value → H} {W : World} {a : Option Addr} {len cap : Nat} {d : DataW H} {p : List MemPlace}
    (h : DataW.Trod enc Trym.prog W 0 (fun _ => true) true 22 (.slice a len cap) d p) : ∃ L, IsSyms W a len cap L := by
  obtain ⟨fuel, hf⟩ := h
  rcases Go.Deep.open_slice Trym.underlying22 hf with ⟨hcs, _⟩ | ⟨x, l, c, m, n, D, Pl, hcs, hb, hl, hm, hmm, _, hx⟩
  · simp [Value.cells] at hcs
    obtain ⟨rfl, rfl, rfl⟩ := hcs
    exact ⟨[], ⟨rfl, by simp, .inl rfl⟩, fun _ => ⟨rfl, rfl⟩, Nat.zero_le _⟩
  · simp [Value.cells] at hcs
    obtain ⟨rfl, rfl, rfl⟩ := hcs
    simp only [if_true] at hmm
    subst hmm
    rw [Trym.cells37] at hx
    have each : ∀ i, i < m → ∃ s : S3, (∀ j u, (c3 s)[j]? = some u → W.cell? (x.add (i * 3 + j)) = some u) ∧ (Lit.int .i32 s.1).wf = true := by
      intro i hi
      obtain ⟨cs', h1, h2⟩ := hx i hi
      obtain ⟨_, hlen, hcell⟩ := World.cells?_some h1
      obtain ⟨s, rfl, hw⟩ := one_sym hlen h2
      refine ⟨s, fun j u hj => ?_, hw⟩
      have hj3 : j < 3 := by
        rcases Nat.lt_or_ge j 3 with h | h
        · exact h
        · rw [List.getElem?_eq_none (by simpa [c3] using h)] at hj; cases hj
      have := hcell j hj3
      rw [Go.Deep.add_add] at this
      rw [this]; exact hj
    obtain ⟨f, hf'⟩ := Go.Deep.choose_lt each
    refine ⟨(List.range len).map f, ⟨by simp, ?_, ?_⟩, (fun h => by cases h), by omega⟩
    · intro s hs
      simp at hs
      obtain ⟨i, hi, rfl⟩ := hs
      exact (hf' i (by omega)).2
    · by_cases h0 : len = 0
      · exact .inl h0
      · refine .inr ?_
        obtain ⟨b, off, spot⟩ := x
        have c0 := (hf' 0 (by omega)).1 0 _ rfl
        have hspot : spot = none := by simpa [Addr.add] using World.cell?_spot c0
        subst hspot
        refine ⟨b, off, rfl, World.block_lt_of_cell? W _ c0, fun t s ht => ?_⟩
        have hlt : t < len := by
          rcases Nat.lt_or_ge t len with h | h
          · exact h
          · rw [List.getElem?_eq_none (by simpa using h)] at ht; cases ht
        have e : f t = s := by simpa [hlt] using ht
        subst e
        have hc := (hf' t (by omega)).1
        have a0 := hc 0 _ rfl
        have a1 := hc 1 _ rfl
        have a2 := hc 2 _ rfl
        rw [add_plain] at a0 a1 a2
        exact ⟨by simpa [Nat.add_assoc] using a0, by simpa [Nat.add_assoc] using a1, by simpa [Nat.add_assoc] using a2⟩
end Go.Proofs.Qxb6000949aMods
