import Derived.Test.Qxb6000949aModsMap
namespace Go.Proofs.Qxb6000949aMods
open Go.ChangeShapes Go.WideShapes Go.ChangeAt Go.RowKit Go.Maps
set_option linter.unusedVariables false

/-- The same map, by the list read from its end. -/
def dR : List S3 → DataW Unit
  | [] => .map []
  | s :: r => (dR r).put (.int .i32 s.1) (symD s)
theorem dOf_rev (L : List S3) : dOf L = dR L.reverse := by
  have : ∀ R : List S3, dOf R.reverse = dR R := by
    intro R
    induction R with
    | nil => rfl
    | cons s r ih => rw [List.reverse_cons, dOf_snoc, ih]; rfl
  rw [← this, List.reverse_reverse]
theorem key_lit (c : Int) : WideAt.IsKeyLit (.int .i32 c) := by simp [WideAt.IsKeyLit]
theorem dR_tidy : ∀ R : List S3, Tidy (dR R)
  | [] => tidy_empty
  | s :: r => (dR_tidy r).put (key_lit s.1) _
/-- The last symbol of a list written with the character c. -/
def lastOf (L : List S3) (c : Int) : Option S3 := L.reverse.find? fun s => s.1 == c
theorem lit_ne {a b : Int} (h : a ≠ b) : Lit.int .i32 a ≠ .int .i32 b := by intro e; cases e; exact h rfl
theorem dR_has (c : Int) : ∀ R : List S3, Maps.has (dR R) (.int .i32 c) = (R.find? fun s => s.1 == c).isSome
  | [] => rfl
  | s :: r => by
    rw [dR, List.find?_cons]
    by_cases e : s.1 = c
    · subst e; rw [has_put_same (dR_tidy r).isMap (key_lit _)]; simp
    · have e' : (s.1 == c) = false := by simpa using e
      rw [has_put_other (lit_ne (fun h => e h.symm)), dR_has c r, e']
theorem dR_at (c : Int) (zd : DataW Unit) : ∀ R : List S3, (dR R).atKey (.int .i32 c) zd = match R.find? (fun s => s.1 == c) with | some s => symD s | none => zd
  | [] => rfl
  | s :: r => by
    rw [dR, List.find?_cons]
    by_cases e : s.1 = c
    · subst e; rw [atKey_put_same (dR_tidy r).isMap (key_lit _)]; simp
    · have e' : (s.1 == c) = false := by simpa using e
      rw [atKey_put_other (lit_ne (fun h => e h.symm)), dR_at c zd r, e']
theorem dOf_has (L : List S3) (c : Int) : Maps.has (dOf L) (.int .i32 c) = (lastOf L c).isSome := by rw [dOf_rev, dR_has]; rfl
theorem dOf_at (L : List S3) (c : Int) (zd : DataW Unit) : (dOf L).atKey (.int .i32 c) zd = match lastOf L c with | some s => symD s | none => zd := by rw [dOf_rev, dR_at]; rfl
theorem dOf_size_snoc (L : List S3) (s : S3) : Maps.size (dOf (L ++ [s])) = Maps.size (dOf L) + if (lastOf L s.1).isSome then 0 else 1 := by
  rw [dOf_snoc, size_put (by rw [dOf_rev]; exact dR_tidy _), dOf_has]
  split <;> rfl
theorem lastOf_isSome (L : List S3) (c : Int) : (lastOf L c).isSome = L.any fun s => s.1 == c := by
  rw [Bool.eq_iff_iff]; simp [lastOf, List.find?_isSome]

theorem ownsMap_below {w w' : World} {b n : Nat} {D : DataW Unit} (h : w.ownsMap Trym.prog 21 symElem b n D) (hb : Below w.heap.size w w') : w'.ownsMap Trym.prog 21 symElem b n D :=
  h.kept (row := none) ⟨hb.os, hb.tape, hb.output, hb.size, fun k hk _ => hb.block k hk⟩ (by simp)
end Go.Proofs.Qxb6000949aMods
