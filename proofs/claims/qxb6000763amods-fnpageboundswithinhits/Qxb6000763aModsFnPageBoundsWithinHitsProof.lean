/- The proof of 'Rows.FnPageBoundsWithinHitsSaid': the kit's shell for this function, its walk filled. -/
import Derived.Test.Qxb6000763aModsRows
import Derived.Test.Qxb6000763aModsBounds
import Derived.WalkKit
import Derived.ProofKit
import Derived.OpenShut
import Derived.ShutString
namespace Go.Proofs.Qxb6000763aMods.fnPageBoundsWithinHits
open Go.ChangeShapes Go.WideShapes Go.ChangeAt Go.RowKit
open Go.ChangeMaps (open_string shut_string)
set_option linter.unusedVariables false      -- a walk need not use every 'w<i>' (that an integer argument fits its kind)

theorem own : ownKnob Trym.prog.godebug = none := by kernel_rfl

theorem wf64 {a : Int} (h : (Lit.int .i64 a).wf = true) : -9223372036854775808 ≤ a ∧ a ≤ 9223372036854775807 := by
  have := bounds_i64 h; omega

/-! ### STEP 1: THE WALK: the Go text returns true. -/
set_option maxHeartbeats 1000000 in
theorem walk (a0 : Int) (a1 : Int) (a2 : Int) (w0 : (Lit.int .i64 a0).wf = true) (w1 : (Lit.int .i64 a1).wf = true) (w2 : (Lit.int .i64 a2).wf = true) (w : World) :
    Calls Trym.prog 3 #[.int .i64 a0, .int .i64 a1, .int .i64 a2] w fun e w' => e = .returned (.bool true) ∧ Grown w w' := by
  obtain ⟨l0, u0⟩ := wf64 w0
  obtain ⟨l1, u1⟩ := wf64 w1
  obtain ⟨l2, u2⟩ := wf64 w2
  clear w0 w1 w2
  by_cases hn : a2 < 0
  · go_enter Trym.func3, Trym.ntmps3
    go_wp2
    go_ret
    exact ⟨rfl, Grown.refl _⟩
  have hn : 0 ≤ a2 := by omega
  by_cases hs : a1 ≤ 0
  · go_enter Trym.func3, Trym.ntmps3
    go_wp2_with fail
    refine (bounds_any a0 a1 a2 l0 u0 u1 hn u2 _).mono ?_
    rintro e w' ⟨f, t, rfl, ⟨p1, p2, p3, p4, p5, p6⟩, hg⟩
    obtain ⟨rfl, rfl⟩ := p4 hs
    go_wp2
    go_ret
    exact ⟨rfl, hg⟩
  have hs : 0 < a1 := by omega
  by_cases h1 : a0 = 1
  · subst h1
    by_cases hlt : a2 < a1
    · go_enter Trym.func3, Trym.ntmps3
      go_wp2_with fail
      refine (bounds_any 1 a1 a2 l0 u0 u1 hn u2 _).mono ?_
      rintro e w' ⟨f, t, rfl, ⟨p1, p2, p3, p4, p5, p6⟩, hg⟩
      obtain ⟨rfl, ht⟩ := p6 rfl hs
      obtain rfl : t = a2 := by omega
      clear p4 p5 p6 ht
      go_wp2
      go_ret
      exact ⟨rfl, hg⟩
    · go_enter Trym.func3, Trym.ntmps3
      go_wp2_with fail
      refine (bounds_any 1 a1 a2 l0 u0 u1 hn u2 _).mono ?_
      rintro e w' ⟨f, t, rfl, ⟨p1, p2, p3, p4, p5, p6⟩, hg⟩
      obtain ⟨rfl, ht⟩ := p6 rfl hs
      obtain rfl : t = a1 := by omega
      clear p4 p5 p6 ht
      go_wp2
      go_ret
      exact ⟨rfl, hg⟩
  · have h1' : (a0 == 1) = false := by simpa using h1
    go_enter Trym.func3, Trym.ntmps3
    go_wp2_with fail
    refine (bounds_any a0 a1 a2 l0 u0 u1 hn u2 _).mono ?_
    rintro e w' ⟨f, t, rfl, ⟨p1, p2, p3, p4, p5, p6⟩, hg⟩
    have q5 := p5 hs
    clear p4 p5 p6
    go_wp2
    go_ret
    exact ⟨rfl, hg⟩

/-! ### THE ROW's STEP: WRITTEN OUT: LEAVE IT -/
set_option maxRecDepth 100000 in
theorem lifted (os : Os) (started : os.Started) (H : Type) (enc : TypeId × Value → H) :
    ReturnsInHanded {} Trym.checked os 3 .any (Rows.fnPageBoundsWithinHitsSpec.pre6 enc Trym.prog Trym.f3 Rows.fnPageBoundsWithinHitsRow.domain false) (Rows.fnPageBoundsWithinHitsSpec.post enc Trym.prog Trym.f3 false true false false) := by
  refine returnsInHanded_of_change (C := Trym.checked) own started (by kernel_rfl) Trym.func3
    (ChangeSpec.witness6 (enc := enc) (C := Trym.checked) false ⟨#[], #[.int .i64 0, .int .i64 0, .int .i64 0], []⟩ 8 (by kernel_rfl) (by kernel_rfl) (by kernel_rfl) (by kernel_rfl)) ?_
  intro W base args ds gs before hval0 hW hcnd _
  have hval : ∀ (j : Nat) t v, Trym.f3.params[j]? = some t → args[j]? = some v → Value.okWide Trym.prog W .any base t v := hval0
  have hW' := hW
  obtain ⟨p, q, hA0, hV, rfl, hfz, hnd⟩ := hW
  have hA : DataW.TrodAll enc Trym.prog W 0 (fun _ => true) true Trym.f3.params.toList args.toList ds p := hA0
  rw [Trym.params3] at hA hval
  obtain ⟨v0, vs0, d0, ds0, p0, q0, hargs, rfl, rfl, h0, r0⟩ := trodAll_cons hA
  obtain ⟨v1, vs1, d1, ds1, p1, q1, rfl, rfl, rfl, h1, r1⟩ := trodAll_cons r0
  obtain ⟨v2, vs2, d2, ds2, p2, q2, rfl, rfl, rfl, h2, r2⟩ := trodAll_cons r1
  obtain ⟨rfl, rfl, rfl⟩ := trodAll_nil r2
  obtain rfl : args = #[v0, v1, v2] := by cases args; simp_all
  obtain ⟨rfl, rfl⟩ := trodVars_none hV
  obtain ⟨a0, rfl, rfl, rfl, w0⟩ := open_int Trym.underlying3 (hval 0 3 v0 rfl rfl) h0
  obtain ⟨a1, rfl, rfl, rfl, w1⟩ := open_int Trym.underlying3 (hval 1 3 v1 rfl rfl) h1
  obtain ⟨a2, rfl, rfl, rfl, w2⟩ := open_int Trym.underlying3 (hval 2 3 v2 rfl rfl) h2
  clear hA0 hval0
  simp only [List.append_nil] at hW'
  refine (walk a0 a1 a2 w0 w1 w2 W).mono fun e W' ⟨he, hg⟩ => ?_
  subst he
  exact ⟨_, rfl, post_of_same (pa := []) (pv := []) hW' (fun _ _ _ => (trodAll_cons_mk (shut_bool Trym.underlying4 _) trodAll_mk0)) (fun sp _ => (trodAll_cons_mk (shut_int Trym.underlying3 w0) (trodAll_cons_mk (shut_int Trym.underlying3 w1) (trodAll_cons_mk (shut_int Trym.underlying3 w2) trodAll_mk0)))) (fun _ _ => rfl) rfl
    (hg.frame _) hg.2.1 (ok_one (by kernel_rfl) rfl (okWide_bool_mk Trym.underlying4 _))⟩

theorem over : Rows.fnPageBoundsWithinHitsRow.holds Trym.pinned (OpenSpec.ofChange Rows.fnPageBoundsWithinHitsSpec) :=
  OpenClaim.holds_of_wide 3 Trym.f3 rfl rfl rfl rfl rfl rfl rfl ⟨rfl, rfl, rfl, rfl, rfl⟩ rfl rfl rfl rfl rfl (by kernel_rfl) Trym.func3 (by kernel_rfl)
    (of_decide_eq_true (by kernel_rfl)) (by unfold Func.isWrapper; first | (rw [if_pos (by decide +kernel)]; kernel_rfl) | (rw [if_neg (by decide +kernel)]; exact ⟨rfl, rfl⟩))
    (fun os started H enc _ => lifted os started H enc)

/-- ████ THE STATEMENT ████ -/
theorem proved : Rows.FnPageBoundsWithinHitsSaid :=
  over
end Go.Proofs.Qxb6000763aMods.fnPageBoundsWithinHits
