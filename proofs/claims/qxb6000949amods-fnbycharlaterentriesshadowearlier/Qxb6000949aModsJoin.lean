import Derived.Test.Qxb6000949aModsLook
namespace Go.Proofs.Qxb6000949aMods
open Go.ChangeShapes Go.WideShapes Go.ChangeAt Go.RowKit Go.Maps
set_option linter.unusedVariables false

theorem lastOf_append (A B : List S3) (c : Int) : lastOf (A ++ B) c = (lastOf B c).or (lastOf A c) := by
  unfold lastOf
  rw [List.reverse_append, List.find?_append]
theorem lastOf_right {A B : List S3} {c : Int} {s : S3} (h : lastOf B c = some s) : lastOf (A ++ B) c = some s := by rw [lastOf_append, h]; rfl
theorem lastOf_left {A B : List S3} {c : Int} (h : lastOf B c = none) : lastOf (A ++ B) c = lastOf A c := by rw [lastOf_append, h]; rfl
theorem lastOf_mem {L : List S3} {s : S3} (h : s ∈ L) : ∃ t, lastOf L s.1 = some t := by
  have : (lastOf L s.1).isSome = true := by
    rw [lastOf_isSome, List.any_eq_true]; exact ⟨s, h, by simp⟩
  exact Option.isSome_iff_exists.1 this

theorem nodup_len : ∀ (K M : List Int), K.Nodup → (∀ x ∈ K, x ∈ M) → K.length ≤ M.length
  | [], M, _, _ => Nat.zero_le _
  | x :: K, M, hn, h => by
    rw [List.nodup_cons] at hn
    have hx : x ∈ M := h x (by simp)
    have := nodup_len K (M.erase x) hn.2 (fun y hy => (List.mem_erase_of_ne (fun e => hn.1 (by rw [← e]; exact hy))).2 (h y (by simp [hy])))
    have hl := List.length_erase_of_mem hx
    have : 0 < M.length := List.length_pos_of_mem hx
    simp only [List.length_cons]
    omega

/-- The map's keys, each once. -/
theorem keys_of : ∀ R : List S3, ∃ K : List Int, K.Nodup ∧ (∀ c, c ∈ K ↔ (R.find? fun s => s.1 == c).isSome = true) ∧ K.length = Maps.size (dR R)
  | [] => ⟨[], List.nodup_nil, by simp, rfl⟩
  | s :: r => by
    obtain ⟨K, h1, h2, h3⟩ := keys_of r
    rw [dR, size_put (dR_tidy r), dR_has]
    by_cases hs : (r.find? fun t => t.1 == s.1).isSome = true
    · refine ⟨K, h1, fun c => ?_, by rw [if_pos hs]; exact h3⟩
      rw [h2 c, List.find?_cons]
      by_cases e : s.1 = c
      · subst e; simp [hs]
      · have e' : (s.1 == c) = false := by simpa using e
        rw [e']
    · refine ⟨s.1 :: K, List.nodup_cons.2 ⟨fun h => hs ((h2 _).1 h), h1⟩, fun c => ?_, by rw [if_neg hs]; simp [h3]⟩
      rw [List.mem_cons, h2 c, List.find?_cons]
      by_cases e : s.1 = c
      · subst e; simp
      · have e' : (s.1 == c) = false := by simpa using e
        rw [e']
        exact ⟨fun h => h.resolve_left (fun h => e h.symm), .inr⟩
theorem keys_dOf (L : List S3) : ∃ K : List Int, K.Nodup ∧ (∀ c, c ∈ K ↔ (lastOf L c).isSome = true) ∧ K.length = Maps.size (dOf L) := by
  rw [dOf_rev]; exact keys_of L.reverse
theorem sizes (A B : List S3) : Maps.size (dOf A) ≤ Maps.size (dOf (A ++ B)) ∧ Maps.size (dOf B) ≤ Maps.size (dOf (A ++ B)) ∧ Maps.size (dOf (A ++ B)) ≤ Maps.size (dOf A) + Maps.size (dOf B) := by
  obtain ⟨KA, a1, a2, a3⟩ := keys_dOf A
  obtain ⟨KB, b1, b2, b3⟩ := keys_dOf B
  obtain ⟨K, k1, k2, k3⟩ := keys_dOf (A ++ B)
  have key : ∀ c, (lastOf (A ++ B) c).isSome = true ↔ (lastOf A c).isSome = true ∨ (lastOf B c).isSome = true := by
    intro c
    rw [lastOf_append]
    cases lastOf B c <;> simp
  refine ⟨?_, ?_, ?_⟩
  · rw [← a3, ← k3]; exact nodup_len _ _ a1 fun x hx => (k2 x).2 ((key x).2 (.inl ((a2 x).1 hx)))
  · rw [← b3, ← k3]; exact nodup_len _ _ b1 fun x hx => (k2 x).2 ((key x).2 (.inr ((b2 x).1 hx)))
  · rw [← a3, ← b3, ← k3, ← List.length_append]
    refine nodup_len _ _ k1 fun x hx => ?_
    rw [List.mem_append]
    rcases (key x).1 ((k2 x).1 hx) with h | h
    · exact .inl ((a2 x).2 h)
    · exact .inr ((b2 x).2 h)
theorem size_le (L : List S3) : Maps.size (dOf L) ≤ L.length := by
  obtain ⟨K, k1, k2, k3⟩ := keys_dOf L
  rw [← k3, ← List.length_map (fun s : S3 => s.1)]
  refine nodup_len _ _ k1 fun x hx => ?_
  have := (k2 x).1 hx
  rw [lastOf_isSome, List.any_eq_true] at this
  obtain ⟨s, hs, e⟩ := this
  exact List.mem_map.2 ⟨s, hs, by simpa using e⟩
end Go.Proofs.Qxb6000949aMods
