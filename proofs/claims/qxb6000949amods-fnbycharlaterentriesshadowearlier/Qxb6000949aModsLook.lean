import Derived.Test.Qxb6000949aModsLaw
namespace Go.Proofs.Qxb6000949aMods
open Go.ChangeShapes Go.WideShapes Go.ChangeAt Go.RowKit Go.Maps
set_option linter.unusedVariables false

set_option maxHeartbeats 400000 in
theorem zzByChar_any (x : Addr) (n c : Nat) (L : List S3) (w : World) (hL : Syms w (some x) n L) (hn : n ≤ 65536) :
    Calls Trym.prog 12 #[.slice (some x) n c] w fun e w' => e = .returned (.map (some w.heap.size)) ∧ w'.ownsMap Trym.prog 21 symElem w.heap.size n (dOf L) ∧ Below w.heap.size w w' := by
  go_enter Trym.func12, Trym.ntmps12
  go_wp2_with fail
  refine (byChar_any x n c L w hL hn).mono ?_
  rintro e w' ⟨rfl, ho, hb⟩
  go_wp2
  go_ret
  exact ⟨rfl, ho, hb⟩

/-- What a look-up finds: the symbol, or the zero one. -/
def found (L : List S3) (c : Int) : S3 := (lastOf L c).getD (0, 0, 0)
theorem symD_inj {s t : S3} (h : symD s = symD t) : s = t := by
  obtain ⟨a, b, c⟩ := s
  obtain ⟨a', b', c'⟩ := t
  simp [symD] at h
  obtain ⟨rfl, rfl, rfl⟩ := h
  rfl
theorem found_at (L : List S3) (c : Int) : (dOf L).atKey (.int .i32 c) (symD (0, 0, 0)) = symD (found L c) := by
  rw [dOf_at, found]
  cases lastOf L c <;> rfl

set_option maxHeartbeats 800000 in
theorem lookup_any (b n : Nat) (L : List S3) (c : Int) (w : World) (hown : w.ownsMap Trym.prog 21 symElem b n (dOf L)) (hwf : (Lit.int .i32 c).wf = true) :
    Calls Trym.prog 14 #[.map (some b), .int .i32 c] w fun e w' => e = .returned (.tuple #[.int .i32 (found L c).1, .int .i64 (found L c).2.1, .int .i64 (found L c).2.2, .bool (lastOf L c).isSome]) ∧ Below w.heap.size w w' := by
  have hkey : keyOf Trym.prog 21 (.int .i32 c) = some (.int .i32 c) := keyOf_int_mk Trym.underlying21 hwf
  obtain ⟨v, ps, hrun, hv⟩ := hown.look_ok law Trym.underlying32 (zeroE w) (symElem_mk (0, 0, 0)) hkey
  obtain ⟨s, rfl, hz⟩ := symElem_inv hv
  have hs : found L c = s := by
    rw [found_at] at hz
    simp only [Prod.mk.injEq] at hz
    exact symD_inj hz.1
  rw [hs]
  rw [dOf_has] at hrun
  generalize (lastOf L c).isSome = ok at *
  obtain ⟨sc, sk, sv⟩ := s
  unfold symV at hrun
  clear hs hz hv hkey hown hwf
  go_enter Trym.func14, Trym.ntmps14
  go_wp2
  go_quiet (fail)
  go_wp2
  refine bodyPost_ret (v := .tuple #[.int .i32 sc, .int .i64 sk, .int .i64 sv, .bool ok]) (by simp [results, Trym.results14, go_sem]) rfl ⟨rfl, ?_⟩
  exact below_drewN ((Below.refl _ _).alloc (Nat.le_refl _) _) _

theorem lastOf_of {L : List S3} {k : Nat} {s : S3} {c : Int} (h : L[k]? = some s) (hc : s.1 = c) (hno : ∀ t s', k < t → L[t]? = some s' → s'.1 ≠ c) : lastOf L c = some s := by
  have hk : k < L.length := by
    rcases Nat.lt_or_ge k L.length with h1 | h1
    · exact h1
    · rw [List.getElem?_eq_none h1] at h; cases h
  have e : L = L.take k ++ s :: L.drop (k + 1) := by
    rw [List.getElem?_eq_getElem hk] at h
    rw [← Option.some.inj h, ← List.drop_eq_getElem_cons hk, List.take_append_drop]
  have hn : (L.drop (k + 1)).reverse.find? (fun s => s.1 == c) = none := by
    rw [List.find?_eq_none]
    intro x hx
    rw [List.mem_reverse] at hx
    obtain ⟨i, hi⟩ := List.getElem?_of_mem hx
    rw [List.getElem?_drop] at hi
    have := hno (k + 1 + i) x (by omega) hi
    simpa using this
  unfold lastOf
  rw [e, List.reverse_append, List.reverse_cons, List.append_assoc, List.find?_append, hn]
  simp [hc]
theorem lastOf_none {L : List S3} {c : Int} (hno : ∀ (t : Nat) (s' : S3), L[t]? = some s' → s'.1 ≠ c) : lastOf L c = none := by
  unfold lastOf
  rw [List.find?_eq_none]
  intro x hx
  rw [List.mem_reverse] at hx
  obtain ⟨i, hi⟩ := List.getElem?_of_mem hx
  simpa using hno i x hi

/-- What 'lastWith' answers. -/
def LastPost (L : List S3) (ch : Int) (e : Ending) : Prop :=
  (lastOf L ch = none ∧ e = .returned (.tuple #[.int .i64 (-1), .bool false])) ∨ ∃ (j : Nat) (s : S3), L[j]? = some s ∧ lastOf L ch = some s ∧ e = .returned (.tuple #[.int .i64 j, .bool true])

set_option maxHeartbeats 800000 in
theorem lastWith_any (a : Option Addr) (n c : Nat) (L : List S3) (ch : Int) (w : World) (hL : Syms w a n L) (hn : n ≤ 65536) :
    Calls Trym.prog 13 #[.slice a n c, .int .i32 ch] w fun e w' => w' = w ∧ LastPost L ch e := by
  obtain ⟨hl, hwf, h0⟩ := hL
  have HC : Hid (n = 0 ∨ ∃ b off, a = some (⟨b, off, none⟩ : Addr) ∧ b < w.heap.size ∧ ∀ t s, L[t]? = some s →
    w.cell? ⟨b, off + t * 3, none⟩ = some (.int .i32 s.1) ∧ w.cell? ⟨b, off + t * 3 + 1, none⟩ = some (.int .i64 s.2.1) ∧ w.cell? ⟨b, off + t * 3 + 2, none⟩ = some (.int .i64 s.2.2)) := h0
  have HL : Hid (L.length = n) := hl
  clear h0 hl hwf
  go_enter Trym.func13, Trym.ntmps13
  go_wp2
  go_loop [6] (fun i => ∃ m : Nat, m ≤ n ∧ i = .int .i64 ((m : Int) - 1) ∧ (∀ t s', m ≤ t → L[t]? = some s' → s'.1 ≠ ch)) (fun i => (intOf i + 1).toNat)
  case atStart =>
    refine ⟨n, Nat.le_refl _, rfl, fun t s' ht h => ?_⟩
    rw [List.getElem?_eq_none (by rw [HL.out]; exact ht)] at h; cases h
  case round =>
    obtain ⟨m, hm, rfl, hno⟩ := hrel
    have HN : Hid (∀ t s', m ≤ t → L[t]? = some s' → s'.1 ≠ ch) := hno
    clear hno
    by_cases h0 : m = 0
    · subst h0
      go_wp2
      go_ret2
      exact ⟨rfl, .inl ⟨lastOf_none fun t s' h => HN.out t s' (Nat.zero_le _) h, rfl⟩⟩
    · obtain ⟨k, rfl⟩ : ∃ k, m = k + 1 := ⟨m - 1, by omega⟩
      rw [show (((k + 1 : Nat) : Int) - 1) = (k : Int) from by omega]
      obtain ⟨b, off, rfl, hb, hc⟩ : ∃ b off, a = some (⟨b, off, none⟩ : Addr) ∧ b < w.heap.size ∧ ∀ t s, L[t]? = some s →
          w.cell? ⟨b, off + t * 3, none⟩ = some (.int .i32 s.1) ∧ w.cell? ⟨b, off + t * 3 + 1, none⟩ = some (.int .i64 s.2.1) ∧ w.cell? ⟨b, off + t * 3 + 2, none⟩ = some (.int .i64 s.2.2) := by
        rcases HC.out with h | h
        · omega
        · exact h
      obtain ⟨⟨sc, sk, sv⟩, hs⟩ : ∃ s, L[k]? = some s := ⟨_, List.getElem?_eq_getElem (by rw [HL.out]; omega)⟩
      have q0 : w.cell? ⟨b, off + k * 3, none⟩ = some (.int .i32 sc) := (hc k _ hs).1
      have HS : Hid (L[k]? = some (sc, sk, sv)) := hs
      clear hs hc HC
      have i0 : (0 : Int) ≤ (k : Int) := by omega
      have i2 : (k : Int) < (n : Int) := by omega
      by_cases hch : sc = ch
      · subst hch
        go_wp2
        go_ret2
        exact ⟨rfl, .inr ⟨k, _, HS.out, lastOf_of HS.out rfl fun t s' ht h => HN.out t s' (by omega) h, rfl⟩⟩
      · have hne : (sc == ch) = false := by simpa using hch
        go_wp2
        go_round
        case rel =>
          refine ⟨k, by omega, by go_num, fun t s' ht h => ?_⟩
          by_cases e : t = k
          · subst e
            have := HS.out
            rw [this] at h; cases h; exact hch
          · exact HN.out t s' (by omega) h
        case measure => simp [intOf]
end Go.Proofs.Qxb6000949aMods
