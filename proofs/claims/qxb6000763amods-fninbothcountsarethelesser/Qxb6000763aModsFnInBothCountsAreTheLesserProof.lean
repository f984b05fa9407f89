/- The proof of 'Rows.FnInBothCountsAreTheLesserSaid': the kit's shell for this function, its walk filled. -/
import Derived.Test.Qxb6000763aModsRows
import Derived.Test.Qxb6000763aModsCount
import Derived.WalkKit
import Derived.ProofKit
import Derived.OpenShut
import Derived.ShutString
import Derived.ChangeOld
import Derived.Below
namespace Go.Proofs.Qxb6000763aMods.fnInBothCountsAreTheLesser
open Go.ChangeShapes Go.WideShapes Go.ChangeAt Go.RowKit
open Go.ChangeMaps (open_string shut_string)
set_option linter.unusedVariables false

theorem own : ownKnob Trym.prog.godebug = none := by kernel_rfl
theorem laidOut : laidOutB Trym.prog = true := by kernel_rfl

/-- WHAT THE WALK IS TOLD OF A SLICE OF INTEGERS THAT CAME IN: it is nil; or it leads to a row of 'cap' cells, the numbers 'zs' (the first 'len' are its elements, the rest its spare room), each fitting its kind. -/
def IsRow (k : IntKind) (w : World) (a : Option Addr) (len cap : Nat) (zs : List Int) : Prop :=
  (a = none ∧ len = 0 ∧ cap = 0 ∧ zs = []) ∨
  ∃ x, a = some x ∧ len ≤ cap ∧ cap ≤ maxLen ∧ zs.length = cap ∧ (∀ i, i < zs.length → w.cell? (x.add i) = some (.int k (zs.getD i 0))) ∧ ∀ n ∈ zs, (Lit.int k n).wf = true

theorem IsRow.ints {w : World} {a : Option Addr} {len cap : Nat} {zs : List Int} (h : IsRow .i64 w a len cap zs) : Ints w a len (zs.take len) ∧ (a = none → len = 0 ∧ cap = 0) ∧ len ≤ maxLen := by
  rcases h with ⟨rfl, rfl, rfl, rfl⟩ | ⟨x, rfl, h1, h2, h3, h4, h5⟩
  · exact ⟨⟨rfl, .inl rfl⟩, fun _ => ⟨rfl, rfl⟩, Nat.zero_le _⟩
  · refine ⟨⟨by simp; omega, ?_⟩, (fun h => by cases h), by omega⟩
    by_cases h0 : len = 0
    · exact .inl h0
    · refine .inr ?_
      obtain ⟨b, off, spot⟩ := x
      have hspot : spot = none := by simpa [Addr.add] using World.cell?_spot (h4 0 (by omega))
      subst hspot
      have h4' : ∀ j, j < zs.length → w.cell? ⟨b, off + j, none⟩ = some (.int .i64 (zs.getD j 0)) := fun j hj => by rw [← add_plain]; exact h4 j hj
      refine ⟨b, off, rfl, World.block_lt_of_cell? w _ (h4' 0 (by omega)), fun t ht => ?_⟩
      rw [h4' t (by omega)]
      simp [List.getD_eq_getElem?_getD, ht]

set_option maxHeartbeats 400000 in
theorem bytes_yes (a b : Option Addr) (n m c d : Nat) (w : World) (h : n + m ≤ 1048576) :
    Calls Trym.prog 9 #[.slice a n c, .slice b m d] w fun e w' => e = .returned (.bool true) ∧ w' = w := by
  go_enter Trym.func9, Trym.ntmps9
  go_wp2
  go_ret
  exact ⟨rfl, rfl⟩

set_option maxHeartbeats 400000 in
theorem bytes_no (a b : Option Addr) (n m c d : Nat) (w : World) (hn : n ≤ maxLen) (hm : m ≤ maxLen) (h : 1048576 < n + m) :
    Calls Trym.prog 9 #[.slice a n c, .slice b m d] w fun e w' => e = .returned (.bool false) ∧ w' = w := by
  unfold maxLen at hn hm
  by_cases h1 : 1048576 < n
  · go_enter Trym.func9, Trym.ntmps9
    go_wp2
    go_ret
    exact ⟨rfl, rfl⟩
  · by_cases h2 : 1048576 < m
    · go_enter Trym.func9, Trym.ntmps9
      go_wp2
      go_ret
      exact ⟨rfl, rfl⟩
    · go_enter Trym.func9, Trym.ntmps9
      go_wp2
      go_ret
      exact ⟨rfl, rfl⟩

/-! ### STEP 1: THE WALK: the Go text returns true, AND WRITES NOTHING THAT WAS THERE -/
set_option maxHeartbeats 1600000 in
theorem walk_in (a0 : Option Addr) (len0 cap0 : Nat) (A : List Int) (a1 : Option Addr) (len1 cap1 : Nat) (B : List Int) (w : World) (hA : Ints w a0 len0 A) (hB : Ints w a1 len1 B)
    (n0 : a0 = none → len0 = 0 ∧ cap0 = 0) (n1 : a1 = none → len1 = 0 ∧ cap1 = 0) (l0 : len0 ≤ 65536) (l1 : len1 ≤ 65536) :
    Calls Trym.prog 5 #[.slice a0 len0 cap0, .slice a1 len1 cap1] w fun e w' => e = .returned (.bool true) ∧ Below w.heap.size w w' := by
  cases uA : isUp A with
  | false =>
    go_enter Trym.func5, Trym.ntmps5
    go_wp2_with fail
    refine (bytes_yes _ _ _ _ _ _ _ (by omega)).mono ?_
    rintro e w' ⟨rfl, rfl⟩
    go_wp2_with fail
    refine (isUp_any a0 len0 cap0 A _ hA l0).mono ?_
    rintro e w1 ⟨rfl, b1⟩
    rw [uA]
    go_wp2_with fail
    go_ret
    exact ⟨rfl, b1⟩
  | true =>
    cases uB : isUp B with
    | false =>
      go_enter Trym.func5, Trym.ntmps5
      go_wp2_with fail
      refine (bytes_yes _ _ _ _ _ _ _ (by omega)).mono ?_
      rintro e w' ⟨rfl, rfl⟩
      go_wp2_with fail
      refine (isUp_any a0 len0 cap0 A _ hA l0).mono ?_
      rintro e w1 ⟨rfl, b1⟩
      rw [uA]
      go_wp2_with fail
      refine (isUp_any a1 len1 cap1 B _ (hB.below b1) l1).mono ?_
      rintro e w2 ⟨rfl, b2⟩
      rw [uB]
      go_wp2_with fail
      go_ret
      exact ⟨rfl, b1.trans (b2.mono b1.size)⟩
    | true =>
      have lA := hA.1
      have lB := hB.1
      have HLA : Hid (A.length = len0) := lA
      have HLB : Hid (B.length = len1) := lB
      have HN0 : Hid (a0 = none → len0 = 0 ∧ cap0 = 0) := n0
      have HN1 : Hid (a1 = none → len1 = 0 ∧ cap1 = 0) := n1
      have HUA : Hid (isUp A = true) := uA
      have HUB : Hid (isUp B = true) := uB
      have lC := inB_len A B
      have lC0 : (inB A B).length ≤ 65536 := by omega
      clear lA lB n0 n1 lC
      go_enter Trym.func5, Trym.ntmps5
      go_wp2_with fail
      refine (bytes_yes _ _ _ _ _ _ _ (by omega)).mono ?_
      rintro e w' ⟨rfl, rfl⟩
      go_wp2_with fail
      refine (isUp_any a0 len0 cap0 A _ hA l0).mono ?_
      rintro e w1 ⟨rfl, b1⟩
      rw [uA]
      go_wp2_with fail
      have hB1 := hB.below b1
      refine (isUp_any a1 len1 cap1 B _ hB1 l1).mono ?_
      rintro e w2 ⟨rfl, b2⟩
      rw [uB]
      have B2 := b1.trans (b2.mono b1.size)
      have hA2 := hA.below B2
      have hB2 := hB.below B2
      clear b1 b2 hB1 hA hB
      go_wp2_with fail
      refine (clone_any a0 len0 cap0 A _ hA2 HN0.out l0).mono ?_
      rintro e w3 ⟨v0, rfl, hA3, b3⟩
      have hB3 := hB2.below b3
      have B3 := B2.trans (b3.mono B2.size)
      clear b3 hA2 hB2 B2
      go_wp2_with fail
      refine (clone_any a1 len1 cap1 B _ hB3 HN1.out l1).mono ?_
      rintro e w4 ⟨v1, rfl, hB4, b4⟩
      have hA4 := hA3.below b4
      have B4 := B3.trans (b4.mono B3.size)
      clear b4 hA3 hB3 B3
      go_wp2_with fail
      refine (zzboth_any v0 v1 len0 len1 len0 len1 A B _ hA4 hB4 l0 l1).mono ?_
      rintro e w5 ⟨v2, c2, rfl, I2, b5⟩
      have hA5 := hA4.below b5
      have hB5 := hB4.below b5
      have B5 := B4.trans (b5.mono B4.size)
      clear b5 hA4 hB4 B4
      have uC := inB_up uA uB
      have HUC : Hid (isUp (inB A B) = true) := uC
      have HCN : Hid (∀ v, (inB A B).count v = min (A.count v) (B.count v)) := fun v => inB_count uA uB v
      generalize inB A B = C at *
      go_wp2_with fail
      refine (isUp_any v2 C.length c2 C _ I2 lC0).mono ?_
      rintro e w6 ⟨rfl, b6⟩
      rw [HUC.out]
      have hA6 := hA5.below b6
      have hB6 := hB5.below b6
      have I6 := I2.below b6
      have B6 := B5.trans (b6.mono B5.size)
      clear b6 hA5 hB5 B5 I2 uC
      go_wp2_with fail
      go_loop [6] (fun i => ∃ k : Nat, k ≤ C.length ∧ i = .int .i64 k) (fun i => C.length - (intOf i).toNat)
      case atStart => exact ⟨0, Nat.zero_le _, rfl⟩
      case round =>
        obtain ⟨k, hk, rfl⟩ := hrel
        by_cases hlt : k < C.length
        · obtain ⟨_, h0 | ⟨b, off, rfl, hb, hc⟩⟩ := id I6
          · omega
          have g0 := hc k hlt
          obtain ⟨y, hy⟩ : ∃ y, y = C.getD k 0 := ⟨_, rfl⟩
          rw [← hy] at g0
          clear hc hy
          have p0 : (0 : Int) ≤ (k : Int) := by omega
          have p2 : (k : Int) < (C.length : Int) := by omega
          go_wp2_with fail
          refine (lesser_any _ v0 v1 C.length len0 len1 c2 len0 len1 C A B y _ I6 hA6 hB6 lC0 l0 l1 HUC.out HUA.out HUB.out (HCN.out y)).mono ?_
          rintro e w' ⟨rfl, rfl⟩
          go_wp2_with fail
          go_round
          case rel => exact ⟨k + 1, by omega, by go_num⟩
          case measure => simp [intOf]; omega
        · go_wp2_with fail
          go_loop [7] (fun i => ∃ k : Nat, k ≤ len0 ∧ i = .int .i64 k) (fun i => len0 - (intOf i).toNat)
          case atStart => exact ⟨0, Nat.zero_le _, rfl⟩
          case round =>
            obtain ⟨k, hk, rfl⟩ := hrel
            by_cases hlt : k < len0
            · obtain ⟨_, h0 | ⟨b, off, rfl, hb, hc⟩⟩ := id hA6
              · omega
              have g0 := hc k hlt
              obtain ⟨y, hy⟩ : ∃ y, y = A.getD k 0 := ⟨_, rfl⟩
              rw [← hy] at g0
              clear hc hy
              have p0 : (0 : Int) ≤ (k : Int) := by omega
              have p2 : (k : Int) < (len0 : Int) := by omega
              go_wp2_with fail
              refine (lesser_any v2 _ v1 C.length len0 len1 c2 len0 len1 C A B y _ I6 hA6 hB6 lC0 l0 l1 HUC.out HUA.out HUB.out (HCN.out y)).mono ?_
              rintro e w' ⟨rfl, rfl⟩
              go_wp2_with fail
              go_round
              case rel => exact ⟨k + 1, by omega, by go_num⟩
              case measure => simp [intOf]; omega
            · go_wp2_with fail
              go_ret
              exact ⟨rfl, B6⟩

theorem walk (a0 : Option Addr) (len0 cap0 : Nat) (z0 : List Int) (a1 : Option Addr) (len1 cap1 : Nat) (z1 : List Int) (w : World) (w0 : IsRow .i64 w a0 len0 cap0 z0) (w1 : IsRow .i64 w a1 len1 cap1 z1) :
    Calls Trym.prog 5 #[.slice a0 len0 cap0, .slice a1 len1 cap1] w fun e w' => e = .returned (.bool true) ∧ Below w.heap.size w w' := by
  obtain ⟨hA, n0, m0⟩ := w0.ints
  obtain ⟨hB, n1, m1⟩ := w1.ints
  by_cases hs : 1048576 < len0 + len1
  · clear hA hB w0 w1 n0 n1
    go_enter Trym.func5, Trym.ntmps5
    go_wp2_with fail
    refine (bytes_no _ _ _ _ _ _ _ m0 m1 hs).mono ?_
    rintro e w' ⟨rfl, rfl⟩
    go_wp2_with fail
    go_ret
    exact ⟨rfl, Below.refl _ _⟩
  · by_cases h0 : 65536 < len0
    · clear hA hB w0 w1 n0 n1
      go_enter Trym.func5, Trym.ntmps5
      go_wp2_with fail
      refine (bytes_yes _ _ _ _ _ _ _ (by omega)).mono ?_
      rintro e w' ⟨rfl, rfl⟩
      go_wp2_with fail
      go_ret
      exact ⟨rfl, Below.refl _ _⟩
    · by_cases h1 : 65536 < len1
      · clear hA hB w0 w1 n0 n1
        go_enter Trym.func5, Trym.ntmps5
        go_wp2_with fail
        refine (bytes_yes _ _ _ _ _ _ _ (by omega)).mono ?_
        rintro e w' ⟨rfl, rfl⟩
        go_wp2_with fail
        go_ret
        exact ⟨rfl, Below.refl _ _⟩
      · exact walk_in a0 len0 cap0 _ a1 len1 cap1 _ w hA hB n0 n1 (by omega) (by omega)

/-! ### THE ROW's STEP: WRITTEN OUT: LEAVE IT -/
set_option maxRecDepth 100000 in
theorem lifted (os : Os) (started : os.Started) (H : Type) (enc : TypeId × Value → H) :
    ReturnsInHanded {} Trym.checked os 5 .any (Rows.fnInBothCountsAreTheLesserSpec.pre6 enc Trym.prog Trym.f5 Rows.fnInBothCountsAreTheLesserRow.domain false) (Rows.fnInBothCountsAreTheLesserSpec.post enc Trym.prog Trym.f5 false true false false) := by
  refine returnsInHanded_of_change (C := Trym.checked) own started (by kernel_rfl) Trym.func5
    (ChangeSpec.witness6 (enc := enc) (C := Trym.checked) false ⟨#[], #[.slice none 0 0, .slice none 0 0], []⟩ 8 (by kernel_rfl) (by kernel_rfl) (by kernel_rfl) (by kernel_rfl)) ?_
  intro W base args ds gs before hval0 hW hcnd _
  have hval : ∀ (j : Nat) t v, Trym.f5.params[j]? = some t → args[j]? = some v → Value.okWide Trym.prog W .any base t v := hval0
  have hW' := hW
  obtain ⟨p, q, hA0, hV, rfl, hfz, hnd⟩ := hW
  have hA : DataW.TrodAll enc Trym.prog W 0 (fun _ => true) true Trym.f5.params.toList args.toList ds p := hA0
  rw [Trym.params5] at hA hval
  obtain ⟨v0, vs0, d0, ds0, p0, q0, hargs, rfl, rfl, h0, r0⟩ := trodAll_cons hA
  obtain ⟨v1, vs1, d1, ds1, p1, q1, rfl, rfl, rfl, h1, r1⟩ := trodAll_cons r0
  obtain ⟨rfl, rfl, rfl⟩ := trodAll_nil r1
  obtain rfl : args = #[v0, v1] := by cases args; simp_all
  obtain ⟨rfl, rfl⟩ := trodVars_none hV
  obtain ⟨a0, len0, cap0, rfl⟩ := okWide_slice Trym.underlying27 (hval 0 27 v0 rfl rfl)
  have k0 := h0
  have lt0 : ∀ x ∈ p0, x.block < W.heap.size := by obtain ⟨m, hm⟩ := k0; exact DataW.trod_lt m _ _ _ hm
  obtain ⟨z0, w0⟩ : ∃ zs, IsRow .i64 W a0 len0 cap0 zs := by
    obtain ⟨fuel, hf⟩ := h0
    rcases open_ints Trym.underlying27 Trym.underlying2 (by kernel_rfl) hf with ⟨hcs, _⟩ | ⟨x, l, c, zs, hcs, _, hl, hm, hz, _, hcell, hwz⟩
    · simp [Value.cells] at hcs
      obtain ⟨rfl, rfl, rfl⟩ := hcs
      exact ⟨[], .inl ⟨rfl, rfl, rfl, rfl⟩⟩
    · simp [Value.cells] at hcs
      obtain ⟨rfl, rfl, rfl⟩ := hcs
      exact ⟨zs, .inr ⟨_, rfl, hl, hm, by simpa using hz, hcell, hwz⟩⟩
  obtain ⟨a1, len1, cap1, rfl⟩ := okWide_slice Trym.underlying27 (hval 1 27 v1 rfl rfl)
  have k1 := h1
  have lt1 : ∀ x ∈ p1, x.block < W.heap.size := by obtain ⟨m, hm⟩ := k1; exact DataW.trod_lt m _ _ _ hm
  obtain ⟨z1, w1⟩ : ∃ zs, IsRow .i64 W a1 len1 cap1 zs := by
    obtain ⟨fuel, hf⟩ := h1
    rcases open_ints Trym.underlying27 Trym.underlying2 (by kernel_rfl) hf with ⟨hcs, _⟩ | ⟨x, l, c, zs, hcs, _, hl, hm, hz, _, hcell, hwz⟩
    · simp [Value.cells] at hcs
      obtain ⟨rfl, rfl, rfl⟩ := hcs
      exact ⟨[], .inl ⟨rfl, rfl, rfl, rfl⟩⟩
    · simp [Value.cells] at hcs
      obtain ⟨rfl, rfl, rfl⟩ := hcs
      exact ⟨zs, .inr ⟨_, rfl, hl, hm, by simpa using hz, hcell, hwz⟩⟩
  clear hA0 hval0
  refine (walk a0 len0 cap0 z0 a1 len1 cap1 z1 W w0 w1).mono fun e W' ⟨he, bel⟩ => ?_
  subst he
  exact ⟨_, rfl, _, _, _, [], _, [], hW', trodAll_mk1 (shut_bool Trym.underlying4 _), (trodAll_cons_mk (Below.trod laidOut (by kernel_rfl) (of_decide_eq_true (by kernel_rfl)) k0 bel lt0) (trodAll_cons_mk (Below.trod laidOut (by kernel_rfl) (of_decide_eq_true (by kernel_rfl)) k1 bel lt1) trodAll_mk0)), rfl, bel.frame _, fun h => by cases h⟩

theorem over : Rows.fnInBothCountsAreTheLesserRow.holds Trym.pinned (OpenSpec.ofChange Rows.fnInBothCountsAreTheLesserSpec) :=
  OpenClaim.holds_of_wide 5 Trym.f5 rfl rfl rfl rfl rfl rfl rfl ⟨rfl, rfl, rfl, rfl, rfl⟩ rfl rfl rfl rfl rfl (by kernel_rfl) Trym.func5 (by kernel_rfl)
    (of_decide_eq_true (by kernel_rfl)) (by unfold Func.isWrapper; first | (rw [if_pos (by decide +kernel)]; kernel_rfl) | (rw [if_neg (by decide +kernel)]; exact ⟨rfl, rfl⟩))
    (fun os started H enc _ => lifted os started H enc)

/-- ████ THE STATEMENT ████ -/
theorem proved : Rows.FnInBothCountsAreTheLesserSaid := over
end Go.Proofs.Qxb6000763aMods.fnInBothCountsAreTheLesser
