import Derived.Test.Qxb6000763aModsMake
namespace Go.Proofs.Qxb6000763aMods
open Go.ChangeShapes Go.WideShapes Go.ChangeAt Go.RowKit
set_option linter.unusedVariables false

/-- One of the two holds nothing: nothing is gathered. -/
theorem both_empty (a a' : Option Addr) (n n' c c' : Nat) (w : World) (hn : n ≤ 65536) (hn' : n' ≤ 65536) (h : n = 0 ∨ n' = 0) :
    Calls Trym.prog 17 #[.slice a n c, .slice a' n' c'] w fun e w' => e = .returned (.slice none 0 0) ∧ w' = w := by
  rcases h with rfl | rfl
  · go_enter Trym.func17, Trym.ntmps17
    go_wp2
    go_loop [5, 6, 7] (fun v i j => v = .slice none 0 0 ∧ i = .int .i64 0 ∧ j = .int .i64 0) (fun _ _ _ => 0)
    case atStart => exact ⟨rfl, rfl, rfl⟩
    case round =>
      obtain ⟨rfl, rfl, rfl⟩ := hrel
      go_wp2
      go_ret
      exact ⟨rfl, rfl⟩
  · by_cases h0 : n = 0
    · subst h0
      go_enter Trym.func17, Trym.ntmps17
      go_wp2
      go_loop [5, 6, 7] (fun v i j => v = .slice none 0 0 ∧ i = .int .i64 0 ∧ j = .int .i64 0) (fun _ _ _ => 0)
      case atStart => exact ⟨rfl, rfl, rfl⟩
      case round =>
        obtain ⟨rfl, rfl, rfl⟩ := hrel
        go_wp2
        go_ret
        exact ⟨rfl, rfl⟩
    · have h0 : 0 < n := by omega
      go_enter Trym.func17, Trym.ntmps17
      go_wp2
      go_loop [5, 6, 7] (fun v i j => v = .slice none 0 0 ∧ i = .int .i64 0 ∧ j = .int .i64 0) (fun _ _ _ => 0)
      case atStart => exact ⟨rfl, rfl, rfl⟩
      case round =>
        obtain ⟨rfl, rfl, rfl⟩ := hrel
        go_wp2
        go_ret
        exact ⟨rfl, rfl⟩

theorem new_cell (wr : World) (k : Nat) (x : Int) : ((wr.drewN k).alloc (.cells #[.int .i64 x] 2)).cell? ((⟨wr.heap.size, 0, none⟩ : Addr).add 0) = some (.int .i64 x) := by
  have := cell_one_new (wr.drewN k) (.int .i64 x) 2 0 (.int .i64 x) rfl
  exact this

set_option maxHeartbeats 1600000 in
theorem both_some (b off b' off' n n' c c' : Nat) (A B : List Int) (w : World) (hA : A.length = n) (hB : B.length = n') (hn : n ≤ 65536) (hn' : n' ≤ 65536) (hb : b < w.heap.size) (hb' : b' < w.heap.size)
    (hc : ∀ t, t < n → w.cell? ⟨b, off + t, none⟩ = some (.int .i64 (A.getD t 0))) (hc' : ∀ t, t < n' → w.cell? ⟨b', off' + t, none⟩ = some (.int .i64 (B.getD t 0))) :
    Calls Trym.prog 17 #[.slice (some ⟨b, off, none⟩) n c, .slice (some ⟨b', off', none⟩) n' c'] w fun e w' => ∃ v, e = .returned v ∧ w'.ownsRow w.heap.size 2 1 v (inB A B).length ((inB A B).map (Value.int .i64)) ∧ Below w.heap.size w w' := by
  obtain ⟨i0, hi, hz0, hz1, hz2⟩ := info_parts Trym.info2
  have HC : Hid (∀ t, t < n → w.cell? ⟨b, off + t, none⟩ = some (.int .i64 (A.getD t 0))) := hc
  have HC' : Hid (∀ t, t < n' → w.cell? ⟨b', off' + t, none⟩ = some (.int .i64 (B.getD t 0))) := hc'
  have HA : Hid (A.length = n) := hA
  have HB : Hid (B.length = n') := hB
  clear hc hc' hA hB
  go_enter Trym.func17, Trym.ntmps17
  go_wp2
  go_loopw [5, 6, 7] (fun v si sj wr => ∃ (i j : Nat) (xs : List Int), i ≤ n ∧ j ≤ n' ∧ xs.length ≤ i ∧ si = .int .i64 i ∧ sj = .int .i64 j ∧
      wr.ownsRow w.heap.size 2 1 v xs.length (xs.map (Value.int .i64)) ∧ Hid (xs ++ rest A B i j = inB A B) ∧ Below w.heap.size w wr)
    (fun _ si sj _ => (n - (intOf si).toNat) + (n' - (intOf sj).toNat))
  case atStart => exact ⟨0, 0, [], Nat.zero_le _, Nat.zero_le _, Nat.zero_le _, rfl, rfl, World.ownsRow_nil _ _ _ _, rfl, Below.refl _ _⟩
  case round =>
    obtain ⟨i, j, xs, hil, hjl, hxl, rfl, rfl, hown, HX, hbel⟩ := hrel
    by_cases hlt : i < n ∧ j < n'
    · obtain ⟨hi1, hj1⟩ := hlt
      obtain ⟨x, hx⟩ : ∃ x, x = A.getD i 0 := ⟨_, rfl⟩
      obtain ⟨y, hy⟩ : ∃ y, y = B.getD j 0 := ⟨_, rfl⟩
      have g0 : wr.cell? ⟨b, off + i, none⟩ = some (.int .i64 x) := by rw [hx]; exact (hbel.cell (by exact hb)).trans (HC.out i hi1)
      have g1 : wr.cell? ⟨b', off' + j, none⟩ = some (.int .i64 y) := by rw [hy]; exact (hbel.cell (by exact hb')).trans (HC'.out j hj1)
      have hiA : i < A.length := by rw [HA.out]; exact hi1
      have hjB : j < B.length := by rw [HB.out]; exact hj1
      have ex : x = A[i] := by rw [hx, List.getD_eq_getElem?_getD, List.getElem?_eq_getElem hiA]; rfl
      have ey : y = B[j] := by rw [hy, List.getD_eq_getElem?_getD, List.getElem?_eq_getElem hjB]; rfl
      have p0 : (0 : Int) ≤ (i : Int) := by omega
      have p1 : (0 : Int) ≤ (j : Int) := by omega
      have p2 : (i : Int) < (n : Int) := by omega
      have p3 : (j : Int) < (n' : Int) := by omega
      by_cases hxy : x < y
      · have HX' : Hid (xs ++ rest A B (i + 1) j = inB A B) := by rw [← rest_lt hiA hjB (by rw [← ex, ← ey]; exact hxy)]; exact HX
        clear ex ey hx hy hiA hjB
        go_wp2
        go_quiet (fail)
        go_wp2
        go_roundw
        case rel => exact ⟨i + 1, j, xs, by omega, by omega, by omega, by go_num, by go_num, hown, HX', below_drewN hbel _⟩
        case measure => simp [intOf]; omega
      by_cases hyx : y < x
      · have HX' : Hid (xs ++ rest A B i (j + 1) = inB A B) := by rw [← rest_gt hiA hjB (by rw [← ex, ← ey]; exact hyx)]; exact HX
        clear ex ey hx hy hiA hjB
        go_wp2
        go_quiet (fail)
        go_wp2
        go_quiet (fail)
        go_wp2
        go_roundw
        case rel => exact ⟨i, j + 1, xs, by omega, by omega, by omega, by go_num, by go_num, hown, HX', below_drewN hbel _⟩
        case measure => simp [intOf]; omega
      · have HX' : Hid ((xs ++ [x]) ++ rest A B (i + 1) (j + 1) = inB A B) := by
          have := HX.out
          rw [rest_eq hiA hjB (by rw [← ex, ← ey]; exact hxy) (by rw [← ex, ← ey]; exact hyx), ← ex] at this
          rw [List.append_assoc]; exact this
        clear ex ey hx hy hiA hjB
        have hsz := hbel.size
        go_wp2
        go_quiet (fail)
        go_wp2
        go_quiet (fail)
        go_wp2_with (at_builtin; refine wpList_append_own _ rfl (.tmp 18) (.tmp 23) 27 rfl w.heap.size 2 i0 (.int .i64 0) 1 8 Trym.underlying27 hi hz0 hz1 hz2 rfl (by decide) _ xs.length _ rfl (by exact hown.alloc _) ⟨wr.heap.size, 0, none⟩ 1 1 [.int .i64 x] rfl rfl ?c1 ?c2 ?c3 ?c4 ?c5 ?_)
        case c1 =>
          intro t u ht
          match t, ht with
          | 0, ht => simp at ht; subst ht; exact new_cell wr _ x
        case c2 => intro u hu; simp at hu; subst hu; rfl
        case c3 => unfold maxLen; omega
        case c4 => omega
        case c5 => simp; omega
        intro v' w1 hown' hgrow _
        have hbel' : Below w.heap.size w w1 := ((below_drewN hbel _).alloc (by simpa using hsz) _).grown hgrow (by simp; omega) (fun k hk => (hown.lt k hk).1)
        have hown1 : w1.ownsRow w.heap.size 2 1 v' (xs ++ [x]).length ((xs ++ [x]).map (Value.int .i64)) := by simpa using hown'
        clear hown' hgrow hown g0 g1 hbel HX
        have HO : Hid (w1.ownsRow w.heap.size 2 1 v' (xs ++ [x]).length ((xs ++ [x]).map (Value.int .i64))) := hown1
        clear hown1
        go_wp2
        go_roundw
        case rel => exact ⟨i + 1, j + 1, xs ++ [x], by omega, by omega, by simp; omega, by go_num, by go_num, HO.out, HX', hbel'⟩
        case measure => simp [intOf]; omega
    · have hend : Hid (xs = inB A B) := by
        have := HX.out
        rw [rest_end (by rw [HA.out, HB.out]; omega), List.append_nil] at this
        exact this
      have HO : Hid (wr.ownsRow w.heap.size 2 1 u5 (inB A B).length ((inB A B).map (Value.int .i64))) := by rw [← hend.out]; exact hown
      clear hown
      by_cases hi1 : i < n
      · have hj1 : ¬ j < n' := by omega
        clear hlt
        go_wp2
        go_ret
        exact ⟨_, rfl, HO.out, hbel⟩
      · clear hlt
        go_wp2
        go_ret
        exact ⟨_, rfl, HO.out, hbel⟩

theorem both_any (a a' : Option Addr) (n n' c c' : Nat) (A B : List Int) (w : World) (hA : Ints w a n A) (hB : Ints w a' n' B) (hn : n ≤ 65536) (hn' : n' ≤ 65536) :
    Calls Trym.prog 17 #[.slice a n c, .slice a' n' c'] w fun e w' => ∃ v c2, e = .returned (.slice v (inB A B).length c2) ∧ Ints w' v (inB A B).length (inB A B) ∧ Below w.heap.size w w' := by
  have key : n = 0 ∨ n' = 0 → inB A B = [] := by
    intro h
    have := inB_len A B
    rw [hA.1, hB.1] at this
    exact List.length_eq_zero_iff.1 (by omega)
  by_cases h : n = 0 ∨ n' = 0
  · rw [key h]
    exact (both_empty a a' n n' c c' w hn hn' h).mono fun e w' h => ⟨none, 0, h.1, ⟨rfl, .inl rfl⟩, by rw [h.2]; exact Below.refl _ _⟩
  · obtain ⟨hl, h0 | ⟨b, off, rfl, hb, hc⟩⟩ := hA
    · omega
    obtain ⟨hl', h0 | ⟨b', off', rfl, hb', hc'⟩⟩ := hB
    · omega
    refine (both_some b off b' off' n n' c c' A B w hl hl' hn hn' hb hb' hc hc').mono ?_
    rintro e w' ⟨v, rfl, hown, hbel⟩
    obtain ⟨a, c2, rfl, hI⟩ := ints_of_own hown
    exact ⟨a, c2, rfl, hI, hbel⟩

set_option maxHeartbeats 400000 in
/-- 'ZZinBoth': the same. -/
theorem zzboth_any (a a' : Option Addr) (n n' c c' : Nat) (A B : List Int) (w : World) (hA : Ints w a n A) (hB : Ints w a' n' B) (hn : n ≤ 65536) (hn' : n' ≤ 65536) :
    Calls Trym.prog 12 #[.slice a n c, .slice a' n' c'] w fun e w' => ∃ v c2, e = .returned (.slice v (inB A B).length c2) ∧ Ints w' v (inB A B).length (inB A B) ∧ Below w.heap.size w w' := by
  go_enter Trym.func12, Trym.ntmps12
  go_wp2_with fail
  refine (both_any a a' n n' c c' A B w hA hB hn hn').mono ?_
  rintro e w' ⟨v, c2, rfl, hI, hb⟩
  go_wp2
  go_ret
  exact ⟨_, _, rfl, hI, hb⟩

/-- 'zzClone' at whatever slice. -/
theorem clone_any (a : Option Addr) (n c : Nat) (Z : List Int) (w : World) (hZ : Ints w a n Z) (h0 : a = none → n = 0 ∧ c = 0) (hn : n ≤ 65536) :
    Calls Trym.prog 11 #[.slice a n c] w fun e w' => ∃ v, e = .returned (.slice v n n) ∧ Ints w' v n Z ∧ Below w.heap.size w w' := by
  cases a with
  | none =>
    obtain ⟨rfl, rfl⟩ := h0 rfl
    exact (clone_nil w).mono fun e w' h => ⟨none, h.1, by rw [h.2]; exact hZ, by rw [h.2]; exact Below.refl _ _⟩
  | some x => exact (clone_some x n c Z w hZ hn).mono fun e w' h => ⟨_, h⟩
end Go.Proofs.Qxb6000763aMods
