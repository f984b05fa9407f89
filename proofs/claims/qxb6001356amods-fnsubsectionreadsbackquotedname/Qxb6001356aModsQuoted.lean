import Derived.Test.Qxb6001356aModsSub
namespace Go.Proofs.Qxb6001356aMods
open Go.ChangeShapes Go.WideShapes Go.ChangeAt Go.RowKit
set_option linter.unusedVariables false

set_option maxHeartbeats 1600000 in
theorem bytes_any (a0 a1 a2 a3 a4 : ByteArray) (a5 : Bool) (w0 : a0.size ≤ maxLen) (w1 : a1.size ≤ maxLen) (w2 : a2.size ≤ maxLen) (w3 : a3.size ≤ maxLen) (w4 : a4.size ≤ maxLen) (w : World) :
    Calls Trym.prog 11 #[.string a0, .string a1, .string a2, .string a3, .string a4, .bool a5] w fun e w' => ∃ b : Bool, e = .returned (.bool b) ∧ w' = w := by
  unfold maxLen at w0 w1 w2 w3 w4
  go_enter Trym.func11, Trym.ntmps11
  go_wp2
  all_goals (go_ret; exact ⟨_, rfl, rfl⟩)

theorem came_nil (W : World) : Came W 1 none 0 0 0 0 [] :=
  ⟨Nat.le_refl _, fun h => absurd h (by omega), fun h => absurd h (by omega), rfl, (fun j u h => by cases h), fun j h => absurd h (by omega)⟩
theorem upon_kept {W w : World} {v : Value} {m r : Nat} {ks : List Value} (h : Upon W 5 1 none 0 0 0 0 [] w v m ks r) : Kept W w := by
  have hr : r = 0 := by have := h.rFit; omega
  refine ⟨h.kept.1, h.kept.2.1, h.kept.size, fun i hi => h.kept.block hi ?_⟩
  rintro pl ⟨j, hj, _⟩ e
  omega

/-- Behind an append: the slice's shape, and the relation at a length and at bytes of our own spelling. -/
theorem upon_shape {W w : World} {v : Value} {m r n : Nat} {ks : List Value} {l : List UInt8} (h : Upon W 5 1 none 0 0 0 0 [] w v m ks r) (hm : m = n) (hks : ks = cellsOf l) :
    ∃ a c, v = .slice a n c ∧ ∃ r, Upon W 5 1 none 0 0 0 0 [] w (.slice a n c) n (cellsOf l) r := by
  obtain ⟨a, c, hv⟩ := h.shape
  subst hm; subst hks
  rw [Nat.zero_add] at hv
  exact ⟨a, c, hv, r, hv ▸ h⟩

theorem built_esc {Bs X : List UInt8} {all : Bool} {s : ByteArray} {k : Nat} (h : Bs = X ++ esc all (s.data.toList.take k)) (hk : k < s.size) (he : (all || s[k] == 34 || s[k] == 92) = true) : Hid (Bs ++ [92] ++ [s[k]] = X ++ esc all (s.data.toList.take (k + 1))) := by
  show Bs ++ [92] ++ [s[k]] = _
  rw [take_snoc s k hk, esc_append, h]
  have : esc all [s[k]] = [92, s[k]] := by simp [esc, esc1, he]
  rw [this]; simp
theorem built_plain {Bs X : List UInt8} {all : Bool} {s : ByteArray} {k : Nat} (h : Bs = X ++ esc all (s.data.toList.take k)) (hk : k < s.size) (he : (all || s[k] == 34 || s[k] == 92) = false) : Hid (Bs ++ [s[k]] = X ++ esc all (s.data.toList.take (k + 1))) := by
  show Bs ++ [s[k]] = _
  rw [take_snoc s k hk, esc_append, h]
  have : esc all [s[k]] = [s[k]] := by simp [esc, esc1, he]
  rw [this]; simp

theorem two_new (w : World) : ∀ j u, [Value.int .u8 34, Value.int .u8 93][j]? = some u → (w.alloc (.cells #[.int .u8 34, .int .u8 93] 5)).cell? ((⟨w.heap.size, 0, none⟩ : Addr).add j) = some u := by
  intro j u hj
  rw [add_plain, Nat.zero_add, World.cell?_alloc_mark]
  simpa using hj
theorem len_size (s : ByteArray) : s.data.toList.length = s.size := by simp
theorem size_of {T : ByteArray} {l : List UInt8} (h : T.data.toList = l) : T.size = l.length := by rw [← len_size, h]
theorem blanks_of {s : ByteArray} (h : allB s = true) : ∀ c ∈ s.data.toList, isB c = true := by
  unfold allB at h; rw [List.all_eq_true] at h; exact h
theorem no_newline {s : ByteArray} (h : hasN s = false) : ∀ c ∈ s.data.toList, c ≠ 10 := by
  unfold hasN at h; rw [List.any_eq_false] at h
  intro c hc e
  exact h c hc (by simp [e])
theorem joined (S N : ByteArray) : (S ++ (⟨#[46]⟩ : ByteArray) ++ N).data.toList = S.data.toList ++ 46 :: N.data.toList := by simp

set_option maxHeartbeats 3200000 in
theorem walk_main (a0 a1 a2 a3 a4 : ByteArray) (a5 : Bool) (w0 : a0.size ≤ 262144) (w1 : a1.size ≤ 65536) (w2 : a2.size ≤ 131072) (w3 : a3.size ≤ 131072) (w4 : a4.size ≤ 262144) (hB : allB a1 = true) (hN : hasN a3 = false) (w : World) :
    Calls Trym.prog 3 #[.string a0, .string a1, .string a2, .string a3, .string a4, .bool a5] w fun e w' => e = .returned (.bool true) ∧ Kept w w' := by
  obtain ⟨i0, hi, hz0, hz1, hz2⟩ := info_parts Trym.info5
  have HB : Hid (allB a1 = true) := hB
  have HN : Hid (hasN a3 = false) := hN
  clear hB hN
  go_enter Trym.func3, Trym.ntmps3
  go_wp2_with fail
  refine (bytes_any a0 a1 a2 a3 a4 a5 (by unfold maxLen; omega) (by unfold maxLen; omega) (by unfold maxLen; omega) (by unfold maxLen; omega) (by unfold maxLen; omega) _).mono ?_
  rintro e w' ⟨b, rfl, rfl⟩
  cases b with
  | false =>
    go_wp2_with fail
    go_ret
    exact ⟨rfl, Kept.refl _⟩
  | true =>
    go_wp2_with fail
    refine (blanks_any a1 _ (by omega)).mono ?_
    rintro e w' ⟨rfl, rfl⟩
    rw [HB.out]
    go_wp2_with fail
    refine (hasByte_any a3 _ (by omega)).mono ?_
    rintro e W ⟨rfl, rfl⟩
    rw [HN.out]
    have hcame := came_nil W
    go_wp2_with (at_builtin; refine wpList_append_upon _ rfl (.tmp 49) (.tmp 50) 25 9 rfl hcame i0 (.int .u8 0) 1 Trym.underlying25 hi hz0 hz1 hz2 rfl rfl (Upon.start hcame) (.string a0) a0.size (byteCells a0) rfl (Src.ofString _ Trym.underlying9 a0) (by unfold maxLen; omega) (by omega) ?_)
    intro v1 wa hup
    obtain ⟨x1, c1, rfl, r1, hup1⟩ := upon_shape (n := a0.size) (l := a0.data.toList) hup (by omega) rfl
    clear hup
    go_wp2_with (at_builtin; refine wpList_append_upon _ rfl (.tmp 54) (.tmp 55) 25 9 rfl hcame i0 (.int .u8 0) 1 Trym.underlying25 hi hz0 hz1 hz2 rfl rfl hup1 (.string a1) a1.size (byteCells a1) rfl (Src.ofString _ Trym.underlying9 a1) (by unfold maxLen; omega) (by omega) ?_)
    intro v2 wb hupb
    obtain ⟨x2, c2, rfl, r2, hup2⟩ := upon_shape (n := a0.size + a1.size) (l := a0.data.toList ++ a1.data.toList) hupb rfl (by rw [cellsOf_append]; rfl)
    clear hupb hup1
    go_wp2_with (at_builtin; refine wpList_append_upon _ rfl (.tmp 57) (.tmp 58) 25 25 rfl hcame i0 (.int .u8 0) 1 Trym.underlying25 hi hz0 hz1 hz2 rfl rfl (by exact hup2.alloc hcame _) (.slice (some ⟨wb.heap.size, 0, none⟩) 1 1) 1 [.int .u8 34] rfl (Src.ofSlice _ Trym.underlying25 ⟨wb.heap.size, 0, none⟩ 1 1 _ rfl (cell_one_new _ _ _) (by intro u hu; simp at hu; subst hu; rfl)) (by unfold maxLen; omega) (by omega) ?_)
    intro v3 wc hupc
    obtain ⟨x3, c3, rfl, r3, hup3⟩ := upon_shape (n := a0.size + a1.size + 1) (l := a0.data.toList ++ a1.data.toList ++ [34]) hupc rfl (by rw [cellsOf_append (a0.data.toList ++ a1.data.toList)]; rfl)
    clear hupc hup2
    go_wp2
    go_loopw [13, 15] (fun v i wr => ∃ (k n r : Nat) (Bs : List UInt8) (x : Option Addr) (c : Nat), k ≤ a3.size ∧ i = .int .i64 k ∧ v = .slice x n c ∧ n ≤ 400000 + 2 * k ∧ Hid (Bs = a0.data.toList ++ a1.data.toList ++ [34] ++ esc a5 (a3.data.toList.take k)) ∧ Upon W 5 1 none 0 0 0 0 [] wr (.slice x n c) n (cellsOf Bs) r) (fun _ i _ => a3.size - (intOf i).toNat)
    case atStart => exact ⟨0, a0.size + a1.size + 1, r3, a0.data.toList ++ a1.data.toList ++ [34], x3, c3, Nat.zero_le _, rfl, rfl, by omega, by simp [Hid, esc], hup3⟩
    case round =>
      clear hup3
      obtain ⟨k, n, r, Bs, x, c, hk, rfl, rfl, hn, HBS, hup⟩ := hrel
      by_cases hlt : k < a3.size
      · cases a5 with
        | true =>
          have HE : Hid ((true || a3[k] == 34 || a3[k] == 92) = true) := by simp [Hid]
          go_wp2_with (at_builtin; refine wpList_append_upon _ rfl (.tmp 78) (.tmp 79) 25 25 rfl hcame i0 (.int .u8 0) 1 Trym.underlying25 hi hz0 hz1 hz2 rfl rfl (by exact hup.alloc hcame _) (.slice (some ⟨wr.heap.size, 0, none⟩) 1 1) 1 [.int .u8 92] rfl (Src.ofSlice _ Trym.underlying25 ⟨wr.heap.size, 0, none⟩ 1 1 _ rfl (cell_one_new _ _ _) (by intro u hu; simp at hu; subst hu; rfl)) (by unfold maxLen; omega) (by omega) ?_)
          intro v4 wd hupd
          obtain ⟨x4, c4, rfl, r4, hup4⟩ := upon_shape (n := n + 1) (l := Bs ++ [92]) hupd rfl (by rw [cellsOf_append]; rfl)
          clear hupd hup
          go_wp2_with (at_builtin; refine wpList_append_upon _ rfl (.tmp 81) (.tmp 83) 25 25 rfl hcame i0 (.int .u8 0) 1 Trym.underlying25 hi hz0 hz1 hz2 rfl rfl (by exact hup4.alloc hcame _) (.slice (some ⟨wd.heap.size, 0, none⟩) 1 1) 1 [.int .u8 a3[k].toNat] rfl (Src.ofSlice _ Trym.underlying25 ⟨wd.heap.size, 0, none⟩ 1 1 _ rfl (cell_one_new _ _ _) (by intro u hu; simp at hu; subst hu; rfl)) (by unfold maxLen; omega) (by omega) ?_)
          intro v5 we hupe
          obtain ⟨x5, c5, rfl, r5, hup5⟩ := upon_shape (n := n + 1 + 1) (l := Bs ++ [92] ++ [a3[k]]) hupe rfl (by rw [cellsOf_append (Bs ++ [92])]; rfl)
          clear hupe hup4
          go_wp2
          go_roundw
          case rel => exact ⟨k + 1, n + 1 + 1, r5, Bs ++ [92] ++ [a3[k]], x5, c5, by omega, by go_num, rfl, by omega, built_esc HBS.out hlt HE.out, hup5⟩
          case measure => simp [intOf]; omega
        | false =>
          by_cases h34 : a3[k] = 34
          · have HE : Hid ((false || a3[k] == 34 || a3[k] == 92) = true) := by simp [Hid, h34]
            have t1 : ((a3[k].toNat : Int) == 34) = true := by rw [h34]; rfl
            clear h34
            go_wp2_with (at_builtin; refine wpList_append_upon _ rfl (.tmp 78) (.tmp 79) 25 25 rfl hcame i0 (.int .u8 0) 1 Trym.underlying25 hi hz0 hz1 hz2 rfl rfl (by exact hup.alloc hcame _) (.slice (some ⟨wr.heap.size, 0, none⟩) 1 1) 1 [.int .u8 92] rfl (Src.ofSlice _ Trym.underlying25 ⟨wr.heap.size, 0, none⟩ 1 1 _ rfl (cell_one_new _ _ _) (by intro u hu; simp at hu; subst hu; rfl)) (by unfold maxLen; omega) (by omega) ?_)
            intro v4 wd hupd
            obtain ⟨x4, c4, rfl, r4, hup4⟩ := upon_shape (n := n + 1) (l := Bs ++ [92]) hupd rfl (by rw [cellsOf_append]; rfl)
            clear hupd hup
            go_wp2_with (at_builtin; refine wpList_append_upon _ rfl (.tmp 81) (.tmp 83) 25 25 rfl hcame i0 (.int .u8 0) 1 Trym.underlying25 hi hz0 hz1 hz2 rfl rfl (by exact hup4.alloc hcame _) (.slice (some ⟨wd.heap.size, 0, none⟩) 1 1) 1 [.int .u8 a3[k].toNat] rfl (Src.ofSlice _ Trym.underlying25 ⟨wd.heap.size, 0, none⟩ 1 1 _ rfl (cell_one_new _ _ _) (by intro u hu; simp at hu; subst hu; rfl)) (by unfold maxLen; omega) (by omega) ?_)
            intro v5 we hupe
            obtain ⟨x5, c5, rfl, r5, hup5⟩ := upon_shape (n := n + 1 + 1) (l := Bs ++ [92] ++ [a3[k]]) hupe rfl (by rw [cellsOf_append (Bs ++ [92])]; rfl)
            clear hupe hup4
            go_wp2
            go_roundw
            case rel => exact ⟨k + 1, n + 1 + 1, r5, Bs ++ [92] ++ [a3[k]], x5, c5, by omega, by go_num, rfl, by omega, built_esc HBS.out hlt HE.out, hup5⟩
            case measure => simp [intOf]; omega
          · have t1 : ((a3[k].toNat : Int) == 34) = false := byte_ne (n := 34) (by omega) h34
            by_cases h92 : a3[k] = 92
            · have HE : Hid ((false || a3[k] == 34 || a3[k] == 92) = true) := by simp [Hid, h92]
              have t2 : ((a3[k].toNat : Int) == 92) = true := by rw [h92]; rfl
              clear h34 h92
              go_wp2_with (at_builtin; refine wpList_append_upon _ rfl (.tmp 78) (.tmp 79) 25 25 rfl hcame i0 (.int .u8 0) 1 Trym.underlying25 hi hz0 hz1 hz2 rfl rfl (by exact hup.alloc hcame _) (.slice (some ⟨wr.heap.size, 0, none⟩) 1 1) 1 [.int .u8 92] rfl (Src.ofSlice _ Trym.underlying25 ⟨wr.heap.size, 0, none⟩ 1 1 _ rfl (cell_one_new _ _ _) (by intro u hu; simp at hu; subst hu; rfl)) (by unfold maxLen; omega) (by omega) ?_)
              intro v4 wd hupd
              obtain ⟨x4, c4, rfl, r4, hup4⟩ := upon_shape (n := n + 1) (l := Bs ++ [92]) hupd rfl (by rw [cellsOf_append]; rfl)
              clear hupd hup
              go_wp2_with (at_builtin; refine wpList_append_upon _ rfl (.tmp 81) (.tmp 83) 25 25 rfl hcame i0 (.int .u8 0) 1 Trym.underlying25 hi hz0 hz1 hz2 rfl rfl (by exact hup4.alloc hcame _) (.slice (some ⟨wd.heap.size, 0, none⟩) 1 1) 1 [.int .u8 a3[k].toNat] rfl (Src.ofSlice _ Trym.underlying25 ⟨wd.heap.size, 0, none⟩ 1 1 _ rfl (cell_one_new _ _ _) (by intro u hu; simp at hu; subst hu; rfl)) (by unfold maxLen; omega) (by omega) ?_)
              intro v5 we hupe
              obtain ⟨x5, c5, rfl, r5, hup5⟩ := upon_shape (n := n + 1 + 1) (l := Bs ++ [92] ++ [a3[k]]) hupe rfl (by rw [cellsOf_append (Bs ++ [92])]; rfl)
              clear hupe hup4
              go_wp2
              go_roundw
              case rel => exact ⟨k + 1, n + 1 + 1, r5, Bs ++ [92] ++ [a3[k]], x5, c5, by omega, by go_num, rfl, by omega, built_esc HBS.out hlt HE.out, hup5⟩
              case measure => simp [intOf]; omega
            · have t2 : ((a3[k].toNat : Int) == 92) = false := byte_ne (n := 92) (by omega) h92
              have HE : Hid ((false || a3[k] == 34 || a3[k] == 92) = false) := by simp [Hid, h34, h92]
              clear h34 h92
              go_wp2_with (at_builtin; refine wpList_append_upon _ rfl (.tmp 81) (.tmp 83) 25 25 rfl hcame i0 (.int .u8 0) 1 Trym.underlying25 hi hz0 hz1 hz2 rfl rfl (by exact hup.alloc hcame _) (.slice (some ⟨wr.heap.size, 0, none⟩) 1 1) 1 [.int .u8 a3[k].toNat] rfl (Src.ofSlice _ Trym.underlying25 ⟨wr.heap.size, 0, none⟩ 1 1 _ rfl (cell_one_new _ _ _) (by intro u hu; simp at hu; subst hu; rfl)) (by unfold maxLen; omega) (by omega) ?_)
              intro v5 we hupe
              obtain ⟨x5, c5, rfl, r5, hup5⟩ := upon_shape (n := n + 1) (l := Bs ++ [a3[k]]) hupe rfl (by rw [cellsOf_append]; rfl)
              clear hupe hup
              go_wp2
              go_roundw
              case rel => exact ⟨k + 1, n + 1, r5, Bs ++ [a3[k]], x5, c5, by omega, by go_num, rfl, by omega, built_plain HBS.out hlt HE.out, hup5⟩
              case measure => simp [intOf]; omega
      · have HK : Hid (a3.data.toList.take k = a3.data.toList) := List.take_of_length_le (by rw [len_size]; omega)
        have HBL : Hid (Bs.length = n) := by have := hup.ksLen; simp [cellsOf] at this; exact this
        go_wp2_with (at_builtin; refine wpList_append_upon _ rfl (.tmp 85) (.tmp 86) 25 25 rfl hcame i0 (.int .u8 0) 1 Trym.underlying25 hi hz0 hz1 hz2 rfl rfl (by exact hup.alloc hcame _) (.slice (some ⟨wr.heap.size, 0, none⟩) 2 2) 2 [.int .u8 34, .int .u8 93] rfl (Src.ofSlice _ Trym.underlying25 ⟨wr.heap.size, 0, none⟩ 2 2 _ rfl (two_new _) (by intro u hu; simp at hu; rcases hu with rfl | rfl <;> rfl)) (by unfold maxLen; omega) (by omega) ?_)
        intro v4 wd hupd
        obtain ⟨x4, c4, rfl, r4, hup4⟩ := upon_shape (n := n + 2) (l := Bs ++ [34, 93]) hupd rfl (by rw [cellsOf_append]; rfl)
        clear hupd hup
        go_wp2_with (at_builtin; refine wpList_append_upon _ rfl (.tmp 90) (.tmp 91) 25 9 rfl hcame i0 (.int .u8 0) 1 Trym.underlying25 hi hz0 hz1 hz2 rfl rfl hup4 (.string a4) a4.size (byteCells a4) rfl (Src.ofString _ Trym.underlying9 a4) (by unfold maxLen; omega) (by omega) ?_)
        intro v5 we hupe
        obtain ⟨x5, c5, rfl, r5, hup5⟩ := upon_shape (n := n + 2 + a4.size) (l := Bs ++ [34, 93] ++ a4.data.toList) hupe rfl (by rw [cellsOf_append (Bs ++ [34, 93])]; rfl)
        clear hupe hup4
        have hkept := upon_kept hup5
        obtain ⟨g, o', cap', hv, hv3, hv4, hcells⟩ := hup5.value hcame (Nat.zero_le _) (.inr (by omega))
        simp only [Value.slice.injEq] at hv
        obtain ⟨rfl, hv2, rfl⟩ := hv
        clear hv2 hv3 hv4
        obtain ⟨T, hT⟩ : ∃ T : ByteArray, T.data.toList = Bs ++ [34, 93] ++ a4.data.toList := ⟨⟨(Bs ++ [34, 93] ++ a4.data.toList).toArray⟩, by simp⟩
        have hTl : T.data.toList.length = n + 2 + a4.size := by
          rw [hT, List.length_append, List.length_append, HBL.out, len_size]; rfl
        have hcv : (convert 25 9 (.slice (some ⟨g, o', none⟩) (n + 2 + a4.size) c5)).run Trym.prog we = .ok (.string T) we := conv_back T (n + 2 + a4.size) g o' c5 we hTl (fun j hj => by
          rw [hcells j (by omega), hT, List.nil_append])
        have HTT : Hid (T.data.toList = Text a5 a0.data.toList a1.data.toList a3.data.toList a4.data.toList) := by
          show T.data.toList = _
          rw [hT, HBS.out, HK.out, Text]; simp
        have hTs : T.size ≤ 4194304 := by rw [← len_size, hTl]; omega
        have hes : a0.size + a1.data.toList.length + 1 + (esc a5 a3.data.toList).length + 2 = n + 2 := by
          have := HBL.out
          rw [HBS.out, HK.out] at this
          simp at this ⊢
          omega
        have key := zzsub_any T a2 (a2 ++ ⟨#[46]⟩ ++ a3) a0.size a0.data.toList a1.data.toList a3.data.toList a4.data.toList a5 HTT.out (len_size a0) (joined a2 a3) (blanks_of HB.out) (no_newline HN.out) hTs (by omega) (by rw [len_size]; omega) we
        rw [hes] at key
        clear hes hTl hT hcells hTs hup5
        have HKEY : Hid (Calls Trym.prog 14 #[.string T, .int .i64 a0.size, .string a2] we fun e w' => e = .returned (.tuple #[.string (a2 ++ ⟨#[46]⟩ ++ a3), .int .i64 ((n + 2 : Nat) : Int), .bool true]) ∧ Kept we w') := key
        clear key
        go_wp2_with fail
        refine Calls.mono (Hid.out HKEY) ?_
        rintro e wz ⟨rfl, hkz⟩
        go_wp2_with fail
        go_ret
        exact ⟨rfl, hkept.trans hkz⟩

set_option maxHeartbeats 1600000 in
theorem walk_all (a0 a1 a2 a3 a4 : ByteArray) (a5 : Bool) (w0 : a0.size ≤ maxLen) (w1 : a1.size ≤ maxLen) (w2 : a2.size ≤ maxLen) (w3 : a3.size ≤ maxLen) (w4 : a4.size ≤ maxLen) (w : World) :
    Calls Trym.prog 3 #[.string a0, .string a1, .string a2, .string a3, .string a4, .bool a5] w fun e w' => e = .returned (.bool true) ∧ Kept w w' := by
  by_cases h0 : 262144 < a0.size
  · go_enter Trym.func3, Trym.ntmps3
    go_wp2_with fail
    refine (bytes_any a0 a1 a2 a3 a4 a5 w0 w1 w2 w3 w4 _).mono ?_
    rintro e w' ⟨b, rfl, rfl⟩
    cases b with
    | false =>
      go_wp2_with fail
      go_ret
      exact ⟨rfl, Kept.refl _⟩
    | true =>
      go_wp2_with fail
      go_ret
      exact ⟨rfl, Kept.refl _⟩
  by_cases h1 : 65536 < a1.size
  · go_enter Trym.func3, Trym.ntmps3
    go_wp2_with fail
    refine (bytes_any a0 a1 a2 a3 a4 a5 w0 w1 w2 w3 w4 _).mono ?_
    rintro e w' ⟨b, rfl, rfl⟩
    cases b with
    | false =>
      go_wp2_with fail
      go_ret
      exact ⟨rfl, Kept.refl _⟩
    | true =>
      go_wp2_with fail
      go_ret
      exact ⟨rfl, Kept.refl _⟩
  by_cases h2 : 131072 < a2.size
  · go_enter Trym.func3, Trym.ntmps3
    go_wp2_with fail
    refine (bytes_any a0 a1 a2 a3 a4 a5 w0 w1 w2 w3 w4 _).mono ?_
    rintro e w' ⟨b, rfl, rfl⟩
    cases b with
    | false =>
      go_wp2_with fail
      go_ret
      exact ⟨rfl, Kept.refl _⟩
    | true =>
      go_wp2_with fail
      go_ret
      exact ⟨rfl, Kept.refl _⟩
  by_cases h3 : 131072 < a3.size
  · go_enter Trym.func3, Trym.ntmps3
    go_wp2_with fail
    refine (bytes_any a0 a1 a2 a3 a4 a5 w0 w1 w2 w3 w4 _).mono ?_
    rintro e w' ⟨b, rfl, rfl⟩
    cases b with
    | false =>
      go_wp2_with fail
      go_ret
      exact ⟨rfl, Kept.refl _⟩
    | true =>
      go_wp2_with fail
      go_ret
      exact ⟨rfl, Kept.refl _⟩
  by_cases h4 : 262144 < a4.size
  · go_enter Trym.func3, Trym.ntmps3
    go_wp2_with fail
    refine (bytes_any a0 a1 a2 a3 a4 a5 w0 w1 w2 w3 w4 _).mono ?_
    rintro e w' ⟨b, rfl, rfl⟩
    cases b with
    | false =>
      go_wp2_with fail
      go_ret
      exact ⟨rfl, Kept.refl _⟩
    | true =>
      go_wp2_with fail
      go_ret
      exact ⟨rfl, Kept.refl _⟩
  have u0 : a0.size ≤ 262144 := by omega
  have u1 : a1.size ≤ 65536 := by omega
  have u2 : a2.size ≤ 131072 := by omega
  have u3 : a3.size ≤ 131072 := by omega
  have u4 : a4.size ≤ 262144 := by omega
  cases hB : allB a1 with
  | false =>
    have HB : Hid (allB a1 = false) := hB
    clear hB
    go_enter Trym.func3, Trym.ntmps3
    go_wp2_with fail
    refine (bytes_any a0 a1 a2 a3 a4 a5 w0 w1 w2 w3 w4 _).mono ?_
    rintro e w' ⟨b, rfl, rfl⟩
    cases b with
    | false =>
      go_wp2_with fail
      go_ret
      exact ⟨rfl, Kept.refl _⟩
    | true =>
      go_wp2_with fail
      refine (blanks_any a1 _ (by omega)).mono ?_
      rintro e w' ⟨rfl, rfl⟩
      rw [HB.out]
      go_wp2_with fail
      go_ret
      exact ⟨rfl, Kept.refl _⟩
  | true =>
    cases hN : hasN a3 with
    | true =>
      have HB : Hid (allB a1 = true) := hB
      have HN : Hid (hasN a3 = true) := hN
      clear hB hN
      go_enter Trym.func3, Trym.ntmps3
      go_wp2_with fail
      refine (bytes_any a0 a1 a2 a3 a4 a5 w0 w1 w2 w3 w4 _).mono ?_
      rintro e w' ⟨b, rfl, rfl⟩
      cases b with
      | false =>
        go_wp2_with fail
        go_ret
        exact ⟨rfl, Kept.refl _⟩
      | true =>
        go_wp2_with fail
        refine (blanks_any a1 _ (by omega)).mono ?_
        rintro e w' ⟨rfl, rfl⟩
        rw [HB.out]
        go_wp2_with fail
        refine (hasByte_any a3 _ (by omega)).mono ?_
        rintro e W ⟨rfl, rfl⟩
        rw [HN.out]
        go_wp2_with fail
        go_ret
        exact ⟨rfl, Kept.refl _⟩
    | false => exact walk_main a0 a1 a2 a3 a4 a5 u0 u1 u2 u3 u4 hB hN w
end Go.Proofs.Qxb6001356aMods
