import Derived.Test.Qxb6001356aModsBytes
namespace Go.Proofs.Qxb6001356aMods
open Go.ChangeShapes Go.WideShapes Go.ChangeAt Go.RowKit
set_option linter.unusedVariables false

/-- Nothing that was there has turned (of the tape nothing is said). -/
structure Kept (w w' : World) : Prop where
  os : w'.os = w.os
  output : w'.output = w.output
  size : w.heap.size ≤ w'.heap.size
  block : ∀ k, k < w.heap.size → w'.heap[k]? = w.heap[k]?
theorem Kept.refl (w : World) : Kept w w := ⟨rfl, rfl, Nat.le_refl _, fun _ _ => rfl⟩
theorem Kept.trans {a b c : World} (h : Kept a b) (k : Kept b c) : Kept a c :=
  ⟨k.os.trans h.os, k.output.trans h.output, Nat.le_trans h.size k.size, fun i hi => (k.block i (Nat.lt_of_lt_of_le hi h.size)).trans (h.block i hi)⟩
theorem Kept.of_below {w w' : World} (h : Below w.heap.size w w') : Kept w w' := ⟨h.os, h.output, h.size, h.block⟩
theorem Kept.frame {W w' : World} (h : Kept W w') (may : MemPlace → Prop) : W.keptBut w' may := by
  refine ⟨h.os, h.output, fun i hi => ?_⟩
  rw [h.block i hi]
  split <;> simp_all

/-- Escaping: one byte; a name. -/
def esc1 (all : Bool) (c : UInt8) : List UInt8 := if all || c == 34 || c == 92 then [92, c] else [c]
def esc (all : Bool) (N : List UInt8) : List UInt8 := N.flatMap (esc1 all)
theorem esc_cons (all : Bool) (c : UInt8) (N : List UInt8) : esc all (c :: N) = esc1 all c ++ esc all N := by simp [esc]
theorem esc_append (all : Bool) (M N : List UInt8) : esc all (M ++ N) = esc all M ++ esc all N := by simp [esc]
theorem esc_len (all : Bool) (N : List UInt8) : (esc all N).length ≤ 2 * N.length := by
  induction N with
  | nil => simp [esc]
  | cons c N ih =>
    rw [esc_cons, List.length_append, List.length_cons]
    have : (esc1 all c).length ≤ 2 := by unfold esc1; split <;> simp
    omega

/-- The byte at a place of a text that is written as a sum. -/
theorem byte_at {T : ByteArray} {A B : List UInt8} {c : UInt8} (hT : T.data.toList = A ++ c :: B) {i : Nat} (hi : A.length = i) : ∃ h : i < T.size, T[i] = c := by
  have hl : T.size = T.data.toList.length := by simp
  have h : i < T.size := by rw [hl, hT]; simp; omega
  refine ⟨h, ?_⟩
  have e : T[i] = T.data.toList[i]'(by rw [← hl]; exact h) := by simp; rfl
  rw [e]
  subst hi
  simp [hT]

theorem cut_at (L X : List UInt8) (k : Nat) (h : k < L.length) : L ++ X = L.take k ++ L[k] :: (L.drop (k + 1) ++ X) := by
  rw [← List.cons_append, ← List.drop_eq_getElem_cons h, ← List.append_assoc, List.take_append_drop]

theorem Trym.info5 : (Trym.prog.info? 5).map (fun i => (i.zero, i.size, i.bytes)) = some (some (.int .u8 0), 1, 1) := by kernel_rfl

theorem came_of (w : World) (s : ByteArray) (cap : Nat) (hcap : s.size ≤ cap) :
    Came (w.drew.alloc (.cells (bytesRow s cap) 5 ((bytesRow s cap).size, (bytesRow s cap).size + 1))) 1 (some ⟨w.heap.size, 0, none⟩) w.heap.size 0 s.size cap (byteCells s) := by
  have hsz : (bytesRow s cap).size = cap := by simp [bytesRow]; omega
  refine ⟨hcap, fun _ => rfl, fun _ => by simp, by rw [byteCells_length]; omega, fun j u hj => ?_, fun j hj => ?_⟩
  · rw [Nat.zero_add]
    rw [show (⟨w.heap.size, j, none⟩ : Addr) = ⟨w.drew.heap.size, j, none⟩ from rfl, World.cell?_alloc_mark]
    have hlt : j < s.size := by
      rcases Nat.lt_or_ge j s.size with h | h
      · exact h
      · rw [List.getElem?_eq_none (by rw [byteCells_length]; exact h)] at hj; cases hj
    rw [← hj]
    unfold bytesRow byteCells
    rw [Array.getElem?_append_left (by simpa using hlt)]
    simp
  · have hlt : s.size + j < cap := by omega
    refine ⟨?_, ?_⟩
    · rw [show (⟨w.heap.size, 0 + s.size * 1 + j, none⟩ : Addr) = ⟨w.drew.heap.size, s.size + j, none⟩ from by simp, World.cell?_alloc_mark]
      rw [Array.getElem?_eq_getElem (by rw [hsz]; exact hlt)]; rfl
    · have hb : (w.drew.alloc (.cells (bytesRow s cap) 5 ((bytesRow s cap).size, (bytesRow s cap).size + 1))).heap[w.heap.size]? = some (.cells (bytesRow s cap) 5 ((bytesRow s cap).size, (bytesRow s cap).size + 1)) := heap_alloc_new w.drew _
      unfold World.frozen?
      rw [hb, hsz]
      simp
      omega

theorem esc_cut (all : Bool) (N : List UInt8) (m : Nat) (h : m < N.length) : esc all N = esc all (N.take m) ++ (esc1 all N[m] ++ esc all (N.drop (m + 1))) := by
  rw [← esc_cons, ← List.drop_eq_getElem_cons h, ← esc_append, List.take_append_drop]

/-- The text that is read: 'P' ahead, blanks, a quote, the name escaped, a quote, a bracket, whatever follows. -/
def Text (all : Bool) (P Ld Nm Tl : List UInt8) : List UInt8 := P ++ (Ld ++ (34 :: (esc all Nm ++ (34 :: 93 :: Tl))))
theorem text_lead {T : ByteArray} {all : Bool} {P Ld Nm Tl : List UInt8} (hT : T.data.toList = Text all P Ld Nm Tl) {j k : Nat} (hk : k < Ld.length) (hj : j = P.length + k) (hLd : ∀ c ∈ Ld, isB c = true) : ∃ h : j < T.size, isB T[j] = true := by
  have e2 : T.data.toList = (P ++ Ld.take k) ++ Ld[k] :: (Ld.drop (k + 1) ++ (34 :: (esc all Nm ++ (34 :: 93 :: Tl)))) := by
    rw [hT, Text, cut_at Ld _ k hk, List.append_assoc]
  obtain ⟨h1, h2⟩ := byte_at (i := j) e2 (by rw [List.length_append, List.length_take, hj]; omega)
  exact ⟨h1, by rw [h2]; exact hLd _ (List.getElem_mem _)⟩
theorem text_quote {T : ByteArray} {all : Bool} {P Ld Nm Tl : List UInt8} (hT : T.data.toList = Text all P Ld Nm Tl) {j : Nat} (hj : j = P.length + Ld.length) : ∃ h : j < T.size, T[j] = 34 := by
  have e2 : T.data.toList = (P ++ Ld) ++ 34 :: (esc all Nm ++ (34 :: 93 :: Tl)) := by rw [hT, Text]; simp
  exact byte_at (i := j) e2 (by rw [List.length_append, hj])
theorem text_esc {T : ByteArray} {all : Bool} {P Ld Nm Tl : List UInt8} (hT : T.data.toList = Text all P Ld Nm Tl) {j m : Nat} (hm : m < Nm.length) (hj : j = P.length + Ld.length + 1 + (esc all (Nm.take m)).length)
    (he : (all || Nm[m] == 34 || Nm[m] == 92) = true) : (∃ h : j < T.size, T[j] = 92) ∧ (∃ h : j + 1 < T.size, T[j + 1] = Nm[m]) ∧ (esc all (Nm.take (m + 1))).length = (esc all (Nm.take m)).length + 2 := by
  have e1 : esc1 all Nm[m] = [92, Nm[m]] := by unfold esc1; rw [if_pos he]
  have e2 : T.data.toList = (P ++ Ld ++ 34 :: esc all (Nm.take m)) ++ 92 :: (Nm[m] :: (esc all (Nm.drop (m + 1)) ++ 34 :: 93 :: Tl)) := by
    rw [hT, Text, esc_cut all Nm m hm, e1]; simp
  have e3 : T.data.toList = ((P ++ Ld ++ 34 :: esc all (Nm.take m)) ++ [92]) ++ Nm[m] :: (esc all (Nm.drop (m + 1)) ++ 34 :: 93 :: Tl) := by rw [e2]; simp
  refine ⟨byte_at (i := j) e2 (by simp; omega), byte_at (i := j + 1) e3 (by simp; omega), ?_⟩
  rw [List.take_succ_eq_append_getElem hm, esc_append, List.length_append]
  simp [esc, e1]
theorem text_plain {T : ByteArray} {all : Bool} {P Ld Nm Tl : List UInt8} (hT : T.data.toList = Text all P Ld Nm Tl) {j m : Nat} (hm : m < Nm.length) (hj : j = P.length + Ld.length + 1 + (esc all (Nm.take m)).length)
    (he : (all || Nm[m] == 34 || Nm[m] == 92) = false) : (∃ h : j < T.size, T[j] = Nm[m]) ∧ (esc all (Nm.take (m + 1))).length = (esc all (Nm.take m)).length + 1 := by
  have e1 : esc1 all Nm[m] = [Nm[m]] := by unfold esc1; rw [if_neg (by rw [he]; simp)]
  have e2 : T.data.toList = (P ++ Ld ++ 34 :: esc all (Nm.take m)) ++ Nm[m] :: (esc all (Nm.drop (m + 1)) ++ 34 :: 93 :: Tl) := by
    rw [hT, Text, esc_cut all Nm m hm, e1]; simp
  refine ⟨byte_at (i := j) e2 (by simp; omega), ?_⟩
  rw [List.take_succ_eq_append_getElem hm, esc_append, List.length_append]
  simp [esc, e1]
theorem text_end {T : ByteArray} {all : Bool} {P Ld Nm Tl : List UInt8} (hT : T.data.toList = Text all P Ld Nm Tl) {j : Nat} (hj : j = P.length + Ld.length + 1 + (esc all Nm).length) : (∃ h : j < T.size, T[j] = 34) ∧ ∃ h : j + 1 < T.size, T[j + 1] = 93 := by
  have e2 : T.data.toList = (P ++ Ld ++ 34 :: esc all Nm) ++ 34 :: (93 :: Tl) := by rw [hT, Text]; simp
  have e3 : T.data.toList = ((P ++ Ld ++ 34 :: esc all Nm) ++ [34]) ++ 93 :: Tl := by rw [e2]; simp
  exact ⟨byte_at (i := j) e2 (by simp; omega), byte_at (i := j + 1) e3 (by simp; omega)⟩

theorem size_dot (S : ByteArray) : (S ++ (⟨#[46]⟩ : ByteArray)).size = S.size + 1 := by rw [ByteArray.size_append]; rfl
theorem list_dot (S : ByteArray) : (S ++ (⟨#[46]⟩ : ByteArray)).data.toList = S.data.toList ++ [46] := by simp
theorem byte_is {c : UInt8} {n : Nat} (h : c = UInt8.ofNat n) (hn : n < 256) : ((c.toNat : Int) == (n : Int)) = true := by
  subst h; rw [beq_iff_eq, UInt8.toNat_ofNat_of_lt' (by simpa using hn)]
theorem byte_bne {c : UInt8} {n : Nat} (hn : n < 256) (h : c ≠ UInt8.ofNat n) : ((c.toNat : Int) != (n : Int)) = true := by
  rw [bne, byte_ne hn h]; rfl

/-- Bytes as cells. -/
def cellsOf (l : List UInt8) : List Value := l.map fun c => .int .u8 c.toNat
theorem cellsOf_snoc (l : List UInt8) (c : UInt8) : cellsOf (l ++ [c]) = cellsOf l ++ [.int .u8 c.toNat] := by simp [cellsOf]
theorem byteCells_of (s : ByteArray) : byteCells s = cellsOf s.data.toList := rfl

theorem ret_sub {R : ByteArray} {a b : Int} (h : a = b) : Ending.returned (.tuple #[.string R, .int .i64 a, .bool true]) = .returned (.tuple #[.string R, .int .i64 b, .bool true]) := by rw [h]
theorem cellsOf_append (l m : List UInt8) : cellsOf (l ++ m) = cellsOf l ++ cellsOf m := by simp [cellsOf]
theorem conv_back (R : ByteArray) (n g o cap : Nat) (w : World) (hn : R.data.toList.length = n) (hc : ∀ j, j < n → w.cell? ⟨g, o + j, none⟩ = (cellsOf R.data.toList)[j]?) :
    (convert 25 9 (.slice (some ⟨g, o, none⟩) n cap)).run Trym.prog w = .ok (.string R) w := by
  subst hn
  have := run_convert_bytes_back (P := Trym.prog) w 25 9 5 ⟨g, o, none⟩ cap R.data.toList Trym.underlying25 Trym.underlying5 Trym.underlying9 (fun j hj => by
    rw [add_plain, hc j hj, cellsOf, List.getElem?_map, List.getElem?_eq_getElem hj]; rfl)
  rw [this]

set_option maxHeartbeats 1600000 in
theorem sub_any (T S R : ByteArray) (p : Nat) (P Ld Nm Tl : List UInt8) (all : Bool) (hT : T.data.toList = Text all P Ld Nm Tl) (hp : P.length = p) (hR : R.data.toList = S.data.toList ++ 46 :: Nm)
    (hLd : ∀ c ∈ Ld, isB c = true) (hN : ∀ c ∈ Nm, c ≠ 10) (hTs : T.size ≤ 4194304) (hSs : S.size ≤ 1048576) (hNs : Nm.length ≤ 1048576) (w : World) :
    Calls Trym.prog 33 #[.string T, .int .i64 p, .string S] w fun e w' => e = .returned (.tuple #[.string R, .int .i64 ((p + Ld.length + 1 + (esc all Nm).length + 2 : Nat) : Int), .bool true]) ∧ Kept w w' := by
  obtain ⟨i0, hi, hz0, hz1, hz2⟩ := info_parts Trym.info5
  have HT : Hid (T.data.toList = Text all P Ld Nm Tl) := hT
  have HP : Hid (P.length = p) := hp
  have HR : Hid (R.data.toList = S.data.toList ++ 46 :: Nm) := hR
  have HLD : Hid (∀ c ∈ Ld, isB c = true) := hLd
  have HN : Hid (∀ c ∈ Nm, c ≠ 10) := hN
  clear hT hp hLd hN hR
  obtain ⟨q, hq⟩ : ∃ q, q = p + Ld.length + 1 + (esc all Nm).length + 2 := ⟨_, rfl⟩
  rw [← hq]
  have HQ : Hid (q = p + Ld.length + 1 + (esc all Nm).length + 2) := hq
  clear hq
  have hcv := fun w => run_bytes_of_string (P := Trym.prog) w 9 25 5 (S ++ ⟨#[46]⟩) Trym.underlying9 Trym.underlying25 Trym.underlying5
  go_enter Trym.func33, Trym.ntmps33
  go_wp2_with fail
  go_loop [1] (fun i => ∃ j k : Nat, k ≤ Ld.length ∧ i = .int .i64 j ∧ Hid (j = p + k)) (fun i => (p + Ld.length) - (intOf i).toNat)
  case atStart => exact ⟨p, 0, Nat.zero_le _, rfl, rfl⟩
  case round =>
    obtain ⟨j, k, hk, rfl, HJ⟩ := hrel
    by_cases hlt : k < Ld.length
    · obtain ⟨hj, hb⟩ := text_lead HT.out (j := j) hlt (by rw [HP.out]; exact HJ.out) HLD.out
      have HB : Hid (isB T[j] = true) := hb
      clear hb
      go_wp2_with fail
      refine (isSpace_yes _ _ (isB_yes HB.out)).mono ?_
      rintro e w' ⟨rfl, rfl⟩
      go_wp2_with fail
      go_round
      case rel => exact ⟨j + 1, k + 1, by omega, by go_num, by show j + 1 = p + (k + 1); rw [HJ.out]; omega⟩
      case measure => have := HJ.out; simp [intOf]; omega
    · obtain ⟨hj, hb⟩ := text_quote HT.out (j := j) (by rw [HP.out, HJ.out]; omega)
      have h34 : ((T[j].toNat : Int) != 34) = false := by rw [hb]; rfl
      have hB : isB T[j] = false := by rw [hb]; rfl
      have HBB : Hid (isB T[j] = false) := hB
      have hne : ((j : Int) == (T.size : Int)) = false := by simp; omega
      have HJ1 : Hid (j + 1 = p + Ld.length + 1) := by show j + 1 = p + Ld.length + 1; rw [HJ.out]; omega
      clear hb hB HJ hk hlt
      go_wp2_with fail
      refine (isSpace_no _ _ (isB_no HBB.out).1 (isB_no HBB.out).2.1 (isB_no HBB.out).2.2).mono ?_
      rintro e w' ⟨rfl, rfl⟩
      go_wp2_with fail
      have hcap : S.size + 1 ≤ grownCap w' (S.size + 1) 0 5 := grownCap_ge _ _ _ _
      have hcmax : grownCap w' (S.size + 1) 0 5 ≤ maxLen := grownCap_le_maxLen _ _ _ _ (by unfold maxLen; omega)
      generalize grownCap w' (S.size + 1) 0 5 = cap at *
      have hcame : Came (w'.alloc (.cells (bytesRow (S ++ ⟨#[46]⟩) cap) 5 ((bytesRow (S ++ ⟨#[46]⟩) cap).size, (bytesRow (S ++ ⟨#[46]⟩) cap).size + 1))).drew 1 (some ⟨w'.heap.size, 0, none⟩) w'.heap.size 0 (S.size + 1) cap (byteCells (S ++ ⟨#[46]⟩)) := by
        have := came_of w' (S ++ ⟨#[46]⟩) cap (by rw [size_dot]; exact hcap)
        rw [size_dot] at this; exact this
      have hkept : Kept w' (w'.alloc (.cells (bytesRow (S ++ ⟨#[46]⟩) cap) 5 ((bytesRow (S ++ ⟨#[46]⟩) cap).size, (bytesRow (S ++ ⟨#[46]⟩) cap).size + 1))).drew :=
        Kept.of_below (((Below.refl _ _).alloc (Nat.le_refl _) _).drew)
      generalize (w'.alloc (.cells (bytesRow (S ++ ⟨#[46]⟩) cap) 5 ((bytesRow (S ++ ⟨#[46]⟩) cap).size, (bytesRow (S ++ ⟨#[46]⟩) cap).size + 1))).drew = W1 at *
      have HK : Hid (Kept w' W1) := hkept
      clear hkept
      clear hcv
      have hlen0 := byteCells_length (S ++ ⟨#[46]⟩)
      go_loopw [1, 9] (fun i v wr => ∃ jj m r : Nat, m ≤ Nm.length ∧ i = .int .i64 jj ∧ Hid (jj = p + Ld.length + 1 + (esc all (Nm.take m)).length) ∧ Upon W1 5 1 (some ⟨w'.heap.size, 0, none⟩) w'.heap.size 0 (S.size + 1) cap (byteCells (S ++ ⟨#[46]⟩)) wr v m (cellsOf (Nm.take m)) r) (fun i _ _ => T.size - (intOf i).toNat)
      case atStart => exact ⟨j + 1, 0, 0, Nat.zero_le _, by go_num, HJ1, Upon.start hcame⟩
      case round =>
        clear HJ1 HBB h34 hne
        obtain ⟨jj, m, r, hm, rfl, HJJ, hup⟩ := hrel
        by_cases hlt : m < Nm.length
        · have hc10 : Nm[m] ≠ 10 := HN.out _ (List.getElem_mem _)
          cases he : (all || Nm[m] == 34 || Nm[m] == 92) with
          | true =>
            obtain ⟨⟨hj0, e92⟩, ⟨hj1, ec⟩, hel⟩ := text_esc HT.out (j := jj) hlt (by rw [HP.out]; exact HJJ.out) he
            have t1 : ((T[jj].toNat : Int) != 34) = true := by rw [e92]; rfl
            have t2 : ((T[jj].toNat : Int) == 92) = true := by rw [e92]; rfl
            have t3 : ((T[jj + 1].toNat : Int) == 10) = false := byte_ne (n := 10) (by omega) (by rw [ec]; exact hc10)
            have t4 : ((jj : Int) + 1 == (T.size : Int)) = false := by simp; omega
            have HEC : Hid (T[jj + 1] = Nm[m]) := ec
            have HEL : Hid ((esc all (Nm.take (m + 1))).length = (esc all (Nm.take m)).length + 2) := hel
            clear e92 ec hel he hc10
            go_wp2_with (at_builtin; refine wpList_append_upon _ rfl _ _ 25 25 rfl hcame i0 (.int .u8 0) 1 Trym.underlying25 hi hz0 hz1 hz2 rfl rfl (by exact hup.alloc hcame _) (.slice (some ⟨wr.heap.size, 0, none⟩) 1 1) 1 [.int .u8 T[jj + 1].toNat] rfl (Src.ofSlice _ Trym.underlying25 ⟨wr.heap.size, 0, none⟩ 1 1 _ rfl (cell_one_new _ _ _) (by intro u hu; simp at hu; subst hu; rfl)) (by unfold maxLen; omega) (by omega) ?_)
            intro v' w2 hup2
            have HUP : Hid (Upon W1 5 1 (some ⟨w'.heap.size, 0, none⟩) w'.heap.size 0 (S.size + 1) cap (byteCells (S ++ ⟨#[46]⟩)) w2 v' (m + 1) (cellsOf (Nm.take (m + 1))) (Upon.next (S.size + 1) cap 1 m r 1)) := by
              rw [List.take_succ_eq_append_getElem hlt, cellsOf_snoc, ← HEC.out]; exact hup2
            clear hup2 hup
            go_wp2
            go_roundw
            case rel => exact ⟨jj + 2, m + 1, _, by omega, by go_num, by show jj + 2 = _; rw [HEL.out, HJJ.out]; omega, HUP.out⟩
            case measure => simp [intOf]; omega
          | false =>
            obtain ⟨⟨hj0, ec⟩, hel⟩ := text_plain HT.out (j := jj) hlt (by rw [HP.out]; exact HJJ.out) he
            have hc34 : Nm[m] ≠ 34 := by intro e; rw [e] at he; simp at he
            have hc92 : Nm[m] ≠ 92 := by intro e; rw [e] at he; simp at he
            have t1 : ((T[jj].toNat : Int) != 34) = true := byte_bne (n := 34) (by omega) (by rw [ec]; exact hc34)
            have t2 : ((T[jj].toNat : Int) == 92) = false := byte_ne (n := 92) (by omega) (by rw [ec]; exact hc92)
            have t3 : ((T[jj].toNat : Int) == 10) = false := byte_ne (n := 10) (by omega) (by rw [ec]; exact hc10)
            have t4 : ((jj : Int) == (T.size : Int)) = false := by simp; omega
            have HEC : Hid (T[jj] = Nm[m]) := ec
            have HEL : Hid ((esc all (Nm.take (m + 1))).length = (esc all (Nm.take m)).length + 1) := hel
            clear ec hel he hc10 hc34 hc92
            go_wp2_with (at_builtin; refine wpList_append_upon _ rfl _ _ 25 25 rfl hcame i0 (.int .u8 0) 1 Trym.underlying25 hi hz0 hz1 hz2 rfl rfl (by exact hup.alloc hcame _) (.slice (some ⟨wr.heap.size, 0, none⟩) 1 1) 1 [.int .u8 T[jj].toNat] rfl (Src.ofSlice _ Trym.underlying25 ⟨wr.heap.size, 0, none⟩ 1 1 _ rfl (cell_one_new _ _ _) (by intro u hu; simp at hu; subst hu; rfl)) (by unfold maxLen; omega) (by omega) ?_)
            intro v' w2 hup2
            have HUP : Hid (Upon W1 5 1 (some ⟨w'.heap.size, 0, none⟩) w'.heap.size 0 (S.size + 1) cap (byteCells (S ++ ⟨#[46]⟩)) w2 v' (m + 1) (cellsOf (Nm.take (m + 1))) (Upon.next (S.size + 1) cap 1 m r 1)) := by
              rw [List.take_succ_eq_append_getElem hlt, cellsOf_snoc, ← HEC.out]; exact hup2
            clear hup2 hup
            go_wp2
            go_roundw
            case rel => exact ⟨jj + 1, m + 1, _, by omega, by go_num, by show jj + 1 = _; rw [HEL.out, HJJ.out]; omega, HUP.out⟩
            case measure => simp [intOf]; omega
        · have HME : Hid (m = Nm.length) := by show m = Nm.length; omega
          have HJE : Hid (jj = p + Ld.length + 1 + (esc all Nm).length) := by
            have := HJJ.out
            rw [List.take_of_length_le (by have := HME.out; omega)] at this
            exact this
          obtain ⟨⟨hj0, e34⟩, ⟨hj1, e93⟩⟩ := text_end HT.out (j := jj) (by rw [HP.out]; exact HJE.out)
          have t1 : ((T[jj].toNat : Int) != 34) = false := by rw [e34]; rfl
          have t2 : ((T[jj + 1].toNat : Int) != 93) = false := by rw [e93]; rfl
          obtain ⟨g, o', cap', hv, hle', hmax', hcells⟩ := hup.value hcame hcmax (.inl (by omega))
          have hkw : Kept w' wr := by
            have k1 := HK.out
            refine ⟨hup.kept.1.trans k1.os, hup.kept.2.1.trans k1.output, Nat.le_trans k1.size hup.kept.size, fun i hi => ?_⟩
            refine (hup.kept.block (Nat.lt_of_lt_of_le hi k1.size) ?_).trans (k1.block i hi)
            rintro pl ⟨jx, _, rfl⟩ e
            simp [MemPlace.block] at e
            omega
          rw [List.take_of_length_le (by have := HME.out; omega)] at hcells
          have hcv2 : (convert 25 9 (.slice (some ⟨g, o', none⟩) (S.size + 1 + m) cap')).run Trym.prog wr = .ok (.string R) wr := conv_back R (S.size + 1 + m) g o' cap' wr (by rw [HR.out, HME.out]; simp; omega) (fun jx hjx => by
            rw [hcells jx (by rw [Nat.mul_one]; exact hjx), byteCells_of, list_dot, ← cellsOf_append, HR.out]; simp)
          subst hv
          clear e34 e93 hup hcells
          go_wp2
          go_ret3
          exact ⟨ret_sub (by have h1 := HQ.out; have h2 := HJE.out; omega), hkw⟩

set_option maxHeartbeats 400000 in
theorem zzsub_any (T S R : ByteArray) (p : Nat) (P Ld Nm Tl : List UInt8) (all : Bool) (hT : T.data.toList = Text all P Ld Nm Tl) (hp : P.length = p) (hR : R.data.toList = S.data.toList ++ 46 :: Nm)
    (hLd : ∀ c ∈ Ld, isB c = true) (hN : ∀ c ∈ Nm, c ≠ 10) (hTs : T.size ≤ 4194304) (hSs : S.size ≤ 1048576) (hNs : Nm.length ≤ 1048576) (w : World) :
    Calls Trym.prog 14 #[.string T, .int .i64 p, .string S] w fun e w' => e = .returned (.tuple #[.string R, .int .i64 ((p + Ld.length + 1 + (esc all Nm).length + 2 : Nat) : Int), .bool true]) ∧ Kept w w' := by
  have key := sub_any T S R p P Ld Nm Tl all hT hp hR hLd hN hTs hSs hNs w
  generalize (p + Ld.length + 1 + (esc all Nm).length + 2) = q at *
  clear hT hp hR hLd hN hTs hSs hNs
  go_enter Trym.func14, Trym.ntmps14
  go_wp2_with fail
  refine key.mono ?_
  rintro e w' ⟨rfl, hk⟩
  go_wp2_with fail
  go_ret3
  exact ⟨rfl, hk⟩
end Go.Proofs.Qxb6001356aMods
