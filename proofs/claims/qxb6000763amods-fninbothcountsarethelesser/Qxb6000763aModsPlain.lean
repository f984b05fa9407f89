namespace Go.Proofs.Qxb6000763aMods

/-- What 'inBoth' gathers of what is left of each list; 'n': fuel, the two lengths together. -/
def ib : Nat → List Int → List Int → List Int
  | n + 1, x :: xs, y :: ys => if x < y then ib n xs (y :: ys) else if y < x then ib n (x :: xs) ys else x :: ib n xs ys
  | _, _, _ => []

def isUp : List Int → Bool
  | x :: y :: r => decide (x ≤ y) && isUp (y :: r)
  | _ => true

theorem ib_nil_left (n : Nat) (ys : List Int) : ib n [] ys = [] := by cases n <;> rfl
theorem ib_nil_right (n : Nat) (xs : List Int) : ib n xs [] = [] := by
  cases n <;> cases xs <;> rfl

theorem ib_len (n : Nat) : ∀ (xs ys : List Int), (ib n xs ys).length ≤ xs.length ∧ (ib n xs ys).length ≤ ys.length := by
  induction n with
  | zero => intro xs ys; simp [ib]
  | succ n ih =>
    intro xs ys
    match xs, ys with
    | [], ys => simp [ib_nil_left]
    | x :: xs, [] => simp [ib_nil_right]
    | x :: xs, y :: ys =>
      simp only [ib]
      split
      · have := ih xs (y :: ys); simp at this ⊢; omega
      · split
        · have := ih (x :: xs) ys; simp at this ⊢; omega
        · have := ih xs ys; simp at this ⊢; omega

theorem isUp_iff : ∀ l : List Int, isUp l = true ↔ l.Pairwise (· ≤ ·)
  | [] => by simp [isUp]
  | [x] => by simp [isUp]
  | x :: y :: r => by
    have ih := isUp_iff (y :: r)
    simp only [isUp, Bool.and_eq_true, decide_eq_true_eq, ih, List.pairwise_cons]
    constructor
    · rintro ⟨h, h1, h2⟩
      refine ⟨?_, h1, h2⟩
      intro a ha
      rcases List.mem_cons.1 ha with rfl | ha
      · exact h
      · exact Int.le_trans h (h1 a ha)
    · rintro ⟨h0, h1, h2⟩
      exact ⟨h0 y (by simp), h1, h2⟩

/-- every element of 'ib' is an element of both -/
theorem ib_mem (n : Nat) : ∀ (xs ys : List Int) (v : Int), v ∈ ib n xs ys → v ∈ xs ∧ v ∈ ys := by
  induction n with
  | zero => intro xs ys v h; simp [ib] at h
  | succ n ih =>
    intro xs ys v h
    match xs, ys with
    | [], ys => simp [ib_nil_left] at h
    | x :: xs, [] => simp [ib_nil_right] at h
    | x :: xs, y :: ys =>
      simp only [ib] at h
      split at h
      · have := ih xs (y :: ys) v h; exact ⟨List.mem_cons_of_mem _ this.1, this.2⟩
      · split at h
        · have := ih (x :: xs) ys v h; exact ⟨this.1, List.mem_cons_of_mem _ this.2⟩
        · rcases List.mem_cons.1 h with rfl | h
          · have : v = y := by omega
            subst this; simp
          · have := ih xs ys v h; exact ⟨List.mem_cons_of_mem _ this.1, List.mem_cons_of_mem _ this.2⟩

theorem ib_up (n : Nat) : ∀ (xs ys : List Int), xs.Pairwise (· ≤ ·) → ys.Pairwise (· ≤ ·) → (ib n xs ys).Pairwise (· ≤ ·) := by
  induction n with
  | zero => intro xs ys _ _; simp [ib]
  | succ n ih =>
    intro xs ys hx hy
    match xs, ys with
    | [], ys => simp [ib_nil_left]
    | x :: xs, [] => simp [ib_nil_right]
    | x :: xs, y :: ys =>
      simp only [ib]
      split
      · exact ih _ _ (List.pairwise_cons.1 hx).2 hy
      · split
        · exact ih _ _ hx (List.pairwise_cons.1 hy).2
        · refine List.pairwise_cons.2 ⟨?_, ih _ _ (List.pairwise_cons.1 hx).2 (List.pairwise_cons.1 hy).2⟩
          intro a ha
          exact (List.pairwise_cons.1 hx).1 a (ib_mem n xs ys a ha).1

theorem count_zero_of_lt {y v : Int} {ys : List Int} (hy : (y :: ys).Pairwise (· ≤ ·)) (h : v < y) : (y :: ys).count v = 0 := by
  rw [List.count_eq_zero]
  intro hm
  rcases List.mem_cons.1 hm with rfl | hm
  · omega
  · have := (List.pairwise_cons.1 hy).1 v hm; omega

theorem ib_count (n : Nat) : ∀ (xs ys : List Int), xs.length + ys.length ≤ n → xs.Pairwise (· ≤ ·) → ys.Pairwise (· ≤ ·) → ∀ v, (ib n xs ys).count v = min (xs.count v) (ys.count v) := by
  induction n with
  | zero =>
    intro xs ys hl _ _ v
    have : xs = [] := List.length_eq_zero_iff.1 (by omega)
    subst this; simp [ib]
  | succ n ih =>
    intro xs ys hl hx hy v
    match xs, ys with
    | [], ys => simp [ib_nil_left]
    | x :: xs, [] => simp [ib_nil_right]
    | x :: xs, y :: ys =>
      simp only [List.length_cons] at hl
      simp only [ib]
      split
      · rename_i h
        rw [ih xs (y :: ys) (by simp; omega) (List.pairwise_cons.1 hx).2 hy v]
        by_cases hv : x = v
        · subst hv
          rw [count_zero_of_lt hy h]; simp
        · rw [List.count_cons_of_ne hv]
      · split
        · rename_i h
          rw [ih (x :: xs) ys (by simp; omega) hx (List.pairwise_cons.1 hy).2 v]
          by_cases hv : y = v
          · subst hv
            rw [count_zero_of_lt hx h]; simp
          · rw [List.count_cons_of_ne hv]
        · have hxy : x = y := by omega
          subst hxy
          by_cases hv : x = v
          · subst hv
            rw [List.count_cons_self, List.count_cons_self, List.count_cons_self, ih xs ys (by omega) (List.pairwise_cons.1 hx).2 (List.pairwise_cons.1 hy).2 x]
            omega
          · rw [List.count_cons_of_ne hv, List.count_cons_of_ne hv, List.count_cons_of_ne hv, ih xs ys (by omega) (List.pairwise_cons.1 hx).2 (List.pairwise_cons.1 hy).2 v]

/-- Two ascending lists with the same counts are one. -/
theorem up_eq : ∀ (l m : List Int), l.Pairwise (· ≤ ·) → m.Pairwise (· ≤ ·) → (∀ v, l.count v = m.count v) → l = m := by
  intro l m hl hm h
  exact List.Perm.eq_of_pairwise (fun a b _ _ h1 h2 => Int.le_antisymm h1 h2) hl hm (List.perm_iff_count.2 h)

/-- inBoth of two whole lists -/
def inB (xs ys : List Int) : List Int := ib (xs.length + ys.length) xs ys

theorem inB_up {xs ys : List Int} (hx : isUp xs = true) (hy : isUp ys = true) : isUp (inB xs ys) = true := by
  rw [isUp_iff] at *; exact ib_up _ _ _ hx hy
theorem inB_count {xs ys : List Int} (hx : isUp xs = true) (hy : isUp ys = true) (v : Int) : (inB xs ys).count v = min (xs.count v) (ys.count v) :=
  ib_count _ _ _ (Nat.le_refl _) ((isUp_iff _).1 hx) ((isUp_iff _).1 hy) v
theorem inB_len (xs ys : List Int) : (inB xs ys).length ≤ xs.length ∧ (inB xs ys).length ≤ ys.length := ib_len _ _ _
theorem inB_self {xs : List Int} (hx : isUp xs = true) : inB xs xs = xs :=
  up_eq _ _ ((isUp_iff _).1 (inB_up hx hx)) ((isUp_iff _).1 hx) fun v => by rw [inB_count hx hx]; simp
theorem inB_left {xs ys : List Int} (hx : isUp xs = true) (hy : isUp ys = true) : inB (inB xs ys) xs = inB xs ys :=
  up_eq _ _ ((isUp_iff _).1 (inB_up (inB_up hx hy) hx)) ((isUp_iff _).1 (inB_up hx hy)) fun v => by
    rw [inB_count (inB_up hx hy) hx, inB_count hx hy]; omega
theorem inB_right {xs ys : List Int} (hx : isUp xs = true) (hy : isUp ys = true) : inB (inB xs ys) ys = inB xs ys :=
  up_eq _ _ ((isUp_iff _).1 (inB_up (inB_up hx hy) hy)) ((isUp_iff _).1 (inB_up hx hy)) fun v => by
    rw [inB_count (inB_up hx hy) hy, inB_count hx hy]; omega

/-- the steps of the loop -/
theorem drop_cons (A : List Int) (i : Nat) (h : i < A.length) : A.drop i = A[i] :: A.drop (i + 1) := List.drop_eq_getElem_cons h
def rest (A B : List Int) (i j : Nat) : List Int := ib (A.length - i + (B.length - j)) (A.drop i) (B.drop j)
theorem ib_fuel (n : Nat) : ∀ (m : Nat) (xs ys : List Int), xs.length + ys.length ≤ n → xs.length + ys.length ≤ m → ib n xs ys = ib m xs ys := by
  induction n with
  | zero =>
    intro m xs ys hl _
    have h1 : xs = [] := List.length_eq_zero_iff.1 (by omega)
    subst h1; rw [ib_nil_left, ib_nil_left]
  | succ n ih =>
    intro m xs ys hn hm
    match xs, ys, m with
    | [], ys, m => rw [ib_nil_left, ib_nil_left]
    | x :: xs, [], m => rw [ib_nil_right, ib_nil_right]
    | x :: xs, y :: ys, 0 => simp at hm
    | x :: xs, y :: ys, m + 1 =>
      simp only [List.length_cons] at hn hm
      simp only [ib]
      rw [ih m xs (y :: ys) (by simp; omega) (by simp; omega), ih m (x :: xs) ys (by simp; omega) (by simp; omega), ih m xs ys (by omega) (by omega)]
theorem rest_lt {A B : List Int} {i j : Nat} (hi : i < A.length) (hj : j < B.length) (h : A[i] < B[j]) : rest A B i j = rest A B (i + 1) j := by
  unfold rest
  obtain ⟨n, hn⟩ : ∃ n, A.length - i + (B.length - j) = n + 1 := ⟨A.length - i + (B.length - j) - 1, by omega⟩
  rw [hn, drop_cons A i hi, drop_cons B j hj, ib, if_pos h, ← drop_cons B j hj]
  exact ib_fuel _ _ _ _ (by simp; omega) (by simp)
theorem rest_gt {A B : List Int} {i j : Nat} (hi : i < A.length) (hj : j < B.length) (h : B[j] < A[i]) : rest A B i j = rest A B i (j + 1) := by
  unfold rest
  obtain ⟨n, hn⟩ : ∃ n, A.length - i + (B.length - j) = n + 1 := ⟨A.length - i + (B.length - j) - 1, by omega⟩
  rw [hn, drop_cons A i hi, drop_cons B j hj, ib, if_neg (by omega), if_pos h, ← drop_cons A i hi]
  exact ib_fuel _ _ _ _ (by simp; omega) (by simp)
theorem rest_eq {A B : List Int} {i j : Nat} (hi : i < A.length) (hj : j < B.length) (h : ¬ A[i] < B[j]) (h' : ¬ B[j] < A[i]) : rest A B i j = A[i] :: rest A B (i + 1) (j + 1) := by
  unfold rest
  obtain ⟨n, hn⟩ : ∃ n, A.length - i + (B.length - j) = n + 1 := ⟨A.length - i + (B.length - j) - 1, by omega⟩
  rw [hn, drop_cons A i hi, drop_cons B j hj, ib, if_neg h, if_neg h']
  rw [ib_fuel n (A.length - (i + 1) + (B.length - (j + 1))) _ _ (by simp; omega) (by simp)]
theorem rest_end {A B : List Int} {i j : Nat} (h : A.length ≤ i ∨ B.length ≤ j) : rest A B i j = [] := by
  unfold rest
  rcases h with h | h
  · rw [List.drop_eq_nil_of_le h, ib_nil_left]
  · rw [List.drop_eq_nil_of_le h, ib_nil_right]
theorem rest_start (A B : List Int) : rest A B 0 0 = inB A B := rfl

/-! counts by binary search -/
def below (A : List Int) (v : Int) : Nat := A.countP (· < v)
def upto (A : List Int) (v : Int) : Nat := A.countP (· ≤ v)
theorem countP_split {A : List Int} {p : Int → Bool} {k : Nat} (hk : k ≤ A.length) (h1 : ∀ i (h : i < A.length), i < k → p A[i] = true) (h2 : ∀ i (h : i < A.length), k ≤ i → p A[i] = false) : A.countP p = k := by
  have e : A.countP p = (A.take k).countP p + (A.drop k).countP p := by rw [← List.countP_append, List.take_append_drop]
  have e1 : (A.take k).countP p = (A.take k).length := by
    rw [List.countP_eq_length]
    intro a ha
    obtain ⟨i, hi, rfl⟩ := List.mem_iff_getElem.1 ha
    rw [List.getElem_take]
    have := List.length_take_le k A
    simp at hi
    exact h1 i _ (by omega)
  have e2 : (A.drop k).countP p = 0 := by
    rw [List.countP_eq_zero]
    intro a ha
    obtain ⟨i, hi, rfl⟩ := List.mem_iff_getElem.1 ha
    rw [List.getElem_drop]
    simp at hi
    rw [h2 (k + i) (by omega) (by omega)]; simp
  rw [e, e1, e2, List.length_take]; omega
theorem upto_eq (A : List Int) (v : Int) : upto A v = below A v + A.count v := by
  unfold upto below
  induction A with
  | nil => simp
  | cons x xs ih =>
    rw [List.countP_cons, List.countP_cons, List.count_cons, ih]
    by_cases h1 : x < v
    · have : x ≤ v := by omega
      have h3 : ¬ x = v := by omega
      simp [h1, this, h3]; omega
    · by_cases h2 : x = v
      · subst h2; simp; omega
      · have : ¬ x ≤ v := by omega
        simp [h1, h2, this]
theorem up_get {A : List Int} (h : isUp A = true) {i j : Nat} (hij : i ≤ j) (hj : j < A.length) : A[i]'(by omega) ≤ A[j] := by
  rw [isUp_iff, List.pairwise_iff_getElem] at h
  rcases Nat.lt_or_eq_of_le hij with h1 | h1
  · exact h i j (by omega) hj h1
  · subst h1; exact Int.le_refl _
end Go.Proofs.Qxb6000763aMods
