/-
  THE PLAIN LAW of the edit distance: no Go in sight. Texts are functions 'Nat -> Int' with lengths; 'mat' is the table that editDistance fills; 'lev' the plain Levenshtein table.
-/
namespace Go.Proofs.Qxb6001121a.Ed

/-- the last place (from 1 on, at most n) at which f holds c; 0 where there is none -/
def last (f : Nat → Int) : Nat → Int → Nat
  | 0, _ => 0
  | n + 1, c => if f n = c then n + 1 else last f n c

theorem last_le (f : Nat → Int) (n : Nat) (c : Int) : last f n c ≤ n := by
  induction n with
  | zero => simp [last]
  | succ n ih => unfold last; split <;> omega

theorem last_succ (f : Nat → Int) (n : Nat) (c : Int) : last f (n + 1) c = if f n = c then n + 1 else last f n c := rfl

/-- the table, with fuel -/
def matF (a b : Nat → Int) (B : Nat) : Nat → Nat → Nat → Nat
  | 0, _, _ => 0
  | f + 1, r, c =>
    if r = 0 ∨ c = 0 then B
    else if r = 1 then c - 1
    else if c = 1 then r - 1
    else min (min (matF a b B f (r - 1) (c - 1) + if a (r - 2) = b (c - 2) then 0 else 1) (matF a b B f r (c - 1) + 1))
      (min (matF a b B f (r - 1) c + 1) (matF a b B f (last a (r - 2) (b (c - 2))) (last b (c - 2) (a (r - 2))) + (r - 2 - last a (r - 2) (b (c - 2))) + 1 + (c - 2 - last b (c - 2) (a (r - 2)))))

theorem matF_fuel (a b : Nat → Int) (B : Nat) : ∀ f g r c, r + c < f → r + c < g → matF a b B f r c = matF a b B g r c := by
  intro f
  induction f with
  | zero => intro g r c h; omega
  | succ f ih =>
    intro g r c h h'
    match g, h' with
    | g + 1, h' =>
      unfold matF
      split
      · rfl
      · rename_i h0
        have hr : r ≠ 0 := fun e => h0 (.inl e)
        have hc : c ≠ 0 := fun e => h0 (.inr e)
        have hk := last_le a (r - 2) (b (c - 2))
        have hl := last_le b (c - 2) (a (r - 2))
        split
        · rfl
        · split
          · rfl
          · rw [ih g (r - 1) (c - 1) (by omega) (by omega), ih g r (c - 1) (by omega) (by omega), ih g (r - 1) c (by omega) (by omega),
              ih g (last a (r - 2) (b (c - 2))) (last b (c - 2) (a (r - 2))) (by omega) (by omega)]

/-- the table -/
def mat (a b : Nat → Int) (B : Nat) (r c : Nat) : Nat := matF a b B (r + c + 1) r c

theorem mat_zero_left (a b : Nat → Int) (B c : Nat) : mat a b B 0 c = B := by simp [mat, matF]
theorem mat_zero_right (a b : Nat → Int) (B r : Nat) : mat a b B r 0 = B := by simp [mat, matF]
theorem mat_one_left (a b : Nat → Int) (B c : Nat) : mat a b B 1 (c + 1) = c := by simp [mat, matF]
theorem mat_one_right (a b : Nat → Int) (B r : Nat) : mat a b B (r + 1) 1 = r := by
  unfold mat
  rw [show r + 1 + 1 + 1 = (r + 2) + 1 from rfl, matF, if_neg (by omega)]
  split
  · omega
  · rw [if_pos rfl]; omega

theorem mat_step (a b : Nat → Int) (B i j : Nat) :
    mat a b B (i + 2) (j + 2) = min (min (mat a b B (i + 1) (j + 1) + if a i = b j then 0 else 1) (mat a b B (i + 2) (j + 1) + 1))
      (min (mat a b B (i + 1) (j + 2) + 1) (mat a b B (last a i (b j)) (last b j (a i)) + (i - last a i (b j)) + 1 + (j - last b j (a i)))) := by
  have hk := last_le a i (b j)
  have hl := last_le b j (a i)
  have e0 : mat a b B (i + 2) (j + 2) = matF a b B ((i + j + 4) + 1) (i + 2) (j + 2) := by unfold mat; rw [show i + 2 + (j + 2) + 1 = (i + j + 4) + 1 from by omega]
  rw [e0, matF, if_neg (by omega), if_neg (by omega), if_neg (by omega)]
  have e1 : i + 2 - 1 = i + 1 := by omega
  have e2 : j + 2 - 1 = j + 1 := by omega
  have e3 : i + 2 - 2 = i := by omega
  have e4 : j + 2 - 2 = j := by omega
  rw [e1, e2, e3, e4]
  unfold mat
  rw [matF_fuel a b B (i + j + 4) (i + 1 + (j + 1) + 1) (i + 1) (j + 1) (by omega) (by omega),
    matF_fuel a b B (i + j + 4) (i + 2 + (j + 1) + 1) (i + 2) (j + 1) (by omega) (by omega),
    matF_fuel a b B (i + j + 4) (i + 1 + (j + 2) + 1) (i + 1) (j + 2) (by omega) (by omega),
    matF_fuel a b B (i + j + 4) (last a i (b j) + last b j (a i) + 1) (last a i (b j)) (last b j (a i)) (by omega) (by omega)]

/-- induction over the table's cells, by their sum -/
theorem by_sum {P : Nat → Nat → Prop} (h : ∀ r c, (∀ r' c', r' + c' < r + c → P r' c') → P r c) : ∀ r c, P r c := by
  have : ∀ n r c, r + c < n → P r c := by
    intro n
    induction n with
    | zero => intro r c h; omega
    | succ n ih => intro r c hn; exact h r c fun r' c' h' => ih r' c' (by omega)
  intro r c
  exact this (r + c + 1) r c (by omega)

theorem mat_symm (a b : Nat → Int) (B : Nat) : ∀ r c, mat a b B r c = mat b a B c r := by
  apply by_sum
  intro r c ih
  match r, c with
  | 0, c => rw [mat_zero_left, mat_zero_right]
  | r + 1, 0 => rw [mat_zero_left, mat_zero_right]
  | 1, c + 1 => rw [mat_one_left, mat_one_right]
  | r + 2, 1 => rw [mat_one_left, mat_one_right]
  | i + 2, j + 2 =>
    have hk := last_le a i (b j)
    have hl := last_le b j (a i)
    rw [mat_step, mat_step, ih (i + 1) (j + 1) (by omega), ih (i + 2) (j + 1) (by omega), ih (i + 1) (j + 2) (by omega), ih (last a i (b j)) (last b j (a i)) (by omega)]
    by_cases e : a i = b j
    · rw [if_pos e, if_pos e.symm]; omega
    · rw [if_neg e, if_neg (fun h => e h.symm)]; omega

/-- never more than the longer of the two -/
theorem mat_le (a b : Nat → Int) (B : Nat) : ∀ i j, mat a b B (i + 1) (j + 1) ≤ i + j := by
  apply by_sum
  intro i j ih
  match i, j with
  | 0, j => rw [mat_one_left]; omega
  | i + 1, 0 => rw [mat_one_right]; omega
  | i + 1, j + 1 =>
    have : mat a b B (i + 2) (j + 1) ≤ i + 1 + j := ih (i + 1) j (by omega)
    rw [mat_step]; omega

theorem mat_le_all (a b : Nat → Int) (B n m : Nat) (hB : B = n + m) (r c : Nat) (hr : r ≤ n + 1) (hc : c ≤ m + 1) : mat a b B r c ≤ n + m := by
  match r, c with
  | 0, c => rw [mat_zero_left]; omega
  | r + 1, 0 => rw [mat_zero_right]; omega
  | i + 1, j + 1 => have := mat_le a b B i j; omega

/-- what the fourth way is worth, where it leads beyond the table: nothing -/
theorem mat_ge (a b : Nat → Int) (B n m : Nat) (hB : n + m ≤ B) : ∀ i j, i ≤ n → j ≤ m → i ≤ mat a b B (i + 1) (j + 1) + j ∧ j ≤ mat a b B (i + 1) (j + 1) + i := by
  apply by_sum
  intro i j ih hi hj
  match i, j with
  | 0, j => rw [mat_one_left]; omega
  | i + 1, 0 => rw [mat_one_right]; omega
  | i + 1, j + 1 =>
    have h1 := ih i j (by omega) (by omega) (by omega)
    have h2 : i + 1 ≤ mat a b B (i + 2) (j + 1) + j ∧ j ≤ mat a b B (i + 2) (j + 1) + (i + 1) := ih (i + 1) j (by omega) (by omega) (by omega)
    have h3 : i ≤ mat a b B (i + 1) (j + 2) + (j + 1) ∧ j + 1 ≤ mat a b B (i + 1) (j + 2) + i := ih i (j + 1) (by omega) (by omega) (by omega)
    have hk := last_le a i (b j)
    have hl := last_le b j (a i)
    have h4 : i + 1 ≤ mat a b B (last a i (b j)) (last b j (a i)) + (i - last a i (b j)) + 1 + (j - last b j (a i)) + (j + 1) ∧
        j + 1 ≤ mat a b B (last a i (b j)) (last b j (a i)) + (i - last a i (b j)) + 1 + (j - last b j (a i)) + (i + 1) := by
      generalize last a i (b j) = k at hk ⊢
      generalize last b j (a i) = l at hl ⊢
      match k, l with
      | 0, l => rw [mat_zero_left]; omega
      | k + 1, 0 => rw [mat_zero_right]; omega
      | k + 1, l + 1 => have := ih k l (by omega) (by omega) (by omega); omega
    rw [mat_step]
    generalize (if a i = b j then 0 else 1) = q
    omega

/-- zero exactly on equal prefixes -/
theorem mat_zero_iff (a b : Nat → Int) (B : Nat) : ∀ i j, (mat a b B (i + 1) (j + 1) = 0 ↔ i = j ∧ ∀ t, t < i → a t = b t) := by
  apply by_sum
  intro i j ih
  match i, j with
  | 0, j => rw [mat_one_left]; constructor <;> (intro h; first | exact ⟨by omega, fun t ht => by omega⟩ | omega)
  | i + 1, 0 => rw [mat_one_right]; constructor <;> (intro h; omega)
  | i + 1, j + 1 =>
    have h1 := ih i j (by omega)
    rw [mat_step]
    by_cases e : a i = b j
    · rw [if_pos e]
      constructor
      · intro h
        have hz : mat a b B (i + 1) (j + 1) = 0 := by omega
        obtain ⟨rfl, hh⟩ := h1.1 hz
        refine ⟨rfl, fun t ht => ?_⟩
        by_cases et : t = i
        · rw [et]; exact e
        · exact hh t (by omega)
      · rintro ⟨hij, hh⟩
        have hz := h1.2 ⟨by omega, fun t ht => hh t (by omega)⟩
        omega
    · rw [if_neg e]
      constructor
      · intro h; omega
      · rintro ⟨hij, hh⟩
        obtain rfl : i = j := by omega
        exact absurd (hh i (by omega)) e

theorem last_hit (f : Nat → Int) (n : Nat) (c : Int) (h : f n = c) : last f (n + 1) c = n + 1 := by rw [last_succ, if_pos h]

/-- one swap of two neighbours costs at most one -/
theorem mat_swap (a s : Nat → Int) (B p : Nat) (h0 : s p = a (p + 1)) (h1 : s (p + 1) = a p) (hs : ∀ t, t ≠ p → t ≠ p + 1 → s t = a t) : ∀ d, mat a s B (p + 2 + d + 1) (p + 2 + d + 1) ≤ 1 := by
  intro d
  induction d with
  | zero =>
    have hz : mat a s B (p + 1) (p + 1) = 0 := (mat_zero_iff a s B p p).2 ⟨rfl, fun t ht => (hs t (by omega) (by omega)).symm⟩
    rw [show p + 2 + 0 + 1 = (p + 1) + 2 from by omega, mat_step, last_hit a p (s (p + 1)) h1.symm, last_hit s p (a (p + 1)) h0]
    omega
  | succ d ih =>
    have := ih
    rw [show p + 2 + (d + 1) + 1 = (p + 2 + d) + 2 from by omega, mat_step, if_pos (hs (p + 2 + d) (by omega) (by omega)).symm]
    rw [show p + 2 + d + 1 = (p + 2 + d) + 1 from rfl] at this
    omega

/-! ### the plain Levenshtein table -/
def levStep (a b : Nat → Int) (prev : Nat → Nat) (i : Nat) : Nat → Nat
  | 0 => i + 1
  | j + 1 => min (min (prev j + if a i = b j then 0 else 1) (prev (j + 1) + 1)) (levStep a b prev i j + 1)
def lev (a b : Nat → Int) : Nat → Nat → Nat
  | 0 => fun j => j
  | i + 1 => levStep a b (lev a b i) i

theorem lev_zero_left (a b : Nat → Int) (j : Nat) : lev a b 0 j = j := rfl
theorem lev_zero_right (a b : Nat → Int) (i : Nat) : lev a b i 0 = i := by cases i <;> rfl
theorem lev_step (a b : Nat → Int) (i j : Nat) : lev a b (i + 1) (j + 1) = min (min (lev a b i j + if a i = b j then 0 else 1) (lev a b i (j + 1) + 1)) (lev a b (i + 1) j + 1) := rfl

theorem lev_le (a b : Nat → Int) (i j : Nat) : lev a b i j ≤ i + j := by
  induction i generalizing j with
  | zero => rw [lev_zero_left]; omega
  | succ i ih =>
    match j with
    | 0 => rw [lev_zero_right]; omega
    | j + 1 => have := ih (j + 1); rw [lev_step]; omega

theorem mat_le_lev (a b : Nat → Int) (B : Nat) : ∀ i j, mat a b B (i + 1) (j + 1) ≤ lev a b i j := by
  apply by_sum
  intro i j ih
  match i, j with
  | 0, j => rw [mat_one_left, lev_zero_left]; omega
  | i + 1, 0 => rw [mat_one_right, lev_zero_right]; omega
  | i + 1, j + 1 =>
    have h1 := ih i j (by omega)
    have h2 : mat a b B (i + 2) (j + 1) ≤ lev a b (i + 1) j := ih (i + 1) j (by omega)
    have h3 : mat a b B (i + 1) (j + 2) ≤ lev a b i (j + 1) := ih i (j + 1) (by omega)
    rw [mat_step, lev_step]
    omega

theorem lev_right (a b : Nat → Int) (i j : Nat) : lev a b i (j + 1) ≤ lev a b i j + 1 := by
  cases i with
  | zero => simp [lev_zero_left]
  | succ i => rw [lev_step]; omega
theorem lev_down (a b : Nat → Int) (i j : Nat) : lev a b (i + 1) j ≤ lev a b i j + 1 := by
  cases j with
  | zero => simp [lev_zero_right]
  | succ j => rw [lev_step]; omega
theorem lev_diag (a b : Nat → Int) (i j : Nat) : lev a b (i + 1) (j + 1) ≤ lev a b i j + 1 := by
  rw [lev_step]; split <;> omega
theorem lev_rights (a b : Nat → Int) (i j d : Nat) : lev a b i (j + d) ≤ lev a b i j + d := by
  induction d with
  | zero => simp
  | succ d ih => have := lev_right a b i (j + d); rw [← Nat.add_assoc]; omega
theorem lev_downs (a b : Nat → Int) (i j d : Nat) : lev a b (i + d) j ≤ lev a b i j + d := by
  induction d with
  | zero => simp
  | succ d ih => have := lev_down a b (i + d) j; rw [← Nat.add_assoc]; omega

theorem lev_le_two (a b : Nat → Int) (B n m : Nat) (hB : n + m ≤ B) : ∀ i j, i ≤ n → j ≤ m → lev a b i j ≤ 2 * mat a b B (i + 1) (j + 1) := by
  apply by_sum
  intro i j ih hi hj
  match i, j with
  | 0, j => rw [mat_one_left, lev_zero_left]; omega
  | i + 1, 0 => rw [mat_one_right, lev_zero_right]; omega
  | i + 1, j + 1 =>
    have h1 := ih i j (by omega) (by omega) (by omega)
    have h2 : lev a b (i + 1) j ≤ 2 * mat a b B (i + 2) (j + 1) := ih (i + 1) j (by omega) (by omega) (by omega)
    have h3 : lev a b i (j + 1) ≤ 2 * mat a b B (i + 1) (j + 2) := ih i (j + 1) (by omega) (by omega) (by omega)
    have hk := last_le a i (b j)
    have hl := last_le b j (a i)
    have hle := lev_le a b (i + 1) (j + 1)
    have h4 : lev a b (i + 1) (j + 1) ≤ 2 * (mat a b B (last a i (b j)) (last b j (a i)) + (i - last a i (b j)) + 1 + (j - last b j (a i))) := by
      generalize last a i (b j) = k at hk ⊢
      generalize last b j (a i) = l at hl ⊢
      match k, l with
      | 0, l => rw [mat_zero_left]; omega
      | k + 1, 0 => rw [mat_zero_right]; omega
      | k + 1, l + 1 =>
        have g0 := ih k l (by omega) (by omega) (by omega)
        obtain ⟨x, rfl⟩ : ∃ x, i = k + 1 + x := ⟨i - (k + 1), by omega⟩
        obtain ⟨y, rfl⟩ : ∃ y, j = l + 1 + y := ⟨j - (l + 1), by omega⟩
        have g1 := lev_downs a b k l x
        have g2 := lev_rights a b (k + x) l y
        have g3 := lev_diag a b (k + x) (l + y)
        have g4 := lev_diag a b (k + x + 1) (l + y + 1)
        rw [show k + x + 1 + 1 = k + 1 + x + 1 from by omega, show l + y + 1 + 1 = l + 1 + y + 1 from by omega] at g4
        omega
    have h5 := lev_diag a b i j
    have h6 := lev_step a b i j
    have h7 := lev_right a b (i + 1) j
    have h8 := lev_down a b i (j + 1)
    rw [mat_step]
    by_cases e : a i = b j
    · rw [if_pos e] at h6 ⊢; omega
    · rw [if_neg e] at h6 ⊢; omega

end Go.Proofs.Qxb6001121a.Ed
