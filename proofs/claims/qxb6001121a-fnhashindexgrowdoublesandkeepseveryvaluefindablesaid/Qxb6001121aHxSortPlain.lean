/-
  THE PLAIN LAW of the insertion sort over pairs (hash, value): what it leaves is sorted, and is the same pairs.
-/
namespace Go.Proofs.Qxb6001121a.HxSortPlain

/-- the order of pairLess -/
def lessB (p q : Int × Int) : Bool := decide (p.1 < q.1 ∨ (p.1 = q.1 ∧ p.2 < q.2))
def Le (p q : Int × Int) : Prop := p.1 < q.1 ∨ (p.1 = q.1 ∧ p.2 ≤ q.2)
theorem le_refl (p : Int × Int) : Le p p := Or.inr ⟨rfl, Int.le_refl _⟩
theorem le_trans {p q r : Int × Int} (h : Le p q) (k : Le q r) : Le p r := by unfold Le at *; omega
theorem le_antisymm {p q : Int × Int} (h : Le p q) (k : Le q p) : p = q := by
  unfold Le at *
  exact Prod.ext (by omega) (by omega)
theorem le_of_not {p q : Int × Int} (h : lessB p q = false) : Le q p := by
  have := of_decide_eq_false h
  unfold Le; omega
theorem le_of_less {p q : Int × Int} (h : lessB p q = true) : Le p q := by
  have := of_decide_eq_true h
  unfold Le; omega

def swp (f : Nat → Int × Int) (j : Nat) : Nat → Int × Int := fun i => if i = j then f (j - 1) else if i = j - 1 then f j else f i

/-- the first n, as a list -/
def row (f : Nat → Int × Int) : Nat → List (Int × Int)
  | 0 => []
  | n + 1 => row f n ++ [f n]
theorem row_length (f : Nat → Int × Int) (n : Nat) : (row f n).length = n := by
  induction n with
  | zero => rfl
  | succ n ih => simp [row, ih]
theorem row_congr {f g : Nat → Int × Int} {n : Nat} (h : ∀ i, i < n → f i = g i) : row f n = row g n := by
  induction n with
  | zero => rfl
  | succ n ih => simp only [row]; rw [ih (fun i hi => h i (by omega)), h n (by omega)]
theorem row_get (f : Nat → Int × Int) {n : Nat} : ∀ i, i < n → (row f n)[i]? = some (f i) := by
  induction n with
  | zero => intro i hi; omega
  | succ n ih =>
    intro i hi
    simp only [row]
    by_cases e : i = n
    · rw [List.getElem?_append_right (by rw [row_length]; omega), row_length, e]; simp
    · rw [List.getElem?_append_left (by rw [row_length]; omega)]; exact ih i (by omega)

theorem row_swp (f : Nat → Int × Int) {j : Nat} (hj : 1 ≤ j) : ∀ {n : Nat}, j < n → (row (swp f j) n).Perm (row f n) := by
  intro n
  induction n with
  | zero => intro h; omega
  | succ n ih =>
    intro h
    by_cases e : j = n
    · subst e
      obtain ⟨m, rfl⟩ : ∃ m, j = m + 1 := ⟨j - 1, by omega⟩
      have h1 : row (swp f (m + 1)) (m + 1 + 1) = row f m ++ [f (m + 1)] ++ [f m] := by
        simp only [row]
        rw [row_congr (f := swp f (m + 1)) (g := f) (fun i hi => by simp [swp, show i ≠ m + 1 from by omega, show i ≠ m from by omega])]
        simp [swp]
      have h2 : row f (m + 1 + 1) = row f m ++ [f m] ++ [f (m + 1)] := rfl
      rw [h1, h2, List.append_assoc, List.append_assoc]
      exact List.Perm.append_left _ (List.Perm.swap _ _ _)
    · have h1 : row (swp f j) (n + 1) = row (swp f j) n ++ [f n] := by
        simp only [row]
        rw [show swp f j n = f n from by simp [swp, show n ≠ j from fun h => e h.symm, show n ≠ j - 1 from by omega]]
      rw [h1]
      exact (ih (by omega)).append_right _

/-- the first n stand in order -/
def Sorted (f : Nat → Int × Int) (n : Nat) : Prop := ∀ a b, a < b → b < n → Le (f a) (f b)
/-- .. but for the one at place j, which is no greater than those behind it -/
def Nearly (f : Nat → Int × Int) (n j : Nat) : Prop := ∀ a b, a < b → b < n → b ≠ j → Le (f a) (f b)

theorem nearly_start {f : Nat → Int × Int} {i : Nat} (h : Sorted f i) : Nearly f (i + 1) i := fun a b hab hb hne => h a b hab (by omega)
theorem nearly_end {f : Nat → Int × Int} {n j : Nat} (h : Nearly f n j) (hj : j = 0 ∨ Le (f (j - 1)) (f j)) : Sorted f n := by
  intro a b hab hb
  by_cases e : b = j
  · subst e
    rcases hj with hj | hj
    · omega
    · by_cases e' : a = b - 1
      · rw [e']; exact hj
      · exact le_trans (h a (b - 1) (by omega) (by omega) (by omega)) hj
  · exact h a b hab hb e
theorem nearly_step {f : Nat → Int × Int} {n j : Nat} (h : Nearly f n j) (hj : 1 ≤ j) (hjn : j < n) (hl : lessB (f j) (f (j - 1)) = true) : Nearly (swp f j) n (j - 1) := by
  have hlt := le_of_less hl
  intro a b hab hb hne
  by_cases eb : b = j
  · -- the greater one now stands at j
    have e1 : swp f j b = f (j - 1) := by simp [swp, eb]
    rw [e1]
    by_cases ea : a = j - 1
    · have e2 : swp f j a = f j := by simp [swp, ea, show j - 1 ≠ j from by omega]
      rw [e2]; exact hlt
    · have e2 : swp f j a = f a := by simp [swp, ea, show a ≠ j from by omega]
      rw [e2]; exact h a (j - 1) (by omega) (by omega) (by omega)
  · have e1 : swp f j b = f b := by simp [swp, eb, hne]
    rw [e1]
    by_cases ea : a = j
    · have e2 : swp f j a = f (j - 1) := by simp [swp, ea]
      rw [e2]; exact h (j - 1) b (by omega) hb eb
    · by_cases ea' : a = j - 1
      · have e2 : swp f j a = f j := by simp [swp, ea', show j - 1 ≠ j from by omega]
        rw [e2]; exact h j b (by omega) hb eb
      · have e2 : swp f j a = f a := by simp [swp, ea, ea']
        rw [e2]; exact h a b hab hb eb

theorem row_pairwise {f : Nat → Int × Int} {n : Nat} (h : Sorted f n) : (row f n).Pairwise Le := by
  induction n with
  | zero => exact List.Pairwise.nil
  | succ n ih =>
    simp only [row]
    rw [List.pairwise_append]
    refine ⟨ih (fun a b hab hb => h a b hab (by omega)), List.pairwise_singleton _ _, fun x hx y hy => ?_⟩
    rw [List.mem_singleton.1 hy]
    obtain ⟨i, hi, e⟩ := List.mem_iff_getElem?.1 hx |>.imp fun i hi => (⟨by have := (List.getElem?_eq_some_iff.1 hi).1; rw [row_length] at this; exact this, hi⟩ : i < n ∧ (row f n)[i]? = some x)
    rw [row_get f i hi] at e
    rw [← Option.some.inj e]
    exact h i n hi (by omega)

/-- two rows in order that are the same pairs are the same row -/
theorem perm_sorted_eq : ∀ {l k : List (Int × Int)}, l.Perm k → l.Pairwise Le → k.Pairwise Le → l = k
  | [], k, h, _, _ => (List.Perm.nil_eq h)
  | x :: l, [], h, _, _ => absurd h.length_eq (by simp)
  | x :: l, y :: k, h, hl, hk => by
    have hx := List.pairwise_cons.1 hl
    have hy := List.pairwise_cons.1 hk
    have e : x = y := by
      have m1 : x ∈ y :: k := h.subset (List.mem_cons_self ..)
      have m2 : y ∈ x :: l := h.symm.subset (List.mem_cons_self ..)
      rcases List.mem_cons.1 m1 with e | m1
      · exact e
      · rcases List.mem_cons.1 m2 with e | m2
        · exact e.symm
        · exact le_antisymm (hx.1 y m2) (hy.1 x m1)
    subst e
    rw [perm_sorted_eq (h.cons_inv) hx.2 hy.2]

theorem sorted_same {f g : Nat → Int × Int} {n : Nat} (hf : Sorted f n) (hg : Sorted g n) (h : (row f n).Perm (row g n)) (i : Nat) (hi : i < n) : f i = g i := by
  have e := perm_sorted_eq h (row_pairwise hf) (row_pairwise hg)
  have h1 := row_get f i hi
  rw [e, row_get g i hi] at h1
  exact (Option.some.inj h1).symm

end Go.Proofs.Qxb6001121a.HxSortPlain
