/-
  THE PLAIN LAW of the open-addressing table: no Go in sight. A slot is (generation, value, hash); a pair is (hash, value).
-/
import Derived.Test.Qxb6001121aHxBits
namespace Go.Proofs.Qxb6001121a.HxPlain
open Go.Proofs.Qxb6001121a.HxBits

def upd (T : Nat → Int × Int × Int) (i : Nat) (x : Int × Int × Int) : Nat → Int × Int × Int := fun j => if j = i then x else T j

/-- the pairs in use among the first k slots, in their order -/
def items (g : Int) (T : Nat → Int × Int × Int) : Nat → List (Int × Int)
  | 0 => []
  | k + 1 => items g T k ++ if (T k).1 = g then [((T k).2.2, (T k).2.1)] else []

theorem items_succ (g : Int) (T : Nat → Int × Int × Int) (k : Nat) : items g T (k + 1) = items g T k ++ if (T k).1 = g then [((T k).2.2, (T k).2.1)] else [] := rfl
theorem items_hit {g : Int} {T : Nat → Int × Int × Int} {k : Nat} (h : (T k).1 = g) : items g T (k + 1) = items g T k ++ [((T k).2.2, (T k).2.1)] := by rw [items_succ, if_pos h]
theorem items_miss {g : Int} {T : Nat → Int × Int × Int} {k : Nat} (h : (T k).1 ≠ g) : items g T (k + 1) = items g T k := by rw [items_succ, if_neg h, List.append_nil]
theorem items_congr {g : Int} {T T' : Nat → Int × Int × Int} {k : Nat} (h : ∀ i, i < k → T i = T' i) : items g T k = items g T' k := by
  induction k with
  | zero => rfl
  | succ k ih => rw [items_succ, items_succ, ih (fun i hi => h i (by omega)), h k (by omega)]
theorem items_le (g : Int) (T : Nat → Int × Int × Int) (k : Nat) : (items g T k).length ≤ k := by
  induction k with
  | zero => simp [items]
  | succ k ih => rw [items_succ]; split <;> simp <;> omega
theorem items_full {g : Int} {T : Nat → Int × Int × Int} {k : Nat} (h : ∀ i, i < k → (T i).1 = g) : (items g T k).length = k := by
  induction k with
  | zero => rfl
  | succ k ih => rw [items_hit (h k (by omega)), List.length_append, ih (fun i hi => h i (by omega))]; rfl
theorem items_none {g : Int} {T : Nat → Int × Int × Int} {k : Nat} (h : ∀ i, i < k → (T i).1 ≠ g) : items g T k = [] := by
  induction k with
  | zero => rfl
  | succ k ih => rw [items_miss (h k (by omega)), ih (fun i hi => h i (by omega))]
theorem exists_free {g : Int} {T : Nat → Int × Int × Int} {k : Nat} (h : (items g T k).length < k) : ∃ i, i < k ∧ (T i).1 ≠ g :=
  Classical.byContradiction fun hn => by
    have := items_full (g := g) (T := T) (k := k) (fun i hi => Classical.byContradiction fun h' => hn ⟨i, hi, h'⟩)
    omega
theorem items_mem {g : Int} {T : Nat → Int × Int × Int} {p : Int × Int} {k : Nat} (h : p ∈ items g T k) : ∃ i, i < k ∧ p = ((T i).2.2, (T i).2.1) := by
  induction k with
  | zero => simp [items] at h
  | succ k ih =>
    rw [items_succ] at h
    rcases List.mem_append.1 h with h | h
    · obtain ⟨i, hi, e⟩ := ih h
      exact ⟨i, by omega, e⟩
    · split at h
      · exact ⟨k, by omega, List.mem_singleton.1 h⟩
      · cases h
theorem items_put {g : Int} {T : Nat → Int × Int × Int} {q : Nat} (v x : Int) (hf : (T q).1 ≠ g) : ∀ {k : Nat}, q < k → (items g (upd T q (g, v, x)) k).Perm ((x, v) :: items g T k) := by
  intro k
  induction k with
  | zero => intro h; omega
  | succ k ih =>
    intro hq
    by_cases e : q = k
    · subst e
      have h1 : (upd T q (g, v, x) q).1 = g := by simp [upd]
      rw [items_hit h1, items_miss hf, items_congr (T' := T) (fun i hi => by simp [upd, show i ≠ q from by omega])]
      have h2 : [((upd T q (g, v, x) q).2.2, (upd T q (g, v, x) q).2.1)] = [(x, v)] := by simp [upd]
      rw [h2]
      exact List.perm_append_comm
    · have h1 : upd T q (g, v, x) k = T k := by simp [upd, show k ≠ q from fun h => e h.symm]
      rw [items_succ, items_succ, h1]
      exact (ih (by omega)).append_right _

def home (N : Nat) (x : Int) : Nat := x.toNat % N

/-- every slot in use stands on its probe chain: all slots ahead of it on the way from its home are in use -/
def Chain (g : Int) (N : Nat) (T : Nat → Int × Int × Int) : Prop :=
  ∀ p, p < N → (T p).1 = g → ∀ t, t < (p + N - home N (T p).2.2) % N → (T ((home N (T p).2.2 + t) % N)).1 = g

theorem chain_none {g : Int} {N : Nat} {T : Nat → Int × Int × Int} (h : ∀ i, i < N → (T i).1 ≠ g) : Chain g N T := fun p hp hu => absurd hu (h p hp)

theorem least {p : Nat → Prop} {N : Nat} (h : ∃ d, d < N ∧ p d) : ∃ d, d < N ∧ p d ∧ ∀ t, t < d → ¬ p t := by
  obtain ⟨d, hd, hpd⟩ := h
  induction d using Nat.strongRecOn with
  | ind d ih =>
    by_cases hh : ∃ t, t < d ∧ p t
    · obtain ⟨t, ht, hpt⟩ := hh
      exact ih t ht (by omega) hpt
    · exact ⟨d, hd, hpd, fun t ht hpt => hh ⟨t, ht, hpt⟩⟩

/-- from every home there is a first free slot -/
theorem first_free {g : Int} {N : Nat} {T : Nat → Int × Int × Int} (x : Int) (hN : 0 < N) (h : (items g T N).length < N) :
    ∃ d, d < N ∧ (T ((home N x + d) % N)).1 ≠ g ∧ ∀ t, t < d → (T ((home N x + t) % N)).1 = g := by
  obtain ⟨p, hp, hf⟩ := exists_free h
  have hh : home N x < N := Nat.mod_lt _ hN
  obtain ⟨d, h1, h2, h3⟩ := least (p := fun d => (T ((home N x + d) % N)).1 ≠ g) (N := N) ⟨(p + N - home N x) % N, Nat.mod_lt _ hN, by rw [ring_to hh hp]; exact hf⟩
  exact ⟨d, h1, h2, fun t ht => Classical.byContradiction fun h' => h3 t ht h'⟩

theorem chain_put {g : Int} {N d : Nat} {T : Nat → Int × Int × Int} (v x : Int) (hN : 0 < N) (hc : Chain g N T) (hd : d < N) (hf : (T ((home N x + d) % N)).1 ≠ g) (hu : ∀ t, t < d → (T ((home N x + t) % N)).1 = g) :
    Chain g N (upd T ((home N x + d) % N) (g, v, x)) := by
  have hh : home N x < N := Nat.mod_lt _ hN
  -- a slot that was in use is in use, and is another
  have old : ∀ i, (T i).1 = g → (upd T ((home N x + d) % N) (g, v, x) i) = T i := fun i hi => by
    have : i ≠ (home N x + d) % N := fun e => hf (by rw [← e]; exact hi)
    simp [upd, this]
  intro p hp hup t ht
  by_cases e : p = (home N x + d) % N
  · have e1 : upd T ((home N x + d) % N) (g, v, x) p = (g, v, x) := by simp [upd, e]
    rw [e1] at ht ⊢
    have e2 : (p + N - home N x) % N = d := by rw [e]; exact ring_back hh hd
    have ht' : t < d := by rw [← e2]; exact ht
    show (upd T ((home N x + d) % N) (g, v, x) ((home N x + t) % N)).1 = g
    rw [old _ (hu t ht')]
    exact hu t ht'
  · have e1 : upd T ((home N x + d) % N) (g, v, x) p = T p := by simp [upd, e]
    rw [e1] at hup ht ⊢
    have := hc p hp hup t ht
    rw [old _ this]
    exact this

/-- the new size is a power of two -/
theorem size_pow2_fin : ∀ a : Fin 65, ∀ b : Fin 64, (((a.val * 64 + b.val) &&& (a.val * 64 + b.val - 1)) == 0) = true → (max (2 * (a.val * 64 + b.val)) 128 = 2 ^ 7 ∨ max (2 * (a.val * 64 + b.val)) 128 = 2 ^ 8 ∨ max (2 * (a.val * 64 + b.val)) 128 = 2 ^ 9 ∨ max (2 * (a.val * 64 + b.val)) 128 = 2 ^ 10 ∨ max (2 * (a.val * 64 + b.val)) 128 = 2 ^ 11 ∨ max (2 * (a.val * 64 + b.val)) 128 = 2 ^ 12 ∨ max (2 * (a.val * 64 + b.val)) 128 = 2 ^ 13) := by decide +kernel
theorem size_pow2 (n : Nat) (hn : n ≤ 4096) (h : n &&& (n - 1) = 0) : Pow2 (max (2 * n) 128) := by
  have key := size_pow2_fin ⟨n / 64, by omega⟩ ⟨n % 64, by omega⟩
  have en : n / 64 * 64 + n % 64 = n := by omega
  simp only [en] at key
  rcases key (by simpa using h) with e | e | e | e | e | e | e
  · exact ⟨7, e⟩
  · exact ⟨8, e⟩
  · exact ⟨9, e⟩
  · exact ⟨10, e⟩
  · exact ⟨11, e⟩
  · exact ⟨12, e⟩
  · exact ⟨13, e⟩

end Go.Proofs.Qxb6001121a.HxPlain
