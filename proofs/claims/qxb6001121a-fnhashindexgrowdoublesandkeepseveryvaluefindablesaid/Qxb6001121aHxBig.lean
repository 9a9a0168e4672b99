/-
  THE LAW's WALK where a slice is too long for it: it returns true by its own first tests.
-/
import Derived.Test.Qxb6001121aHxLaw
namespace Go.Proofs.Qxb6001121a.HxBig
open Go.RowKit Go.Proofs.Qxb6001121a.Mem Go.Proofs.Qxb6001121a.EdBase Go.Proofs.Qxb6001121a.HxBase Go.Proofs.Qxb6001121a.HxLaw

theorem bytes_no (ga va ha ra : Option Addr) (n m l r cg cv ch cr : Nat) (gen : Int) (w : World) (hn : n ≤ 9223372036854775807) (hm : m ≤ 9223372036854775807) (hl : l ≤ 9223372036854775807) (hr : r ≤ 9223372036854775807) (h : 1048576 < n + m + l + r) :
    Calls Try.prog 8 #[.slice ga n cg, .slice va m cv, .slice ha l ch, .slice ra r cr, .int .u32 gen] w fun e w' => e = .returned (.bool false) ∧ w = w' := by
  go_enter Try.func8, Try.ntmps8
  go_wp2
  all_goals
    go_ret
    exact ⟨rfl, rfl⟩
theorem bytes_yes (ga va ha ra : Option Addr) (n m l r cg cv ch cr : Nat) (gen : Int) (w : World) (h : n + m + l + r ≤ 1048576) :
    Calls Try.prog 8 #[.slice ga n cg, .slice va m cv, .slice ha l ch, .slice ra r cr, .int .u32 gen] w fun e w' => e = .returned (.bool true) ∧ w = w' := by
  go_enter Try.func8, Try.ntmps8
  go_wp2
  go_ret
  exact ⟨rfl, rfl⟩

set_option maxRecDepth 100000 in
set_option maxHeartbeats 4000000 in
theorem law_long (ga va ha ra : Option Addr) (n m l r cg cv ch cr : Nat) (gen : Int) (w : World) (hn : n ≤ 9223372036854775807) (hm : m ≤ 9223372036854775807) (hl : l ≤ 9223372036854775807) (hr : r ≤ 9223372036854775807) (h : 1048576 < n + m + l + r) :
    Calls Try.prog 3 #[.slice ga n cg, .slice va m cv, .slice ha l ch, .slice ra r cr, .int .u32 gen] w fun e w' => e = .returned (.bool true) ∧ Below w.heap.size w w' := by
  have C := HxWalkA.hide (bytes_no ga va ha ra n m l r cg cv ch cr gen w hn hm hl hr h)
  clear hn hm hl hr h
  go_enter Try.func3, Try.ntmps3
  go_wp2_with (go_at_call 8; refine C.out.mono ?_; rintro e w' ⟨rfl, rfl⟩)
  go_ret
  exact ⟨rfl, Below.refl _ _⟩

set_option maxRecDepth 100000 in
set_option maxHeartbeats 8000000 in
theorem law_wide (ga va ha ra : Option Addr) (n m l r cg cv ch cr : Nat) (gen : Int) (w : World) (h : n + m + l + r ≤ 1048576) (hb : 4096 < n ∨ 4096 < m ∨ 4096 < l ∨ 8192 < r) :
    Calls Try.prog 3 #[.slice ga n cg, .slice va m cv, .slice ha l ch, .slice ra r cr, .int .u32 gen] w fun e w' => e = .returned (.bool true) ∧ Below w.heap.size w w' := by
  by_cases hc : 262144 < n ∨ 131072 < m ∨ 131072 < l ∨ 262144 < r ∨ 1048576 < 4 * n + 8 * m + 8 * l + 4 * r
  · clear hb
    go_enter Try.func3, Try.ntmps3
    go_wp2_with (go_at_call 8; refine (bytes_yes _ _ _ _ _ _ _ _ _ _ _ _ _ _ h).mono ?_; rintro e w' ⟨rfl, rfl⟩)
    all_goals
      first
        | (go_ret
           exact ⟨rfl, Below.refl _ _⟩)
        | (exfalso; omega)
  · have h1 : n ≤ 262144 := by omega
    have h2 : m ≤ 131072 := by omega
    have h3 : l ≤ 131072 := by omega
    have h4 : r ≤ 262144 := by omega
    have h5 : 4 * n + 8 * m + 8 * l + 4 * r ≤ 1048576 := by omega
    clear hc
    by_cases b1 : 4096 < n
    · clear hb
      go_enter Try.func3, Try.ntmps3
      go_wp2_with (go_at_call 8; refine (bytes_yes _ _ _ _ _ _ _ _ _ _ _ _ _ _ h).mono ?_; rintro e w' ⟨rfl, rfl⟩)
      go_ret
      exact ⟨rfl, Below.refl _ _⟩
    · by_cases b2 : 4096 < m
      · clear hb
        go_enter Try.func3, Try.ntmps3
        go_wp2_with (go_at_call 8; refine (bytes_yes _ _ _ _ _ _ _ _ _ _ _ _ _ _ h).mono ?_; rintro e w' ⟨rfl, rfl⟩)
        go_ret
        exact ⟨rfl, Below.refl _ _⟩
      · by_cases b3 : 4096 < l
        · clear hb
          go_enter Try.func3, Try.ntmps3
          go_wp2_with (go_at_call 8; refine (bytes_yes _ _ _ _ _ _ _ _ _ _ _ _ _ _ h).mono ?_; rintro e w' ⟨rfl, rfl⟩)
          go_ret
          exact ⟨rfl, Below.refl _ _⟩
        · have b4 : 8192 < r := by omega
          clear hb
          go_enter Try.func3, Try.ntmps3
          go_wp2_with (go_at_call 8; refine (bytes_yes _ _ _ _ _ _ _ _ _ _ _ _ _ _ h).mono ?_; rintro e w' ⟨rfl, rfl⟩)
          go_ret
          exact ⟨rfl, Below.refl _ _⟩

/-- THE LAW, for every input -/
theorem law_any (ga va ha ra : Option Addr) (n m l r cg cv ch cr : Nat) (G V H R : Nat → Int) (gen : Int) (w : World) (rg : RowIn w .u32 ga n G) (rv : RowIn w .i64 va m V) (rh : RowIn w .u64 ha l H) (rr : RowIn w .u32 ra r R)
    (hn : n ≤ 9223372036854775807) (hm : m ≤ 9223372036854775807) (hl : l ≤ 9223372036854775807) (hr : r ≤ 9223372036854775807) (hg0 : 0 ≤ gen) (hg1 : gen ≤ 4294967295) (hH : ∀ i, i < l → 0 ≤ H i ∧ H i < 18446744073709551616) :
    Calls Try.prog 3 #[.slice ga n cg, .slice va m cv, .slice ha l ch, .slice ra r cr, .int .u32 gen] w fun e w' => e = .returned (.bool true) ∧ Below w.heap.size w w' := by
  by_cases hsum : n + m + l + r ≤ 1048576
  · by_cases hb : 4096 < n ∨ 4096 < m ∨ 4096 < l ∨ 8192 < r
    · exact law_wide ga va ha ra n m l r cg cv ch cr gen w hsum hb
    · cases hp : premB n m l r G R gen with
      | false => exact law_false ga va ha ra n m l r cg cv ch cr G R gen w rg rr (by omega) (by omega) (by omega) (by omega) hp
      | true =>
        obtain ⟨e1, e2, _⟩ := prem_of hp
        subst e1
        subst e2
        exact law_true ga va ha ra _ r cg cv ch cr G V H R gen w rg rv rh rr (by omega) (by omega) hg0 hg1 hH hp
  · exact law_long ga va ha ra n m l r cg cv ch cr gen w hn hm hl hr (by omega)

end Go.Proofs.Qxb6001121a.HxBig
