/-
  THE LAW'S OWN GUARD: it ends, says yes or no, and changes nothing.
-/
import Derived.Test.Qxb6601398aGrBase
namespace Go.Proofs.Qxb6601398a.GrBytes
open Go.RowKit Go.Proofs.Qxb6601398a.Mem Go.Proofs.Qxb6601398a.GrBase

/-- yes or no, and nothing is changed -/
def BytesPost (w : World) (e : Ending) (w' : World) : Prop := ∃ b : Bool, e = .returned (.bool b) ∧ w = w'

set_option maxHeartbeats 4000000 in
set_option maxRecDepth 100000 in
theorem bytes_any (s : ByteArray) (a1 : Option Addr) (n1 c1 : Nat) (A1 : Nat → ByteArray) (a2 : Option Addr) (n2 c2 : Nat) (A2 : Nat → ByteArray) (m : Bool) (a4 : Option Addr) (n4 c4 : Nat) (A4 : Nat → ByteArray) (w : World)
    (h1 : RowS w a1 n1 A1) (h2 : RowS w a2 n2 A2) (h4 : RowS w a4 n4 A4) (hs : s.size ≤ 9223372036854775807) (hn1 : n1 ≤ 9223372036854775807) (hn2 : n2 ≤ 9223372036854775807) (hn4 : n4 ≤ 9223372036854775807) :
    Calls Try.prog 7 #[.string s, .slice a1 n1 c1, .slice a2 n2 c2, .bool m, .slice a4 n4 c4] w fun e w' => BytesPost w e w' := by
  by_cases t0 : 1048576 < s.size
  · go_enter Try.func7, Try.ntmps7
    go_wp2
    go_ret
    exact ⟨_, rfl, rfl⟩
  by_cases t1 : 1048576 < n1
  · go_enter Try.func7, Try.ntmps7
    go_wp2
    go_ret
    exact ⟨_, rfl, rfl⟩
  by_cases t2 : 1048576 < s.size + n1
  · go_enter Try.func7, Try.ntmps7
    go_wp2
    go_ret
    exact ⟨_, rfl, rfl⟩
  go_enter Try.func7, Try.ntmps7
  go_wp2
  go_loop [11, 12] (fun sv i => ∃ k z : Nat, k ≤ n1 ∧ z ≤ 1048576 ∧ i = .int .i64 k ∧ sv = .int .i64 z) (fun _ i => n1 - (intOf i).toNat)
  case atStart => exact ⟨0, s.size + n1, Nat.zero_le _, by omega, rfl, by go_num⟩
  case round =>
    obtain ⟨k, z, hk, hz, rfl, rfl⟩ := hrel
    by_cases hlt : k < n1
    · obtain ⟨b, o, e, hbl, hc⟩ := h1 (by omega)
      cases e
      have hcx := hc k hlt
      obtain ⟨t, ht⟩ : ∃ t, A1 k = t := ⟨_, rfl⟩
      rw [ht] at hcx
      clear hc h1 ht h2 h4
      by_cases q1 : 1048576 < t.size
      · go_wp2
        go_ret
        exact ⟨_, rfl, rfl⟩
      · by_cases q2 : 1048576 < z + t.size
        · go_wp2
          go_ret
          exact ⟨_, rfl, rfl⟩
        · go_wp2
          go_round
          case rel => exact ⟨k + 1, z + t.size, by omega, by omega, by go_num, by go_num⟩
          case measure => simp [intOf]; omega
    · clear h1 t0 t1 t2
      by_cases t1 : 1048576 < n2
      · go_wp2
        go_ret
        exact ⟨_, rfl, rfl⟩
      by_cases t2 : 1048576 < z + n2
      · go_wp2
        go_ret
        exact ⟨_, rfl, rfl⟩
      go_wp2
      go_loop [11, 13] (fun sv i => ∃ k z : Nat, k ≤ n2 ∧ z ≤ 1048576 ∧ i = .int .i64 k ∧ sv = .int .i64 z) (fun _ i => n2 - (intOf i).toNat)
      case atStart => exact ⟨0, z + n2, Nat.zero_le _, by omega, rfl, by go_num⟩
      case round =>
        obtain ⟨k, z, hk, hz, rfl, rfl⟩ := hrel
        by_cases hlt : k < n2
        · obtain ⟨b, o, e, hbl, hc⟩ := h2 (by omega)
          cases e
          have hcx := hc k hlt
          obtain ⟨t, ht⟩ : ∃ t, A2 k = t := ⟨_, rfl⟩
          rw [ht] at hcx
          clear hc ht h2 h4
          by_cases q1 : 1048576 < t.size
          · go_wp2
            go_ret
            exact ⟨_, rfl, rfl⟩
          · by_cases q2 : 1048576 < z + t.size
            · go_wp2
              go_ret
              exact ⟨_, rfl, rfl⟩
            · go_wp2
              go_round
              case rel => exact ⟨k + 1, z + t.size, by omega, by omega, by go_num, by go_num⟩
              case measure => simp [intOf]; omega
        · clear h2 t1 t2
          by_cases t1 : 1048576 < n4
          · go_wp2
            go_ret
            exact ⟨_, rfl, rfl⟩
          by_cases t2 : 1048576 < z + n4
          · go_wp2
            go_ret
            exact ⟨_, rfl, rfl⟩
          go_wp2
          go_loop [11, 14] (fun sv i => ∃ k z : Nat, k ≤ n4 ∧ z ≤ 1048576 ∧ i = .int .i64 k ∧ sv = .int .i64 z) (fun _ i => n4 - (intOf i).toNat)
          case atStart => exact ⟨0, z + n4, Nat.zero_le _, by omega, rfl, by go_num⟩
          case round =>
            obtain ⟨k, z, hk, hz, rfl, rfl⟩ := hrel
            by_cases hlt : k < n4
            · obtain ⟨b, o, e, hbl, hc⟩ := h4 (by omega)
              cases e
              have hcx := hc k hlt
              obtain ⟨t, ht⟩ : ∃ t, A4 k = t := ⟨_, rfl⟩
              rw [ht] at hcx
              clear hc ht h4
              by_cases q1 : 1048576 < t.size
              · go_wp2
                go_ret
                exact ⟨_, rfl, rfl⟩
              · by_cases q2 : 1048576 < z + t.size
                · go_wp2
                  go_ret
                  exact ⟨_, rfl, rfl⟩
                · go_wp2
                  go_round
                  case rel => exact ⟨k + 1, z + t.size, by omega, by omega, by go_num, by go_num⟩
                  case measure => simp [intOf]; omega
            · go_wp2
              go_ret
              exact ⟨_, rfl, rfl⟩

end Go.Proofs.Qxb6601398a.GrBytes
