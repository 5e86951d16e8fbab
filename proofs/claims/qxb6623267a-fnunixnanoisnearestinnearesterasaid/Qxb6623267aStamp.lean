/-
  (stamp.Timestamp).UnixNano: her walk (function 5) and the plain arithmetic over her answer. No Go in sight but in 'unixNano_any'.
-/
import Derived.Test.Qxb6623267aRows
import Derived.WalkKit
import Derived.ProofKit
namespace Go.Proofs.Qxb6623267a
open Go.RowKit

/-- near's whole seconds, cut towards nought -/
theorem tdiv_bds (n : Int) : (0 ≤ n → n.tdiv 1000000000 = n / 1000000000) ∧ (n ≤ 0 → n.tdiv 1000000000 = -((-n) / 1000000000)) := by
  constructor
  · intro h; exact Int.tdiv_eq_ediv_of_nonneg h
  · intro h
    have e : n.tdiv 1000000000 = -((-n).tdiv 1000000000) := by rw [Int.neg_tdiv]; omega
    rw [e, Int.tdiv_eq_ediv_of_nonneg (by omega)]

def secOf (t s : Int) : Int := t / 4294967296 - 2208988800 + (s - (t / 4294967296 - 2208988800) + 2147483648) / 4294967296 * 4294967296
def nsOf (t : Int) : Int := (t % 4294967296 * 1000000000 + 2147483648) / 4294967296
def uN (t s : Int) : Int := secOf t s * 1000000000 + nsOf t

set_option maxHeartbeats 400000 in
theorem unixNano_any (t near : Int) (h0 : 0 ≤ t) (h1 : t < 18446744073709551616) (n0 : -4611686018427387904 ≤ near) (n1 : near ≤ 6600810305213693952) (w : World) :
    Calls Try.prog 5 #[.int .u64 t, .int .i64 near] w fun e w' => e = .returned (.int .i64 (uN t (near.tdiv 1000000000))) ∧ w' = w := by
  have hs0 : -4611686019 ≤ near.tdiv 1000000000 := by
    rcases Int.le_total 0 near with h | h
    · rw [(tdiv_bds near).1 h]; omega
    · rw [(tdiv_bds near).2 h]; omega
  have hs1 : near.tdiv 1000000000 ≤ 6600810306 := by
    rcases Int.le_total 0 near with h | h
    · rw [(tdiv_bds near).1 h]; omega
    · rw [(tdiv_bds near).2 h]; omega
  unfold uN secOf nsOf
  go_enter Try.func5, Try.ntmps5
  go_wp2
  go_ret
  exact ⟨rfl, rfl⟩
theorem tdiv_shift (near : Int) (h : 0 ≤ near ∨ near ≤ -4294967296000000000) : (near + 4294967296000000000).tdiv 1000000000 = near.tdiv 1000000000 + 4294967296 := by
  rcases h with h | h
  · rw [(tdiv_bds near).1 h, (tdiv_bds _).1 (by omega)]; omega
  · rw [(tdiv_bds near).2 (by omega), (tdiv_bds _).2 (by omega)]; omega
theorem uN_era (t s : Int) : uN t (s + 4294967296) = uN t s + 4294967296000000000 := by unfold uN secOf; omega
theorem uN_bds (t s : Int) (_h0 : 0 ≤ t) (_h1 : t < 18446744073709551616) (_s0 : -4611686019 ≤ s) (_s1 : s ≤ 2305843010) :
    -6900000000000000000 ≤ uN t s ∧ uN t s ≤ 4500000000000000000 := by unfold uN secOf nsOf; omega
theorem uN_next (t s : Int) (h0 : 0 ≤ t) (h1 : t < 18446744073709551616) (hoff : (t / 4294967296 - 2208988800 - s) % 4294967296 ≠ 2147483648) :
    uN ((t + 4294967296) % 18446744073709551616) s = uN t s + 1000000000 := by
  have e1 : (t + 4294967296) % 18446744073709551616 % 4294967296 = t % 4294967296 := by omega
  have e2 : (t + 4294967296) % 18446744073709551616 / 4294967296 = (t / 4294967296 + 1) % 4294967296 := by omega
  have b1 : 0 ≤ t / 4294967296 := by omega
  have b2 : t / 4294967296 < 4294967296 := by omega
  unfold uN secOf nsOf
  rw [e1, e2]
  generalize (t % 4294967296 * 1000000000 + 2147483648) / 4294967296 = n
  generalize t / 4294967296 = a at *
  clear e1 e2 h0 h1
  by_cases ha : a + 1 = 4294967296
  · have : a = 4294967295 := by omega
    subst this
    omega
  · rw [Int.emod_eq_of_lt (by omega) (by omega)]
    omega
theorem wrap_u64 (x : Int) : IntKind.u64.wrap x = x % 18446744073709551616 := by
  simp [IntKind.wrap, IntKind.signed, IntKind.bits]
theorem wf_u64 {t : Int} (w0 : (Lit.int .u64 t).wf = true) : 0 ≤ t ∧ t < 18446744073709551616 := by
  simp [Lit.wf, IntKind.min, IntKind.max, IntKind.signed, IntKind.bits] at w0; omega
end Go.Proofs.Qxb6623267a
