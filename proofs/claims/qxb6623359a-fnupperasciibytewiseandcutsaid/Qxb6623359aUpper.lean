/-
  wildcard.upperASCII (function 6), ZZupperASCII (4), zzGreatestNotLower (5; it walks into zzIsLowerASCII, 7, by itself): their contracts.
-/
import Derived.Test.Qxb6623359aRows
import Derived.Test.Qxb6623359aBytes
import Derived.WalkKit
import Derived.ProofKit
import Derived.RowKit3
import Derived.Laws.BitsAllLaws
namespace Go.Proofs.Qxb6623359a
open Go.RowKit

theorem ret_int {k : IntKind} {a b : Int} (h : a = b) : Ending.returned (.int k a) = .returned (.int k b) := by rw [h]
theorem upper_eq {x u : Nat} (H : Up8 x u) (X : Int) (hX : X = x) :
    IntKind.u64.wrap (X - bits .and .u64 (bits .andNot .u64 (X + 2242545357980376863) (X + 361700864190383365)) 9259542123273814144 / 4) = u := by
  obtain ⟨hlt, hle⟩ := up8_lt H
  subst hX
  have e1 : ((x : Int) + 2242545357980376863) = ((x + 2242545357980376863 : Nat) : Int) := by omega
  have e2 : ((x : Int) + 361700864190383365) = ((x + 361700864190383365 : Nat) : Int) := by omega
  have e3 : (9259542123273814144 : Int) = ((9259542123273814144 : Nat) : Int) := by omega
  rw [e1, e2, e3, u64_andNot_nat _ _ (by omega) (by omega), u64_and_nat _ _ (Nat.lt_of_le_of_lt Nat.and_le_left (by omega)) (by omega)]
  have h4 := upper_is H
  rw [IntKind.wrap_u64]
  omega
set_option maxHeartbeats 400000 in
theorem upper_any {x u : Nat} (H : Up8 x u) (X : Int) (hX : X = x) (w : World) :
    Calls Try.prog 6 #[.int .u64 X] w fun e w' => e = .returned (.int .u64 (u : Int)) ∧ w' = w := by
  have E : Hid _ := upper_eq H X hX
  obtain ⟨hlt, hle⟩ := up8_lt H
  have h0 : 0 ≤ X := by omega
  have h1 : X < 9259542123273814144 := by omega
  clear hX hlt hle H
  go_enter Try.func6, Try.ntmps6
  go_wp2
  go_ret
  exact ⟨ret_int E.out, rfl⟩
theorem zz_any {x u : Nat} (H : Up8 x u) (X : Int) (hX : X = x) (w : World) :
    Calls Try.prog 4 #[.int .u64 X] w fun e w' => e = .returned (.int .u64 (u : Int)) ∧ w' = w := by
  have k := fun w => upper_any H X hX w
  have K : Hid _ := k
  clear k hX H
  go_enter Try.func4, Try.ntmps4
  go_wp2_with fail
  refine (K.out _).mono ?_
  rintro e w' ⟨rfl, rfl⟩
  go_wp2
  go_ret
  exact ⟨rfl, rfl⟩
set_option maxHeartbeats 400000 in
theorem great_any (b : Nat) (h : b < 128) (c : Int) (hc : c = b) (w : World) :
    Calls Try.prog 5 #[.int .u8 c] w fun e w' => e = .returned (.int .u8 ((up b : Nat) : Int)) ∧ w' = w := by
  have c0 : 0 ≤ c := by omega
  have c1 : c < 128 := by omega
  by_cases k1 : 97 ≤ c
  · by_cases k2 : c ≤ 122
    · have U : Hid (c - 32 = ((up b : Nat) : Int)) := by show _ = _; unfold up; rw [if_pos (by omega)]; omega
      clear hc
      go_enter Try.func5, Try.ntmps5
      go_wp2
      go_ret
      exact ⟨ret_int U.out, rfl⟩
    · have U : Hid (c = ((up b : Nat) : Int)) := by show _ = _; unfold up; rw [if_neg (by omega)]; omega
      clear hc
      have k3 : decide (c ≤ 122) = false := by simpa using k2
      go_enter Try.func5, Try.ntmps5
      go_wp2
      go_ret
      exact ⟨ret_int U.out, rfl⟩
  · have U : Hid (c = ((up b : Nat) : Int)) := by show _ = _; unfold up; rw [if_neg (by omega)]; omega
    clear hc
    have k3 : decide (97 ≤ c) = false := by simpa using k1
    go_enter Try.func5, Try.ntmps5
    go_wp2
    all_goals (go_ret; exact ⟨ret_int U.out, rfl⟩)
end Go.Proofs.Qxb6623359a
