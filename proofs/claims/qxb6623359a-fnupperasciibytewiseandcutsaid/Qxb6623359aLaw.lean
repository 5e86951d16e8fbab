/-
  The law's own ways (function 3): k below 8, and k = 8; the facts that they take.
-/
import Derived.Test.Qxb6623359aUpper
namespace Go.Proofs.Qxb6623359a
open Go.RowKit
set_option linter.unusedVariables false

theorem byte_cast (x j : Nat) : (x : Int) / 2 ^ (8 * j) % 256 = ((x / 2 ^ (8 * j) % 256 : Nat) : Int) := by
  simp only [Int.natCast_emod, Int.natCast_ediv, Int.natCast_pow]; rfl
theorem mask_eq (k : Nat) (hk : k < 8) : IntKind.u64.wrap (IntKind.u64.wrap (2 ^ (8 * (k : Int)).toNat) - 1) = ((2 ^ (8 * k) - 1 : Nat) : Int) := by
  have : ∀ k : Fin 8, IntKind.u64.wrap (IntKind.u64.wrap (2 ^ (8 * (k.val : Int)).toNat) - 1) = ((2 ^ (8 * k.val) - 1 : Nat) : Int) := by decide +kernel
  exact this ⟨k, hk⟩
theorem mask_lt (k : Nat) (hk : k ≤ 8) : 2 ^ (8 * k) - 1 < 18446744073709551616 := by
  have : ∀ k : Fin 9, 2 ^ (8 * k.val) - 1 < 18446744073709551616 := by decide +kernel
  exact this ⟨k, by omega⟩
theorem wf_u64 {t : Int} (w0 : (Lit.int .u64 t).wf = true) : 0 ≤ t ∧ t < 18446744073709551616 := by
  simp [Lit.wf, IntKind.min, IntKind.max, IntKind.signed, IntKind.bits] at w0; omega
theorem wf_u8 {t : Int} (w0 : (Lit.int .u8 t).wf = true) : 0 ≤ t ∧ t < 256 := by
  simp [Lit.wf, IntKind.min, IntKind.max, IntKind.signed, IntKind.bits] at w0; omega
theorem great_at {x u : Nat} (H : Up8 x u) (j : Nat) (hj : j < 8) (w : World) :
    Calls Try.prog 5 #[.int .u8 ((x : Int) / 2 ^ (8 * j) % 256)] w fun e w' => e = .returned (.int .u8 ((u : Int) / 2 ^ (8 * j) % 256)) ∧ w' = w := by
  obtain ⟨h1, h2⟩ := byte8 j hj H
  rw [byte_cast u j, h2]
  exact great_any _ h1 _ (byte_cast x j) w
/-- the two halves, by upperASCII, joined -/
theorem halves {x u : Nat} (H : Up8 x u) (k : Nat) (hk : k ≤ 8) (L : Int) (hL : L = ((2 ^ (8 * k) - 1 : Nat) : Int)) : ∃ A B : Int,
    (∀ w, Calls Try.prog 4 #[.int .u64 (bits BinOp.and IntKind.u64 x L)] w fun e w' => e = .returned (.int .u64 A) ∧ w' = w) ∧
    (∀ w, Calls Try.prog 4 #[.int .u64 (bits BinOp.andNot IntKind.u64 x L)] w fun e w' => e = .returned (.int .u64 B) ∧ w' = w) ∧
    (bits BinOp.or IntKind.u64 A B != (u : Int)) = false := by
  obtain ⟨lo, hi, H1, H2, e⟩ := cut8 k hk H
  have hx := (up8_lt H).1
  have m := mask_lt k hk
  have l1 := up8_lt H1
  have l2 := up8_lt H2
  refine ⟨lo, hi, fun w => zz_any H1 _ (by rw [hL, u64_and_nat _ _ (by omega) m]) w, fun w => zz_any H2 _ (by rw [hL, u64_andNot_nat _ _ (by omega) m]) w, ?_⟩
  rw [u64_or_nat _ _ (by omega) (by omega), e]
  simp
set_option maxHeartbeats 400000 in
theorem walk_k (x k U A B : Int) (h0 : 0 ≤ x) (h1 : x < 18446744073709551616) (k0 : 0 ≤ k) (k1 : k < 8)
    (hx : (bits BinOp.and IntKind.u64 x 9259542123273814144 != 0) = false) (u0 : 0 ≤ U) (u1 : U < 18446744073709551616)
    (KU : Hid (∀ w, Calls Try.prog 4 #[.int .u64 x] w fun e w' => e = .returned (.int .u64 U) ∧ w' = w))
    (KA : Hid (∀ w, Calls Try.prog 4 #[.int .u64 (bits BinOp.and IntKind.u64 x (IntKind.u64.wrap (IntKind.u64.wrap (2 ^ (8 * k).toNat) - 1)))] w fun e w' => e = .returned (.int .u64 A) ∧ w' = w))
    (KB : Hid (∀ w, Calls Try.prog 4 #[.int .u64 (bits BinOp.andNot IntKind.u64 x (IntKind.u64.wrap (IntKind.u64.wrap (2 ^ (8 * k).toNat) - 1)))] w fun e w' => e = .returned (.int .u64 B) ∧ w' = w))
    (KG : Hid (∀ (j : Nat) w, j < 8 → Calls Try.prog 5 #[.int .u8 (x / 2 ^ (8 * j) % 256)] w fun e w' => e = .returned (.int .u8 (U / 2 ^ (8 * j) % 256)) ∧ w' = w))
    (hor : (bits BinOp.or IntKind.u64 A B != U) = false) (w : World) :
    Calls Try.prog 3 #[.int .u64 x, .int .u8 k] w fun e w' => e = .returned (.bool true) ∧ Grown w w' := by
  go_enter Try.func3, Try.ntmps3
  go_wp2_with fail
  refine (KU.out _).mono ?_
  rintro e w' ⟨rfl, rfl⟩
  go_wp2_with fail
  refine (KA.out _).mono ?_
  rintro e w' ⟨rfl, rfl⟩
  go_wp2_with fail
  refine (KB.out _).mono ?_
  rintro e w' ⟨rfl, rfl⟩
  go_wp2_with fail
  go_loop [9] (fun i => ∃ j : Nat, j ≤ 8 ∧ i = .int .u64 j) (fun i => 8 - (intOf i).toNat)
  case atStart => exact ⟨0, by omega, rfl⟩
  case round =>
    obtain ⟨j, hj, rfl⟩ := hrel
    by_cases hlt : j < 8
    · go_wp2_with fail
      refine (KG.out j _ hlt).mono ?_
      rintro e w' ⟨rfl, rfl⟩
      go_wp2
      go_round
      case rel => exact ⟨j + 1, by omega, by go_num⟩
      case measure => simp [intOf]; omega
    · go_wp2
      go_ret
      exact ⟨rfl, Grown.refl _⟩
set_option maxHeartbeats 400000 in
theorem walk_8 (x U A B : Int) (h0 : 0 ≤ x) (h1 : x < 18446744073709551616) 
    (hx : (bits BinOp.and IntKind.u64 x 9259542123273814144 != 0) = false) (u0 : 0 ≤ U) (u1 : U < 18446744073709551616)
    (KU : Hid (∀ w, Calls Try.prog 4 #[.int .u64 x] w fun e w' => e = .returned (.int .u64 U) ∧ w' = w))
    (KA : Hid (∀ w, Calls Try.prog 4 #[.int .u64 (bits BinOp.and IntKind.u64 x 18446744073709551615)] w fun e w' => e = .returned (.int .u64 A) ∧ w' = w))
    (KB : Hid (∀ w, Calls Try.prog 4 #[.int .u64 (bits BinOp.andNot IntKind.u64 x 18446744073709551615)] w fun e w' => e = .returned (.int .u64 B) ∧ w' = w))
    (KG : Hid (∀ (j : Nat) w, j < 8 → Calls Try.prog 5 #[.int .u8 (x / 2 ^ (8 * j) % 256)] w fun e w' => e = .returned (.int .u8 (U / 2 ^ (8 * j) % 256)) ∧ w' = w))
    (hor : (bits BinOp.or IntKind.u64 A B != U) = false) (w : World) :
    Calls Try.prog 3 #[.int .u64 x, .int .u8 8] w fun e w' => e = .returned (.bool true) ∧ Grown w w' := by
  go_enter Try.func3, Try.ntmps3
  go_wp2_with fail
  refine (KU.out _).mono ?_
  rintro e w' ⟨rfl, rfl⟩
  go_wp2_with fail
  refine (KA.out _).mono ?_
  rintro e w' ⟨rfl, rfl⟩
  go_wp2_with fail
  refine (KB.out _).mono ?_
  rintro e w' ⟨rfl, rfl⟩
  go_wp2_with fail
  go_loop [9] (fun i => ∃ j : Nat, j ≤ 8 ∧ i = .int .u64 j) (fun i => 8 - (intOf i).toNat)
  case atStart => exact ⟨0, by omega, rfl⟩
  case round =>
    obtain ⟨j, hj, rfl⟩ := hrel
    by_cases hlt : j < 8
    · go_wp2_with fail
      refine (KG.out j _ hlt).mono ?_
      rintro e w' ⟨rfl, rfl⟩
      go_wp2
      go_round
      case rel => exact ⟨j + 1, by omega, by go_num⟩
      case measure => simp [intOf]; omega
    · go_wp2
      go_ret
      exact ⟨rfl, Grown.refl _⟩
end Go.Proofs.Qxb6623359a
