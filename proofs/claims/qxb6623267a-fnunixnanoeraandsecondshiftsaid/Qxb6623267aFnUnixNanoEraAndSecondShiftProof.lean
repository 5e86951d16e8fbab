/-
  THE SHELL OF A PROOF OF 'Rows.FnUnixNanoEraAndSecondShiftSaid' ('example.com/socket-timestamps/socket-timestamps/zzlaws_internal_stamp_b1.FnUnixNanoEraAndSecondShift'), WRITTEN BY PROGRAM (proof-skeleton.mjs) off the guide's own print for that function. Not trusted: the kernel checks it.
  The walk (STEP 1) is typed by the prover; all else is the guide's template at this function's number and types.
-/
import Derived.Test.Qxb6623267aRows
import Derived.WalkKit
import Derived.ProofKit
import Derived.OpenShut
import Derived.ShutString
import Derived.Test.Qxb6623267aStamp
namespace Go.Proofs.Qxb6623267a.fnUnixNanoEraAndSecondShift
open Go.ChangeShapes Go.WideShapes Go.ChangeAt Go.RowKit
open Go.ChangeMaps (open_string shut_string)
set_option linter.unusedVariables false      -- a walk need not use every 'w<i>' (that an integer argument fits its kind)

theorem own : ownKnob Try.prog.godebug = none := by kernel_rfl

/-! ### STEP 1: THE WALK: the Go text returns true -/
set_option maxHeartbeats 400000 in
theorem walk (t near : Int) (w0 : (Lit.int .u64 t).wf = true) (w1 : (Lit.int .i64 near).wf = true) (w : World) :
    Calls Try.prog 4 #[.int .u64 t, .int .i64 near] w fun e w' => e = .returned (.bool true) ∧ Grown w w' := by
  obtain ⟨h0, h1⟩ := wf_u64 w0
  clear w0 w1
  by_cases c1 : near < -4611686018427387904
  · go_enter Try.func4, Try.ntmps4
    go_wp2
    go_ret
    exact ⟨rfl, Grown.refl _⟩
  by_cases c2 : near > 2305843009213693952
  · go_enter Try.func4, Try.ntmps4
    go_wp2
    go_ret
    exact ⟨rfl, Grown.refl _⟩
  by_cases c3 : near < 0 ∧ near > -4294967296000000000
  · obtain ⟨c3, c4⟩ := c3
    go_enter Try.func4, Try.ntmps4
    go_wp2
    go_ret
    exact ⟨rfl, Grown.refl _⟩
  have c4 : 0 ≤ near ∨ near ≤ -4294967296000000000 := by omega
  clear c3
  have hs : -4611686019 ≤ near.tdiv 1000000000 ∧ near.tdiv 1000000000 ≤ 2305843010 := by
    rcases c4 with h | h
    · rw [(tdiv_bds near).1 h]; omega
    · rw [(tdiv_bds near).2 (by omega)]; omega
  have off_eq : 0 ≤ near → near.tdiv 1000000000 = near / 1000000000 := (tdiv_bds near).1
  by_cases c5 : (t / 4294967296 - 2208988800 - near.tdiv 1000000000) % 4294967296 = 2147483648
  · have c6 : ((t / 4294967296 - 2208988800 - near.tdiv 1000000000) % 4294967296 == 2147483648) = true := by
      simpa using c5
    clear c5 hs
    rcases c4 with h | h
    · have c7 : ((t / 4294967296 - 2208988800 - near / 1000000000) % 4294967296 == 2147483648) = true := by
        rw [← off_eq h]; exact c6
      clear off_eq
      go_enter Try.func4, Try.ntmps4
      go_wp2
      go_ret
      exact ⟨rfl, Grown.refl _⟩
    · clear off_eq
      go_enter Try.func4, Try.ntmps4
      go_wp2
      go_ret
      exact ⟨rfl, Grown.refl _⟩
  have hb := uN_bds t (near.tdiv 1000000000) h0 h1 hs.1 hs.2
  have k1 := fun w => unixNano_any t near h0 h1 (by omega) (by omega) w
  have k2 := fun w => unixNano_any t (near + 4294967296000000000) h0 h1 (by omega) (by omega) w
  have k3 := fun w => unixNano_any ((t + 4294967296) % 18446744073709551616) near (by omega) (by omega) (by omega) (by omega) w
  rw [tdiv_shift near c4] at k2
  simp only [uN_era] at k2
  simp only [uN_next t _ h0 h1 c5] at k3
  rw [← wrap_u64] at k3
  generalize uN t (near.tdiv 1000000000) = r at *
  have K1 : Hid _ := k1
  have K2 : Hid _ := k2
  have K3 : Hid _ := k3
  obtain ⟨b0, b1⟩ := hb
  have c6 : ((t / 4294967296 - 2208988800 - near.tdiv 1000000000) % 4294967296 == 2147483648) = false := by
    simpa using c5
  clear k1 k2 k3 hs c5
  rcases c4 with h | h
  · have c7 : ((t / 4294967296 - 2208988800 - near / 1000000000) % 4294967296 == 2147483648) = false := by
      rw [← off_eq h]; exact c6
    clear off_eq
    go_enter Try.func4, Try.ntmps4
    go_wp2_with fail
    refine (K1.out _).mono ?_
    rintro e w' ⟨rfl, rfl⟩
    go_wp2_with fail
    refine (K2.out _).mono ?_
    rintro e w' ⟨rfl, rfl⟩
    go_wp2_with fail
    refine (K3.out _).mono ?_
    rintro e w' ⟨rfl, rfl⟩
    go_wp2
    go_ret
    exact ⟨rfl, Grown.refl _⟩
  · clear off_eq
    go_enter Try.func4, Try.ntmps4
    go_wp2_with fail
    refine (K1.out _).mono ?_
    rintro e w' ⟨rfl, rfl⟩
    go_wp2_with fail
    refine (K2.out _).mono ?_
    rintro e w' ⟨rfl, rfl⟩
    go_wp2_with fail
    refine (K3.out _).mono ?_
    rintro e w' ⟨rfl, rfl⟩
    go_wp2
    go_ret
    exact ⟨rfl, Grown.refl _⟩

/-! ### THE ROW's STEP: WRITTEN OUT: LEAVE IT -/
set_option maxRecDepth 100000 in
theorem lifted (os : Os) (started : os.Started) (H : Type) (enc : TypeId × Value → H) :
    ReturnsInHanded {} Try.checked os 4 .any (Rows.fnUnixNanoEraAndSecondShiftSpec.pre6 enc Try.prog Try.f4 Rows.fnUnixNanoEraAndSecondShiftRow.domain false) (Rows.fnUnixNanoEraAndSecondShiftSpec.post enc Try.prog Try.f4 false true false false) := by
  refine returnsInHanded_of_change (C := Try.checked) own started (by kernel_rfl) Try.func4
    (ChangeSpec.witness6 (enc := enc) (C := Try.checked) false ⟨#[], #[.int .u64 0, .int .i64 0], []⟩ 8 (by kernel_rfl) (by kernel_rfl) (by kernel_rfl) (by kernel_rfl)) ?_
  intro W base args ds gs before hval0 hW hcnd _
  have hval : ∀ (j : Nat) t v, Try.f4.params[j]? = some t → args[j]? = some v → Value.okWide Try.prog W .any base t v := hval0
  have hW' := hW
  obtain ⟨p, q, hA0, hV, rfl, hfz, hnd⟩ := hW
  have hA : DataW.TrodAll enc Try.prog W 0 (fun _ => true) true Try.f4.params.toList args.toList ds p := hA0
  rw [Try.params4] at hA hval
  obtain ⟨v0, vs0, d0, ds0, p0, q0, hargs, rfl, rfl, h0, r0⟩ := trodAll_cons hA
  obtain ⟨v1, vs1, d1, ds1, p1, q1, rfl, rfl, rfl, h1, r1⟩ := trodAll_cons r0
  obtain ⟨rfl, rfl, rfl⟩ := trodAll_nil r1
  obtain rfl : args = #[v0, v1] := by cases args; simp_all
  obtain ⟨rfl, rfl⟩ := trodVars_none hV
  obtain ⟨a0, rfl, rfl, rfl, w0⟩ := open_int Try.underlying22 (hval 0 22 v0 rfl rfl) h0
  obtain ⟨a1, rfl, rfl, rfl, w1⟩ := open_int Try.underlying2 (hval 1 2 v1 rfl rfl) h1
  clear hA0 hval0
  simp only [List.append_nil] at hW'
  refine (walk a0 a1 w0 w1 W).mono fun e W' ⟨he, hg⟩ => ?_
  subst he
  exact ⟨_, rfl, post_of_same (pa := []) (pv := []) hW' (fun _ _ _ => (trodAll_cons_mk (shut_bool Try.underlying4 _) trodAll_mk0)) (fun sp _ => (trodAll_cons_mk (shut_int Try.underlying22 w0) (trodAll_cons_mk (shut_int Try.underlying2 w1) trodAll_mk0))) (fun _ _ => rfl) rfl
    (hg.frame _) hg.2.1 (ok_one (by kernel_rfl) rfl (okWide_bool_mk Try.underlying4 _))⟩

theorem over : Rows.fnUnixNanoEraAndSecondShiftRow.holds Try.pinned (OpenSpec.ofChange Rows.fnUnixNanoEraAndSecondShiftSpec) :=
  OpenClaim.holds_of_wide 4 Try.f4 rfl rfl rfl rfl rfl rfl rfl ⟨rfl, rfl, rfl, rfl, rfl⟩ rfl rfl rfl rfl rfl (by kernel_rfl) Try.func4 (by kernel_rfl)
    (of_decide_eq_true (by kernel_rfl)) (by unfold Func.isWrapper; first | (rw [if_pos (by decide +kernel)]; kernel_rfl) | (rw [if_neg (by decide +kernel)]; exact ⟨rfl, rfl⟩))
    (fun os started H enc _ => lifted os started H enc)

/-- ████ THE STATEMENT ████ -/
theorem proved : Rows.FnUnixNanoEraAndSecondShiftSaid :=
  over
#print axioms proved
end Go.Proofs.Qxb6623267a.fnUnixNanoEraAndSecondShift
