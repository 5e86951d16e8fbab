/-
  THE SHELL OF A PROOF OF 'Rows.FnUnixNanoIsNearestInNearestEraSaid' ('example.com/socket-timestamps/socket-timestamps/zzlaws_internal_stamp_b1.FnUnixNanoIsNearestInNearestEra'), WRITTEN BY PROGRAM (proof-skeleton.mjs) off the guide's own print for that function. Not trusted: the kernel checks it.
  The walk (STEP 1) is typed by the prover; all else is the guide's template at this function's number and types.
-/
import Derived.Test.Qxb6623267aRows
import Derived.WalkKit
import Derived.ProofKit
import Derived.OpenShut
import Derived.ShutString
import Derived.Test.Qxb6623267aStamp
namespace Go.Proofs.Qxb6623267a.fnUnixNanoIsNearestInNearestEra
open Go.ChangeShapes Go.WideShapes Go.ChangeAt Go.RowKit
open Go.ChangeMaps (open_string shut_string)
set_option linter.unusedVariables false      -- a walk need not use every 'w<i>' (that an integer argument fits its kind)

theorem own : ownKnob Try.prog.godebug = none := by kernel_rfl

/-! ### THE CALLEE zzSecondFits (function 6), AND THE PLAIN ARITHMETIC -/
set_option maxHeartbeats 400000 in
theorem fits_yes (t near r s : Int) (h0 : 0 ≤ t) (h1 : t < 18446744073709551616)
    (d0 : -4611686019 ≤ near.tdiv 1000000000) (d1 : near.tdiv 1000000000 ≤ 4611686019)
    (s0 : -6900000000 ≤ s) (s1 : s ≤ 6900000000)
    (e1 : (s + 2208988800) % 4294967296 = t / 4294967296)
    (e2 : -2147483648 < s - near.tdiv 1000000000) (e3 : s - near.tdiv 1000000000 ≤ 2147483648)
    (e4 : 0 ≤ r - s * 1000000000) (e5 : r - s * 1000000000 ≤ 1000000000)
    (e6 : -2147483648 ≤ (r - s * 1000000000) * 4294967296 - t % 4294967296 * 1000000000)
    (e7 : (r - s * 1000000000) * 4294967296 - t % 4294967296 * 1000000000 ≤ 2147483648) (w : World) :
    Calls Try.prog 6 #[.int .u64 t, .int .i64 near, .int .i64 r, .int .i64 s] w fun e w' => e = .returned (.bool true) ∧ w' = w := by
  have e1' : ((s + 2208988800) % 4294967296 != t / 4294967296) = false := by simpa using e1
  clear e1
  go_enter Try.func6, Try.ntmps6
  go_wp2
  go_ret
  exact ⟨rfl, rfl⟩
set_option maxHeartbeats 400000 in
theorem fits_no (t near r s : Int) (h0 : 0 ≤ t) (h1 : t < 18446744073709551616)
    (s0 : -6900000000 ≤ s) (s1 : s ≤ 6900000000)
    (e1 : (s + 2208988800) % 4294967296 ≠ t / 4294967296) (w : World) :
    Calls Try.prog 6 #[.int .u64 t, .int .i64 near, .int .i64 r, .int .i64 s] w fun e w' => e = .returned (.bool false) ∧ w' = w := by
  have e1' : ((s + 2208988800) % 4294967296 != t / 4294967296) = true := by simpa using e1
  clear e1
  go_enter Try.func6, Try.ntmps6
  go_wp2
  go_ret
  exact ⟨rfl, rfl⟩

/-- what holds of the answer's seconds -/
theorem sec_facts (t s : Int) (_h0 : 0 ≤ t) (_h1 : t < 18446744073709551616) (_s0 : -4611686019 ≤ s) (_s1 : s ≤ 4611686019) :
    -6800000000 ≤ secOf t s ∧ secOf t s ≤ 6800000000 ∧ (secOf t s + 2208988800) % 4294967296 = t / 4294967296 ∧
    (secOf t s + 1 + 2208988800) % 4294967296 ≠ t / 4294967296 ∧
    -2147483648 < secOf t s - s ∧ secOf t s - s ≤ 2147483648 := by unfold secOf; omega
theorem ns_facts (t : Int) : 0 ≤ nsOf t ∧ nsOf t ≤ 1000000000 ∧ -2147483648 ≤ nsOf t * 4294967296 - t % 4294967296 * 1000000000 ∧
    nsOf t * 4294967296 - t % 4294967296 * 1000000000 ≤ 2147483648 := by unfold nsOf; omega
theorem tmod_neg_facts (r : Int) (h : r < 0) : (r.tmod 1000000000 < 0 → r.tdiv 1000000000 - 1 = r / 1000000000) ∧ (¬ r.tmod 1000000000 < 0 → r.tdiv 1000000000 = r / 1000000000) := by
  have e : r.tmod 1000000000 = r - 1000000000 * r.tdiv 1000000000 := by
    have := Int.mul_tdiv_add_tmod r 1000000000; omega
  rw [e, (tdiv_bds r).2 (by omega)]
  omega

/-! ### STEP 1: THE WALK: the Go text returns true -/
set_option maxHeartbeats 400000 in
theorem walk (t near : Int) (w0 : (Lit.int .u64 t).wf = true) (w1 : (Lit.int .i64 near).wf = true) (w : World) :
    Calls Try.prog 3 #[.int .u64 t, .int .i64 near] w fun e w' => e = .returned (.bool true) ∧ Grown w w' := by
  obtain ⟨h0, h1⟩ := wf_u64 w0
  clear w0 w1
  by_cases c1 : near < -4611686018427387904
  · go_enter Try.func3, Try.ntmps3
    go_wp2
    go_ret
    exact ⟨rfl, Grown.refl _⟩
  by_cases c2 : near > 4611686018427387904
  · go_enter Try.func3, Try.ntmps3
    go_wp2
    go_ret
    exact ⟨rfl, Grown.refl _⟩
  have d : -4611686019 ≤ near.tdiv 1000000000 ∧ near.tdiv 1000000000 ≤ 4611686019 := by
    rcases Int.le_total 0 near with h | h
    · rw [(tdiv_bds near).1 h]; omega
    · rw [(tdiv_bds near).2 h]; omega
  obtain ⟨d0, d1⟩ := d
  obtain ⟨s0, s1, f1, f2, f3, f4⟩ := sec_facts t _ h0 h1 d0 d1
  obtain ⟨n0, n1, n2, n3⟩ := ns_facts t
  have k1 := fun w => unixNano_any t near h0 h1 (by omega) (by omega) w
  have hr : uN t (near.tdiv 1000000000) = secOf t (near.tdiv 1000000000) * 1000000000 + nsOf t := rfl
  generalize secOf t (near.tdiv 1000000000) = S at *
  generalize nsOf t = n at *
  generalize uN t (near.tdiv 1000000000) = r at *
  have r0 : -6900000000000000000 ≤ r := by omega
  have r1 : r ≤ 6900000000000000000 := by omega
  -- the second at which the answer fits, and the one ahead of it at which it does not
  have yes : ∀ s w, s = S → Calls Try.prog 6 #[.int .u64 t, .int .i64 near, .int .i64 r, .int .i64 s] w fun e w' => e = .returned (.bool true) ∧ w' = w := by
    intro s w hs
    have e : r - s * 1000000000 = n := by omega
    exact fits_yes t near r s h0 h1 d0 d1 (by omega) (by omega) (by rw [hs]; exact f1) (by omega) (by omega) (by omega) (by omega) (by rw [e]; exact n2) (by rw [e]; exact n3) w
  have no : ∀ s w, s = S + 1 → Calls Try.prog 6 #[.int .u64 t, .int .i64 near, .int .i64 r, .int .i64 s] w fun e w' => e = .returned (.bool false) ∧ w' = w := by
    intro s w hs
    exact fits_no t near r s h0 h1 (by omega) (by omega) (by rw [hs]; exact f2) w
  have hq : r / 1000000000 = S ∨ r / 1000000000 = S + 1 := by omega
  have K1 : Hid _ := k1
  have YES : Hid _ := yes
  have NO : Hid _ := no
  have TN : Hid _ := tmod_neg_facts r
  have HQ : Hid _ := hq
  clear k1 yes no f1 f2 f3 f4 n0 n1 n2 n3 hr hq s0 s1 d0 d1
  by_cases c3 : r < 0
  · by_cases c4 : r.tmod 1000000000 < 0
    · have HT : Hid (r.tdiv 1000000000 - 1 = r / 1000000000) := (TN.out c3).1 c4
      have b0 : -6900000001 ≤ r.tdiv 1000000000 := by have := HT.out; omega
      have b1 : r.tdiv 1000000000 ≤ 6900000001 := by have := HT.out; omega
      go_enter Try.func3, Try.ntmps3
      go_wp2_with fail
      refine (K1.out _).mono ?_
      rintro e w' ⟨rfl, rfl⟩
      rcases HQ.out with q | q
      · have Q : Hid (r.tdiv 1000000000 - 1 = S) := HT.out.trans q
        clear q
        go_wp2_with (go_at_call 6; refine (YES.out (r.tdiv 1000000000 - 1) _ Q.out).mono ?_; rintro e w' ⟨rfl, rfl⟩)
        go_ret
        exact ⟨rfl, Grown.refl _⟩
      · have Q : Hid (r.tdiv 1000000000 - 1 = S + 1) := HT.out.trans q
        clear q
        have Q1 : Hid (r.tdiv 1000000000 - 1 - 1 = S) := by have := Q.out; show r.tdiv 1000000000 - 1 - 1 = S; omega
        go_wp2_with fail
        refine (NO.out (r.tdiv 1000000000 - 1) _ Q.out).mono ?_; rintro e w' ⟨rfl, rfl⟩
        go_wp2_with fail
        refine (YES.out (r.tdiv 1000000000 - 1 - 1) _ Q1.out).mono ?_; rintro e w' ⟨rfl, rfl⟩
        go_wp2
        go_ret
        exact ⟨rfl, Grown.refl _⟩
    · have HT : Hid (r.tdiv 1000000000 = r / 1000000000) := (TN.out c3).2 c4
      have b0 : -6900000001 ≤ r.tdiv 1000000000 := by have := HT.out; omega
      have b1 : r.tdiv 1000000000 ≤ 6900000001 := by have := HT.out; omega
      go_enter Try.func3, Try.ntmps3
      go_wp2_with fail
      refine (K1.out _).mono ?_
      rintro e w' ⟨rfl, rfl⟩
      rcases HQ.out with q | q
      · have Q : Hid (r.tdiv 1000000000 = S) := HT.out.trans q
        clear q
        go_wp2_with (go_at_call 6; refine (YES.out (r.tdiv 1000000000) _ Q.out).mono ?_; rintro e w' ⟨rfl, rfl⟩)
        go_ret
        exact ⟨rfl, Grown.refl _⟩
      · have Q : Hid (r.tdiv 1000000000 = S + 1) := HT.out.trans q
        clear q
        have Q1 : Hid (r.tdiv 1000000000 - 1 = S) := by have := Q.out; show r.tdiv 1000000000 - 1 = S; omega
        go_wp2_with fail
        refine (NO.out (r.tdiv 1000000000) _ Q.out).mono ?_; rintro e w' ⟨rfl, rfl⟩
        go_wp2_with fail
        refine (YES.out (r.tdiv 1000000000 - 1) _ Q1.out).mono ?_; rintro e w' ⟨rfl, rfl⟩
        go_wp2
        go_ret
        exact ⟨rfl, Grown.refl _⟩
  · -- r is not negative
    have c4 : 0 ≤ r := by omega
    clear c3
    go_enter Try.func3, Try.ntmps3
    go_wp2_with fail
    refine (K1.out _).mono ?_
    rintro e w' ⟨rfl, rfl⟩
    rcases HQ.out with q | q
    · have Q : Hid (r / 1000000000 = S) := q
      clear q
      go_wp2_with (go_at_call 6; refine (YES.out (r / 1000000000) _ Q.out).mono ?_; rintro e w' ⟨rfl, rfl⟩)
      go_ret
      exact ⟨rfl, Grown.refl _⟩
    · have Q : Hid (r / 1000000000 = S + 1) := q
      clear q
      have Q1 : Hid (r / 1000000000 - 1 = S) := by have := Q.out; show r / 1000000000 - 1 = S; omega
      go_wp2_with fail
      refine (NO.out (r / 1000000000) _ Q.out).mono ?_; rintro e w' ⟨rfl, rfl⟩
      go_wp2_with fail
      refine (YES.out (r / 1000000000 - 1) _ Q1.out).mono ?_; rintro e w' ⟨rfl, rfl⟩
      go_wp2
      go_ret
      exact ⟨rfl, Grown.refl _⟩

/-! ### THE ROW's STEP: WRITTEN OUT: LEAVE IT -/
set_option maxRecDepth 100000 in
theorem lifted (os : Os) (started : os.Started) (H : Type) (enc : TypeId × Value → H) :
    ReturnsInHanded {} Try.checked os 3 .any (Rows.fnUnixNanoIsNearestInNearestEraSpec.pre6 enc Try.prog Try.f3 Rows.fnUnixNanoIsNearestInNearestEraRow.domain false) (Rows.fnUnixNanoIsNearestInNearestEraSpec.post enc Try.prog Try.f3 false true false false) := by
  refine returnsInHanded_of_change (C := Try.checked) own started (by kernel_rfl) Try.func3
    (ChangeSpec.witness6 (enc := enc) (C := Try.checked) false ⟨#[], #[.int .u64 0, .int .i64 0], []⟩ 8 (by kernel_rfl) (by kernel_rfl) (by kernel_rfl) (by kernel_rfl)) ?_
  intro W base args ds gs before hval0 hW hcnd _
  have hval : ∀ (j : Nat) t v, Try.f3.params[j]? = some t → args[j]? = some v → Value.okWide Try.prog W .any base t v := hval0
  have hW' := hW
  obtain ⟨p, q, hA0, hV, rfl, hfz, hnd⟩ := hW
  have hA : DataW.TrodAll enc Try.prog W 0 (fun _ => true) true Try.f3.params.toList args.toList ds p := hA0
  rw [Try.params3] at hA hval
  obtain ⟨v0, vs0, d0, ds0, p0, q0, hargs, rfl, rfl, h0, r0⟩ := trodAll_cons hA
  obtain ⟨v1, vs1, d1, ds1, p1, q1, rfl, rfl, rfl, h1, r1⟩ := trodAll_cons r0
  obtain ⟨rfl, rfl, rfl⟩ := trodAll_nil r1
  obtain rfl : args = #[v0, v1] := by cases args; simp_all
  obtain ⟨rfl, rfl⟩ := trodVars_none hV
  obtain ⟨a0, rfl, rfl, rfl, w0⟩ := open_int Try.underlying22 (hval 0 22 v0 rfl rfl) h0
  obtain ⟨a1, rfl, rfl, rfl, w1⟩ := open_int Try.underlying2 (hval 1 2 v1 rfl rfl) h1
  clear hA0 hval0
  simp only [List.append_nil] at hW'
  refine (walk a0 a1 w0 w1 W).mono fun e W' ⟨he, hg⟩ => ?_
  subst he
  exact ⟨_, rfl, post_of_same (pa := []) (pv := []) hW' (fun _ _ _ => (trodAll_cons_mk (shut_bool Try.underlying4 _) trodAll_mk0)) (fun sp _ => (trodAll_cons_mk (shut_int Try.underlying22 w0) (trodAll_cons_mk (shut_int Try.underlying2 w1) trodAll_mk0))) (fun _ _ => rfl) rfl
    (hg.frame _) hg.2.1 (ok_one (by kernel_rfl) rfl (okWide_bool_mk Try.underlying4 _))⟩

theorem over : Rows.fnUnixNanoIsNearestInNearestEraRow.holds Try.pinned (OpenSpec.ofChange Rows.fnUnixNanoIsNearestInNearestEraSpec) :=
  OpenClaim.holds_of_wide 3 Try.f3 rfl rfl rfl rfl rfl rfl rfl ⟨rfl, rfl, rfl, rfl, rfl⟩ rfl rfl rfl rfl rfl (by kernel_rfl) Try.func3 (by kernel_rfl)
    (of_decide_eq_true (by kernel_rfl)) (by unfold Func.isWrapper; first | (rw [if_pos (by decide +kernel)]; kernel_rfl) | (rw [if_neg (by decide +kernel)]; exact ⟨rfl, rfl⟩))
    (fun os started H enc _ => lifted os started H enc)

/-- ████ THE STATEMENT ████ -/
theorem proved : Rows.FnUnixNanoIsNearestInNearestEraSaid :=
  over
#print axioms proved
end Go.Proofs.Qxb6623267a.fnUnixNanoIsNearestInNearestEra
