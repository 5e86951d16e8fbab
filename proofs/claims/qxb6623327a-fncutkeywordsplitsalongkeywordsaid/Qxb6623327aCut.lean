/-
  smtp.lowerASCII (function 6), smtp.CutKeyword (5), the law's own bound on lengths (4): their contracts; the plain law over byte strings; the three ways through the law.
-/
import Derived.Test.Qxb6623327aRows
import Derived.WalkKit
import Derived.ProofKit
import Derived.RowKit3
import Derived.Deep.QuietTactic
import Derived.BigQuiet
namespace Go.Proofs.Qxb6623327a
open Go.RowKit

theorem ret_int {k : IntKind} {a b : Int} (h : a = b) : Ending.returned (.int k a) = .returned (.int k b) := by rw [h]
/-- a byte, an upper-case ASCII letter turned to lower case -/
def low (c : Int) : Int := if 65 ≤ c ∧ c ≤ 90 then c + 32 else c
theorem low_in {c : Int} (h : 65 ≤ c) (h' : c ≤ 90) : low c = c + 32 := if_pos ⟨h, h'⟩
theorem low_out {c : Int} (h : ¬ (65 ≤ c ∧ c ≤ 90)) : low c = c := if_neg h
theorem low_any (c : Int) (_h0 : 0 ≤ c) (_h1 : c ≤ 255) (w : World) :
    Calls Try.prog 6 #[.int .u8 c] w fun e w' => e = .returned (.int .u8 (low c)) ∧ w' = w := by
  by_cases c1 : 65 ≤ c
  · by_cases c2 : c ≤ 90
    · go_enter Try.func6, Try.ntmps6
      go_wp2
      go_ret
      exact ⟨ret_int (by rw [low_in c1 c2]; omega), rfl⟩
    · go_enter Try.func6, Try.ntmps6
      go_wp2
      go_ret
      exact ⟨ret_int (by rw [low_out (by omega)]), rfl⟩
  · go_enter Try.func6, Try.ntmps6
    go_wp2
    go_ret
    exact ⟨ret_int (by rw [low_out (by omega)]), rfl⟩

theorem low_byte (c : UInt8) (w : World) :
    Calls Try.prog 6 #[.int .u8 (c.toNat : Int)] w fun e w' => e = .returned (.int .u8 (low c.toNat)) ∧ w' = w :=
  low_any _ (by omega) (by have := c.toNat_lt; omega) w

/-- the bytes, each in lower case -/
def lows (s : ByteArray) : List Int := s.data.toList.map fun c => low c.toNat
/-- does s begin with the keyword, whatever the case of its ASCII letters -/
def cutB (s k : ByteArray) : Bool := decide ((lows s).take k.size = lows k)
theorem lows_len (s : ByteArray) : (lows s).length = s.size := by simp [lows]
theorem lows_get (s : ByteArray) (i : Nat) (h : i < s.size) : (lows s)[i]'(by rw [lows_len]; exact h) = low (s[i].toNat) := by
  simp only [lows, List.getElem_map]; rfl
theorem cutB_iff (s k : ByteArray) : cutB s k = true ↔ ∃ h : k.size ≤ s.size, ∀ (i : Nat) (hi : i < k.size), low (s[i].toNat) = low (k[i].toNat) := by
  unfold cutB
  rw [decide_eq_true_eq]
  constructor
  · intro h
    have hl := congrArg List.length h
    rw [List.length_take, lows_len, lows_len] at hl
    have hle : k.size ≤ s.size := by omega
    refine ⟨hle, fun i hi => ?_⟩
    rw [← lows_get s i (by omega), ← lows_get k i hi]
    have : (lows k)[i]'(by rw [lows_len]; exact hi) = ((lows s).take k.size)[i]'(by rw [h, lows_len]; exact hi) := by simp only [h]
    rw [this, List.getElem_take]
  · rintro ⟨hle, h⟩
    apply List.ext_getElem
    · rw [List.length_take, lows_len, lows_len]; omega
    · intro i h1 h2
      rw [lows_len] at h2
      rw [List.getElem_take, lows_get s i (by omega), lows_get k i h2]
      exact h i h2

set_option maxHeartbeats 400000 in
theorem cut_yes (s k : ByteArray) (w : World) (ms : s.size ≤ maxLen) (h : cutB s k = true) :
    Calls Try.prog 5 #[.string s, .string k] w fun e w' => e = .returned (.tuple #[.string (s.extract k.size s.size), .bool true]) ∧ ∃ n, w' = w.drewN n := by
  obtain ⟨hle, heq⟩ := (cutB_iff s k).1 h
  clear h
  unfold maxLen at ms
  have H : Hid _ := heq
  clear heq
  go_enter Try.func5, Try.ntmps5
  go_wp2
  go_loopw [6] (fun i w' => ∃ j : Nat, j ≤ k.size ∧ i = .int .i64 j ∧ Hid (∃ n, w' = w.drewN n)) (fun i _ => k.size - (intOf i).toNat)
  case atStart => exact ⟨0, Nat.zero_le _, rfl, ⟨0, rfl⟩⟩
  case round =>
    obtain ⟨j, hj, rfl, hw⟩ := hrel
    by_cases hlt : j < k.size
    · have e := H.out j hlt
      have hjs : j < s.size := by omega
      have e' : (low s[j].toNat != low k[j].toNat) = false := by rw [e]; simp
      clear e
      go_wp2
      go_quiet ((go_at_call 6; exact Calls.quiet_of_same (low_byte _ _)))
      go_wp2
      go_roundw
      case rel => exact ⟨j + 1, by omega, by go_num, by obtain ⟨m, rfl⟩ := hw.out; exact ⟨m + nq, by rw [World.drewN_drewN]⟩⟩
      case measure => simp [intOf]; omega
    · go_wp2
      go_ret2
      exact ⟨rfl, hw.out⟩

set_option maxHeartbeats 400000 in
theorem cut_no (s k : ByteArray) (w : World) (ms : s.size ≤ maxLen) (_mk : k.size ≤ maxLen) (h : cutB s k = false) :
    Calls Try.prog 5 #[.string s, .string k] w fun e w' => e = .returned (.tuple #[.string s, .bool false]) ∧ ∃ n, w' = w.drewN n := by
  have H : Hid (¬ ∃ h : k.size ≤ s.size, ∀ (i : Nat) (hi : i < k.size), low (s[i].toNat) = low (k[i].toNat)) := by
    show ¬ _
    intro h2
    have := (cutB_iff s k).2 h2
    rw [h] at this; cases this
  clear h
  unfold maxLen at ms _mk
  by_cases hle : s.size < k.size
  · go_enter Try.func5, Try.ntmps5
    go_wp2
    go_ret2
    exact ⟨rfl, 0, rfl⟩
  have hle' : k.size ≤ s.size := by omega
  go_enter Try.func5, Try.ntmps5
  go_wp2
  go_loopw [6] (fun i w' => ∃ j : Nat, j ≤ k.size ∧ i = .int .i64 j ∧ Hid (∃ n, w' = w.drewN n) ∧ Hid (∀ (i : Nat) (hi : i < j) (hk : i < k.size), low (s[i].toNat) = low (k[i].toNat))) (fun i _ => k.size - (intOf i).toNat)
  case atStart => exact ⟨0, Nat.zero_le _, rfl, ⟨0, rfl⟩, fun i hi => absurd hi (Nat.not_lt_zero _)⟩
  case round =>
    obtain ⟨j, hj, rfl, hw, hall⟩ := hrel
    by_cases hlt : j < k.size
    · have hjs : j < s.size := by omega
      by_cases e : low s[j].toNat = low k[j].toNat
      · have e' : (low s[j].toNat != low k[j].toNat) = false := by rw [e]; simp
        have E : Hid _ := e
        clear e
        go_wp2
        go_quiet ((go_at_call 6; exact Calls.quiet_of_same (low_byte _ _)))
        go_wp2
        go_roundw
        case rel => exact ⟨j + 1, by omega, by go_num, by obtain ⟨m, rfl⟩ := hw.out; exact ⟨m + nq, by rw [World.drewN_drewN]⟩, fun i hi hk => by
          by_cases hij : i = j
          · subst hij; exact E.out
          · exact hall.out i (by omega) hk⟩
        case measure => simp [intOf]; omega
      · have e' : (low s[j].toNat != low k[j].toNat) = true := by simpa using e
        clear e
        go_wp2
        go_quiet ((go_at_call 6; exact Calls.quiet_of_same (low_byte _ _)))
        go_wp2
        go_ret2
        exact ⟨rfl, by obtain ⟨m, rfl⟩ := hw.out; exact ⟨m + nq, by rw [World.drewN_drewN]⟩⟩
    · exact absurd ⟨hle', fun i hi => hall.out i (by omega) hi⟩ H.out

theorem zz_yes (s a b : ByteArray) (w : World) (h : s.size + a.size + b.size ≤ 1048576) :
    Calls Try.prog 4 #[.string s, .string a, .string b] w fun e w' => e = .returned (.bool true) ∧ w' = w := by
  go_enter Try.func4, Try.ntmps4
  go_wp2
  go_ret
  exact ⟨rfl, rfl⟩
theorem zz_no (s a b : ByteArray) (w : World) (ms : s.size ≤ maxLen) (ma : a.size ≤ maxLen) (mb : b.size ≤ maxLen) (h : 1048576 < s.size + a.size + b.size) :
    Calls Try.prog 4 #[.string s, .string a, .string b] w fun e w' => e = .returned (.bool false) ∧ w' = w := by
  unfold maxLen at ms ma mb
  go_enter Try.func4, Try.ntmps4
  go_wp2
  all_goals
    go_ret
    exact ⟨rfl, rfl⟩

/-! ### The plain law: cutting a ++ b is cutting a, then b -/
theorem ext_data (s : ByteArray) (i : Nat) : (s.extract i s.size).data.toList = s.data.toList.drop i := by
  simp only [ByteArray.data_extract, Array.toList_extract, List.extract]
  rw [List.take_of_length_le]
  simp
theorem app_data (a b : ByteArray) : (a ++ b).data.toList = a.data.toList ++ b.data.toList := by simp
theorem ext_ext (s : ByteArray) (i j : Nat) : (s.extract i s.size).extract j (s.extract i s.size).size = s.extract (i + j) s.size := by
  apply ByteArray.ext
  apply Array.ext'
  rw [ext_data, ext_data, ext_data, List.drop_drop]
theorem app_ext (a s : ByteArray) : (a ++ s).extract a.size (a ++ s).size = s := by
  apply ByteArray.ext
  apply Array.ext'
  rw [ext_data, app_data]
  have : a.size = a.data.toList.length := by simp
  rw [this, List.drop_left]
theorem lows_app (a b : ByteArray) : lows (a ++ b) = lows a ++ lows b := by
  unfold lows; rw [app_data, List.map_append]
theorem lows_ext (s : ByteArray) (i : Nat) : lows (s.extract i s.size) = (lows s).drop i := by
  unfold lows; rw [ext_data, List.map_drop]
theorem cut_self (k s : ByteArray) : cutB (k ++ s) k = true := by
  unfold cutB
  rw [lows_app, ← lows_len k, List.take_left]
  exact decide_eq_true rfl
theorem cut_along (s a b : ByteArray) : cutB s (a ++ b) = (cutB s a && cutB (s.extract a.size s.size) b) := by
  rw [Bool.eq_iff_iff, Bool.and_eq_true]
  unfold cutB
  simp only [decide_eq_true_eq]
  rw [lows_app, lows_ext, show (a ++ b).size = a.size + b.size by simp, List.take_add]
  constructor
  · intro h
    have hl := congrArg List.length h
    simp only [List.length_append, List.length_take, List.length_drop, lows_len] at hl
    exact List.append_inj h (by rw [List.length_take, lows_len, lows_len]; omega)
  · rintro ⟨h1, h2⟩
    rw [h1, h2]
theorem grown_drewN {W w' : World} (h : Grown W w') (n : Nat) : Grown W (w'.drewN n) := h

/-! ### THE WALK -/
set_option maxHeartbeats 1000000 in
theorem walk_both (s a b r r1 : ByteArray) (c2 : s.size + a.size + b.size ≤ 1048576)
    (KAB : Hid (∀ w, Calls Try.prog 5 #[.string s, .string (a ++ b)] w fun e w' => e = .returned (.tuple #[.string r, .bool true]) ∧ ∃ n, w' = w.drewN n))
    (KA : Hid (∀ w, Calls Try.prog 5 #[.string s, .string a] w fun e w' => e = .returned (.tuple #[.string r1, .bool true]) ∧ ∃ n, w' = w.drewN n))
    (KB : Hid (∀ w, Calls Try.prog 5 #[.string r1, .string b] w fun e w' => e = .returned (.tuple #[.string r, .bool true]) ∧ ∃ n, w' = w.drewN n))
    (KS : Hid (∀ w, Calls Try.prog 5 #[.string (a ++ b ++ s), .string (a ++ b)] w fun e w' => e = .returned (.tuple #[.string s, .bool true]) ∧ ∃ n, w' = w.drewN n))
    (w : World) :
    Calls Try.prog 3 #[.string s, .string a, .string b] w fun e w' => e = .returned (.bool true) ∧ Grown w w' := by
  have z := fun w => zz_yes s a b w c2
  have Z : Hid _ := z
  clear z
  go_enter Try.func3, Try.ntmps3
  go_wp2_with fail
  refine (Z.out _).mono ?_
  rintro e w' ⟨rfl, rfl⟩
  go_wp2_with fail
  refine (KAB.out _).mono ?_
  rintro e w' ⟨rfl, n1, rfl⟩
  go_wp2_with fail
  refine (KA.out _).mono ?_
  rintro e w' ⟨rfl, n2, rfl⟩
  go_wp2_with fail
  refine (KB.out _).mono ?_
  rintro e w' ⟨rfl, n3, rfl⟩
  go_wp2_with fail
  refine (KS.out _).mono ?_
  rintro e w' ⟨rfl, n4, rfl⟩
  go_wp2
  go_ret
  exact ⟨rfl, grown_drewN (Grown.refl _) _⟩
set_option maxHeartbeats 1000000 in
theorem walk_one (s a b r1 : ByteArray) (c2 : s.size + a.size + b.size ≤ 1048576)
    (KAB : Hid (∀ w, Calls Try.prog 5 #[.string s, .string (a ++ b)] w fun e w' => e = .returned (.tuple #[.string s, .bool false]) ∧ ∃ n, w' = w.drewN n))
    (KA : Hid (∀ w, Calls Try.prog 5 #[.string s, .string a] w fun e w' => e = .returned (.tuple #[.string r1, .bool true]) ∧ ∃ n, w' = w.drewN n))
    (KB : Hid (∀ w, Calls Try.prog 5 #[.string r1, .string b] w fun e w' => e = .returned (.tuple #[.string r1, .bool false]) ∧ ∃ n, w' = w.drewN n))
    (KS : Hid (∀ w, Calls Try.prog 5 #[.string (a ++ b ++ s), .string (a ++ b)] w fun e w' => e = .returned (.tuple #[.string s, .bool true]) ∧ ∃ n, w' = w.drewN n))
    (w : World) :
    Calls Try.prog 3 #[.string s, .string a, .string b] w fun e w' => e = .returned (.bool true) ∧ Grown w w' := by
  have z := fun w => zz_yes s a b w c2
  have Z : Hid _ := z
  clear z
  go_enter Try.func3, Try.ntmps3
  go_wp2_with fail
  refine (Z.out _).mono ?_
  rintro e w' ⟨rfl, rfl⟩
  go_wp2_with fail
  refine (KAB.out _).mono ?_
  rintro e w' ⟨rfl, n1, rfl⟩
  go_wp2_with fail
  refine (KA.out _).mono ?_
  rintro e w' ⟨rfl, n2, rfl⟩
  go_wp2_with fail
  refine (KB.out _).mono ?_
  rintro e w' ⟨rfl, n3, rfl⟩
  go_wp2_with fail
  refine (KS.out _).mono ?_
  rintro e w' ⟨rfl, n4, rfl⟩
  go_wp2
  go_ret
  exact ⟨rfl, grown_drewN (Grown.refl _) _⟩
set_option maxHeartbeats 1000000 in
theorem walk_none (s a b r2 : ByteArray) (ok2 : Bool) (c2 : s.size + a.size + b.size ≤ 1048576)
    (KAB : Hid (∀ w, Calls Try.prog 5 #[.string s, .string (a ++ b)] w fun e w' => e = .returned (.tuple #[.string s, .bool false]) ∧ ∃ n, w' = w.drewN n))
    (KA : Hid (∀ w, Calls Try.prog 5 #[.string s, .string a] w fun e w' => e = .returned (.tuple #[.string s, .bool false]) ∧ ∃ n, w' = w.drewN n))
    (KB : Hid (∀ w, Calls Try.prog 5 #[.string s, .string b] w fun e w' => e = .returned (.tuple #[.string r2, .bool ok2]) ∧ ∃ n, w' = w.drewN n))
    (KS : Hid (∀ w, Calls Try.prog 5 #[.string (a ++ b ++ s), .string (a ++ b)] w fun e w' => e = .returned (.tuple #[.string s, .bool true]) ∧ ∃ n, w' = w.drewN n))
    (w : World) :
    Calls Try.prog 3 #[.string s, .string a, .string b] w fun e w' => e = .returned (.bool true) ∧ Grown w w' := by
  have z := fun w => zz_yes s a b w c2
  have Z : Hid _ := z
  clear z
  go_enter Try.func3, Try.ntmps3
  go_wp2_with fail
  refine (Z.out _).mono ?_
  rintro e w' ⟨rfl, rfl⟩
  go_wp2_with fail
  refine (KAB.out _).mono ?_
  rintro e w' ⟨rfl, n1, rfl⟩
  go_wp2_with fail
  refine (KA.out _).mono ?_
  rintro e w' ⟨rfl, n2, rfl⟩
  go_wp2_with fail
  refine (KB.out _).mono ?_
  rintro e w' ⟨rfl, n3, rfl⟩
  go_wp2_with fail
  refine (KS.out _).mono ?_
  rintro e w' ⟨rfl, n4, rfl⟩
  go_wp2
  go_ret
  exact ⟨rfl, grown_drewN (Grown.refl _) _⟩
end Go.Proofs.Qxb6623327a
