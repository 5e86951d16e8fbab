/-
  (innodb.Doublewrite).Contains: her contract (function 4), the plain law over it, and the three ways through the law's region that draws its order.
-/
import Derived.Test.Qxb6623300aRows
import Derived.WalkKit
import Derived.ProofKit
import Derived.RowKit3
import Derived.Deep.RegionHeld3
namespace Go.Proofs.Qxb6623300a
open Go.RowKit

/-- does the area hold page n -/
def ctn (b1 b2 p n : Int) : Bool := decide ((n - b1) % 4294967296 < p) || decide ((n - b2) % 4294967296 < p)
set_option maxHeartbeats 400000 in
theorem contains_any (b1 b2 p n : Int) (w : World) :
    Calls Try.prog 4 #[.agg #[.int .u32 b1, .int .u32 b2, .int .u32 p], .int .u32 n] w fun e w' => e = .returned (.bool (ctn b1 b2 p n)) ∧ ∃ c : Array Value, w' = w.alloc (.cells c 24) := by
  unfold ctn
  go_enter Try.func4, Try.ntmps4
  go_wp2
  all_goals (go_ret; exact ⟨rfl, _, rfl⟩)
theorem wf_u32 {t : Int} (w0 : (Lit.int .u32 t).wf = true) : 0 ≤ t ∧ t < 4294967296 := by
  simp [Lit.wf, IntKind.min, IntKind.max, IntKind.signed, IntKind.bits] at w0; omega
/-- The plain law: the grown area holds what the old one or the added stretches hold. -/
theorem grows (b1 b2 p m n : Int) (_p0 : 0 ≤ p) (_m0 : 0 ≤ m) (_h : p + m < 4294967296) :
    ctn b1 b2 (p + m) n = (ctn b1 b2 p n || ctn ((b1 + p) % 4294967296) ((b2 + p) % 4294967296) m n) := by
  have key : ∀ b : Int, ((n - b) % 4294967296 < p + m) ↔ ((n - b) % 4294967296 < p ∨ (n - (b + p) % 4294967296) % 4294967296 < m) := by
    intro b; omega
  rw [Bool.eq_iff_iff]
  simp only [ctn, Bool.or_eq_true, decide_eq_true_eq, key b1, key b2]
  constructor
  · rintro ((h | h) | (h | h))
    · exact .inl (.inl h)
    · exact .inr (.inl h)
    · exact .inl (.inr h)
    · exact .inr (.inr h)
  · rintro ((h | h) | (h | h))
    · exact .inl (.inl h)
    · exact .inr (.inl h)
    · exact .inl (.inr h)
    · exact .inr (.inr h)
theorem edge1 (b1 b2 p m : Int) (_p0 : 0 ≤ p) (_m0 : 0 < m) (_h : p + m < 4294967296) : ctn b1 b2 (p + m) ((b1 + p) % 4294967296) = true := by
  have e : ((b1 + p) % 4294967296 - b1) % 4294967296 < p + m := by omega
  simp only [ctn, e, decide_true, Bool.true_or]
theorem edge2 (b1 b2 p m : Int) (_p0 : 0 ≤ p) (_m0 : 0 < m) (_h : p + m < 4294967296) : ctn b1 b2 (p + m) ((b2 + p) % 4294967296) = true := by
  have e : ((b2 + p) % 4294967296 - b2) % 4294967296 < p + m := by omega
  simp only [ctn, e, decide_true, Bool.or_true]


set_option linter.unusedVariables false
set_option linter.unusedSimpArgs false in
set_option maxHeartbeats 1000000 in
/-- The old area holds n: the third call is not made: its three operations are passed over. -/
theorem walk_old (a0 a1 a2 a3 a4 : Int) (b0 : 0 ≤ a0) (b0' : a0 < 4294967296) (b1 : 0 ≤ a1) (b1' : a1 < 4294967296) (b2 : 0 ≤ a2) (b2' : a2 < 4294967296) (b3 : 0 ≤ a3) (b3' : a3 < 4294967296) (b4 : 0 ≤ a4) (b4' : a4 < 4294967296) (c1 : ¬ a3 > 4294967295 - a2) (D : ctn a0 a1 a2 a4 = true) (G : ctn a0 a1 (a2 + a3) a4 = true) (w : World) :
    Calls Try.prog 3 #[.int .u32 a0, .int .u32 a1, .int .u32 a2, .int .u32 a3, .int .u32 a4] w fun e w' => e = .returned (.bool true) ∧ Grown w w' := by
  go_enter Try.func3, Try.ntmps3
  go_wp2
  refine wp_region_held_drew (S := fun w' => w'.cell? ⟨w.heap.size, 0, none⟩ = some (.int .u32 a0) ∧ w'.cell? ⟨w.heap.size, 1, none⟩ = some (.int .u32 a1) ∧ w'.cell? ⟨w.heap.size, 2, none⟩ = some (.int .u32 a2) ∧
      w'.cell? ⟨w.heap.size + 1, 0, none⟩ = some (.int .u32 a0) ∧ w'.cell? ⟨w.heap.size + 1, 1, none⟩ = some (.int .u32 a1) ∧ w'.cell? ⟨w.heap.size + 1, 2, none⟩ = some (.int .u32 (a2 + a3))) (by kernel_rfl) ?_ (fun hHeld => ?_)
  · simp [go_sem, World.cell?_alloc_past]
  refine wpAnyH_take (i := 0) (v := ?_) rfl (by kernel_rfl) (by kernel_rfl) (by kernel_rfl) (fun _ _ _ h => h) (Or.inl ⟨by rfl, ?_⟩) hHeld ?_
  rotate_left
  · intro w hSw; (try dsimp only at hSw); go_simp
    try rfl
  try simp only [Act.put, List.getElem_toArray, List.getElem_cons_zero, List.getElem_cons_succ, List.setIfInBounds_toArray, List.set_cons_zero, List.set_cons_succ]
  refine wpAnyH_take (i := 1) (v := ?_) rfl (by kernel_rfl) (by kernel_rfl) (by kernel_rfl) (fun _ _ _ h => h) (Or.inl ⟨by rfl, ?_⟩) hHeld ?_
  rotate_left
  · intro w hSw; (try dsimp only at hSw); go_simp
    try rfl
  try simp only [Act.put, List.getElem_toArray, List.getElem_cons_zero, List.getElem_cons_succ, List.setIfInBounds_toArray, List.set_cons_zero, List.set_cons_succ]
  refine wpAnyH_take (i := 3) (v := ?_) rfl (by kernel_rfl) (by kernel_rfl) (by kernel_rfl) (fun _ _ _ h => h) (Or.inl ⟨by rfl, ?_⟩) hHeld ?_
  rotate_left
  · intro w hSw; (try dsimp only at hSw); go_simp
    try rfl
  try simp only [Act.put, List.getElem_toArray, List.getElem_cons_zero, List.getElem_cons_succ, List.setIfInBounds_toArray, List.set_cons_zero, List.set_cons_succ]
  refine wpAnyH_take (i := 4) (v := ?_) rfl (by kernel_rfl) (by kernel_rfl) (by kernel_rfl) (fun _ _ _ h => h) (Or.inl ⟨by rfl, ?_⟩) hHeld ?_
  rotate_left
  · intro w hSw; (try dsimp only at hSw); go_simp
    try rfl
  try simp only [Act.put, List.getElem_toArray, List.getElem_cons_zero, List.getElem_cons_succ, List.setIfInBounds_toArray, List.set_cons_zero, List.set_cons_succ]
  refine wpAnyH_ready (rs := [2]) (by kernel_rfl) (by simp) ?_
  refine AllReadyH.cons rfl (fun K hK => ?_) AllReadyH.nil
  go_simp
  refine (contains_any _ _ _ _ _).mono ?_
  rintro e w' ⟨rfl, o2, rfl⟩
  try dsimp only
  refine hK.out _ _ ?_ (fun hHeld => ?_)
  · simp [go_sem, World.cell?_alloc_past]
  clear hK K
  try simp only [Act.put, List.getElem_toArray, List.getElem_cons_zero, List.getElem_cons_succ, List.setIfInBounds_toArray, List.set_cons_zero, List.set_cons_succ]
  refine wpAnyH_ready (rs := [5]) (by kernel_rfl) (by simp) ?_
  refine AllReadyH.cons rfl (fun K hK => ?_) AllReadyH.nil
  go_simp
  refine (contains_any _ _ _ _ _).mono ?_
  rintro e w' ⟨rfl, o5, rfl⟩
  try dsimp only
  refine hK.out _ _ ?_ (fun hHeld => ?_)
  · simp [go_sem, World.cell?_alloc_past]
  clear hK K
  try simp only [Act.put, List.getElem_toArray, List.getElem_cons_zero, List.getElem_cons_succ, List.setIfInBounds_toArray, List.set_cons_zero, List.set_cons_succ]
  refine wpAnyH_take (i := 6) (v := ?_) rfl (by kernel_rfl) (by kernel_rfl) (by kernel_rfl) (fun _ _ _ h => h) (Or.inl ⟨by rfl, ?_⟩) hHeld ?_
  rotate_left
  · intro w hSw; (try dsimp only at hSw); go_simp
    try rfl
  try simp only [Act.put, List.getElem_toArray, List.getElem_cons_zero, List.getElem_cons_succ, List.setIfInBounds_toArray, List.set_cons_zero, List.set_cons_succ]
  refine wpAnyH_take (i := 7) (v := undef) rfl (by kernel_rfl) (by kernel_rfl) (by kernel_rfl) (fun _ _ _ h => h) (Or.inr ⟨by rfl, rfl⟩) hHeld ?_
  try simp only [Act.put, List.getElem_toArray, List.getElem_cons_zero, List.getElem_cons_succ, List.setIfInBounds_toArray, List.set_cons_zero, List.set_cons_succ]
  refine wpAnyH_take (i := 8) (v := undef) rfl (by kernel_rfl) (by kernel_rfl) (by kernel_rfl) (fun _ _ _ h => h) (Or.inr ⟨by rfl, rfl⟩) hHeld ?_
  try simp only [Act.put, List.getElem_toArray, List.getElem_cons_zero, List.getElem_cons_succ, List.setIfInBounds_toArray, List.set_cons_zero, List.set_cons_succ]
  refine wpAnyH_take (i := 9) (v := undef) rfl (by kernel_rfl) (by kernel_rfl) (by kernel_rfl) (fun _ _ _ h => h) (Or.inr ⟨by rfl, rfl⟩) hHeld ?_
  try simp only [Act.put, List.getElem_toArray, List.getElem_cons_zero, List.getElem_cons_succ, List.setIfInBounds_toArray, List.set_cons_zero, List.set_cons_succ]
  refine wpAnyH_take (i := 10) (v := ?_) rfl (by kernel_rfl) (by kernel_rfl) (by kernel_rfl) (fun _ _ _ h => h) (Or.inl ⟨by rfl, ?_⟩) hHeld ?_
  rotate_left
  · intro w hSw; (try dsimp only at hSw); go_simp
    try rfl
  try simp only [Act.put, List.getElem_toArray, List.getElem_cons_zero, List.getElem_cons_succ, List.setIfInBounds_toArray, List.set_cons_zero, List.set_cons_succ]
  refine wpAnyH_take (i := 11) (v := ?_) rfl (by kernel_rfl) (by kernel_rfl) (by kernel_rfl) (fun _ _ _ h => h) (Or.inl ⟨by rfl, ?_⟩) hHeld ?_
  rotate_left
  · intro w hSw; (try dsimp only at hSw); go_simp
    try rfl
  try simp only [Act.put, List.getElem_toArray, List.getElem_cons_zero, List.getElem_cons_succ, List.setIfInBounds_toArray, List.set_cons_zero, List.set_cons_succ]
  refine wpAnyH_done (by kernel_rfl) ?_ _
  clear hHeld
  by_cases M : 0 < a3
  · have E1 : ctn a0 a1 (a2 + a3) ((a0 + a2) % 4294967296) = true := edge1 a0 a1 a2 a3 b2 M (by omega)
    have E2 : ctn a0 a1 (a2 + a3) ((a1 + a2) % 4294967296) = true := edge2 a0 a1 a2 a3 b2 M (by omega)
    go_wp2_with (go_at_call 4; refine (contains_any _ _ _ _ _).mono ?_; rintro e w' ⟨rfl, o, rfl⟩)
    go_ret
    exact ⟨rfl, by repeat (first | exact Grown.refl _ | apply Grown.drew | apply Grown.alloc)⟩
  · go_wp2
    go_ret
    exact ⟨rfl, by repeat (first | exact Grown.refl _ | apply Grown.drew | apply Grown.alloc)⟩

set_option maxHeartbeats 1000000 in
theorem walk_new (a0 a1 a2 a3 a4 : Int) (b0 : 0 ≤ a0) (b0' : a0 < 4294967296) (b1 : 0 ≤ a1) (b1' : a1 < 4294967296) (b2 : 0 ≤ a2) (b2' : a2 < 4294967296) (b3 : 0 ≤ a3) (b3' : a3 < 4294967296) (b4 : 0 ≤ a4) (b4' : a4 < 4294967296) (c1 : ¬ a3 > 4294967295 - a2) (D : ctn a0 a1 a2 a4 = false) (A : ctn ((a0 + a2) % 4294967296) ((a1 + a2) % 4294967296) a3 a4 = true) (G : ctn a0 a1 (a2 + a3) a4 = true) (w : World) :
    Calls Try.prog 3 #[.int .u32 a0, .int .u32 a1, .int .u32 a2, .int .u32 a3, .int .u32 a4] w fun e w' => e = .returned (.bool true) ∧ Grown w w' := by
  go_enter Try.func3, Try.ntmps3
  go_wp2
  go_region_held3 (fun w' => w'.cell? ⟨w.heap.size, 0, none⟩ = some (.int .u32 a0) ∧ w'.cell? ⟨w.heap.size, 1, none⟩ = some (.int .u32 a1) ∧ w'.cell? ⟨w.heap.size, 2, none⟩ = some (.int .u32 a2) ∧
      w'.cell? ⟨w.heap.size + 1, 0, none⟩ = some (.int .u32 a0) ∧ w'.cell? ⟨w.heap.size + 1, 1, none⟩ = some (.int .u32 a1) ∧ w'.cell? ⟨w.heap.size + 1, 2, none⟩ = some (.int .u32 (a2 + a3)) ∧
      w'.cell? ⟨w.heap.size + 1 + 1, 0, none⟩ = some (.int .u32 ((a0 + a2) % 4294967296)) ∧ w'.cell? ⟨w.heap.size + 1 + 1, 1, none⟩ = some (.int .u32 ((a1 + a2) % 4294967296)) ∧ w'.cell? ⟨w.heap.size + 1 + 1, 2, none⟩ = some (.int .u32 a3)) (simp [go_sem, World.cell?_alloc_past])
      (first | (go_at_call 4; refine (contains_any _ _ _ _ _).mono ?_; rintro e w' ⟨rfl, o1, rfl⟩))
  by_cases M : 0 < a3
  · have E1 : ctn a0 a1 (a2 + a3) ((a0 + a2) % 4294967296) = true := edge1 a0 a1 a2 a3 b2 M (by omega)
    have E2 : ctn a0 a1 (a2 + a3) ((a1 + a2) % 4294967296) = true := edge2 a0 a1 a2 a3 b2 M (by omega)
    go_wp2_with (go_at_call 4; refine (contains_any _ _ _ _ _).mono ?_; rintro e w' ⟨rfl, o, rfl⟩)
    go_ret
    exact ⟨rfl, by repeat (first | exact Grown.refl _ | apply Grown.drew | apply Grown.alloc)⟩
  · go_wp2
    go_ret
    exact ⟨rfl, by repeat (first | exact Grown.refl _ | apply Grown.drew | apply Grown.alloc)⟩

set_option maxHeartbeats 1000000 in
theorem walk_none (a0 a1 a2 a3 a4 : Int) (b0 : 0 ≤ a0) (b0' : a0 < 4294967296) (b1 : 0 ≤ a1) (b1' : a1 < 4294967296) (b2 : 0 ≤ a2) (b2' : a2 < 4294967296) (b3 : 0 ≤ a3) (b3' : a3 < 4294967296) (b4 : 0 ≤ a4) (b4' : a4 < 4294967296) (c1 : ¬ a3 > 4294967295 - a2) (D : ctn a0 a1 a2 a4 = false) (A : ctn ((a0 + a2) % 4294967296) ((a1 + a2) % 4294967296) a3 a4 = false) (G : ctn a0 a1 (a2 + a3) a4 = false) (w : World) :
    Calls Try.prog 3 #[.int .u32 a0, .int .u32 a1, .int .u32 a2, .int .u32 a3, .int .u32 a4] w fun e w' => e = .returned (.bool true) ∧ Grown w w' := by
  go_enter Try.func3, Try.ntmps3
  go_wp2
  go_region_held3 (fun w' => w'.cell? ⟨w.heap.size, 0, none⟩ = some (.int .u32 a0) ∧ w'.cell? ⟨w.heap.size, 1, none⟩ = some (.int .u32 a1) ∧ w'.cell? ⟨w.heap.size, 2, none⟩ = some (.int .u32 a2) ∧
      w'.cell? ⟨w.heap.size + 1, 0, none⟩ = some (.int .u32 a0) ∧ w'.cell? ⟨w.heap.size + 1, 1, none⟩ = some (.int .u32 a1) ∧ w'.cell? ⟨w.heap.size + 1, 2, none⟩ = some (.int .u32 (a2 + a3)) ∧
      w'.cell? ⟨w.heap.size + 1 + 1, 0, none⟩ = some (.int .u32 ((a0 + a2) % 4294967296)) ∧ w'.cell? ⟨w.heap.size + 1 + 1, 1, none⟩ = some (.int .u32 ((a1 + a2) % 4294967296)) ∧ w'.cell? ⟨w.heap.size + 1 + 1, 2, none⟩ = some (.int .u32 a3)) (simp [go_sem, World.cell?_alloc_past])
      (first | (go_at_call 4; refine (contains_any _ _ _ _ _).mono ?_; rintro e w' ⟨rfl, o1, rfl⟩))
  by_cases M : 0 < a3
  · have E1 : ctn a0 a1 (a2 + a3) ((a0 + a2) % 4294967296) = true := edge1 a0 a1 a2 a3 b2 M (by omega)
    have E2 : ctn a0 a1 (a2 + a3) ((a1 + a2) % 4294967296) = true := edge2 a0 a1 a2 a3 b2 M (by omega)
    go_wp2_with (go_at_call 4; refine (contains_any _ _ _ _ _).mono ?_; rintro e w' ⟨rfl, o, rfl⟩)
    go_ret
    exact ⟨rfl, by repeat (first | exact Grown.refl _ | apply Grown.drew | apply Grown.alloc)⟩
  · go_wp2
    go_ret
    exact ⟨rfl, by repeat (first | exact Grown.refl _ | apply Grown.drew | apply Grown.alloc)⟩
end Go.Proofs.Qxb6623300a
