/-
  PLAIN ARITHMETIC, NO Go IN SIGHT: numbers as eight base-256 digits; '&', '|' digit by digit; upper-case ASCII on all eight at once; the cut at k bytes.
-/
namespace Go.Proofs.Qxb6623359a
/-- the number whose base-256 digits are l, the lowest first -/
def num : List Nat → Nat
  | [] => 0
  | b :: l => b + 256 * num l
/-- an ASCII byte in upper case -/
def up (b : Nat) : Nat := if 97 ≤ b ∧ b ≤ 122 then b - 32 else b

theorem join_mod (a A : Nat) (h : a < 256) : (a + 256 * A) % 2 ^ 8 = a := by omega
theorem join_div (a A : Nat) (h : a < 256) : (a + 256 * A) / 2 ^ 8 = A := by omega
theorem and_join (a A c C : Nat) (ha : a < 256) (hc : c < 256) : (a + 256 * A) &&& (c + 256 * C) = (a &&& c) + 256 * (A &&& C) := by
  have h1 : ((a + 256 * A) &&& (c + 256 * C)) % 2 ^ 8 = a &&& c := by
    rw [Nat.and_mod_two_pow, join_mod a A ha, join_mod c C hc]
  have h2 : ((a + 256 * A) &&& (c + 256 * C)) / 2 ^ 8 = A &&& C := by
    rw [Nat.and_div_two_pow, join_div a A ha, join_div c C hc]
  omega
theorem or_join (a A c C : Nat) (ha : a < 256) (hc : c < 256) : (a + 256 * A) ||| (c + 256 * C) = (a ||| c) + 256 * (A ||| C) := by
  have h1 : ((a + 256 * A) ||| (c + 256 * C)) % 2 ^ 8 = a ||| c := by
    rw [Nat.or_mod_two_pow, join_mod a A ha, join_mod c C hc]
  have h2 : ((a + 256 * A) ||| (c + 256 * C)) / 2 ^ 8 = A ||| C := by
    rw [Nat.or_div_two_pow, join_div a A ha, join_div c C hc]
  omega
theorem num_and : ∀ (l m : List Nat), l.length = m.length → (∀ b ∈ l, b < 256) → (∀ b ∈ m, b < 256) → num l &&& num m = num (List.zipWith (· &&& ·) l m)
  | [], m, _, _, _ => by simp [num]
  | b :: l, [], h, _, _ => by simp at h
  | b :: l, c :: m, h, hl, hm => by
    have ih := num_and l m (by simpa using h) (fun x hx => hl x (List.mem_cons_of_mem _ hx)) (fun x hx => hm x (List.mem_cons_of_mem _ hx))
    simp only [num, List.zipWith_cons_cons]
    rw [and_join b _ c _ (hl b List.mem_cons_self) (hm c List.mem_cons_self), ih]
theorem num_or : ∀ (l m : List Nat), l.length = m.length → (∀ b ∈ l, b < 256) → (∀ b ∈ m, b < 256) → num l ||| num m = num (List.zipWith (· ||| ·) l m)
  | [], [], _, _, _ => by simp [num]
  | [], c :: m, h, _, _ => by simp at h
  | b :: l, [], h, _, _ => by simp at h
  | b :: l, c :: m, h, hl, hm => by
    have ih := num_or l m (by simpa using h) (fun x hx => hl x (List.mem_cons_of_mem _ hx)) (fun x hx => hm x (List.mem_cons_of_mem _ hx))
    simp only [num, List.zipWith_cons_cons]
    rw [or_join b _ c _ (hl b List.mem_cons_self) (hm c List.mem_cons_self), ih]

/-- one byte's letter bit, shifted down -/
theorem bit_of (b : Nat) (h : b < 128) : (((b + 31) &&& (255 - (b + 5))) &&& 128) = 4 * (b - up b) := by
  have : ∀ b : Fin 128, (((b.val + 31) &&& (255 - (b.val + 5))) &&& 128) = 4 * (b.val - up b.val) := by decide +kernel
  exact this ⟨b, h⟩
theorem up_le (b : Nat) : up b ≤ b := by unfold up; split <;> omega

theorem num8 (b0 b1 b2 b3 b4 b5 b6 b7 : Nat) : num [b0, b1, b2, b3, b4, b5, b6, b7] =
    b0 + 256 * b1 + 65536 * b2 + 16777216 * b3 + 4294967296 * b4 + 1099511627776 * b5 + 281474976710656 * b6 + 72057594037927936 * b7 := by
  simp only [num]; omega
/-- upperASCII on eight ASCII bytes, byte by byte -/
theorem upper8 (b0 b1 b2 b3 b4 b5 b6 b7 x : Nat) (h0 : b0 < 128) (h1 : b1 < 128) (h2 : b2 < 128) (h3 : b3 < 128) (h4 : b4 < 128) (h5 : b5 < 128) (h6 : b6 < 128) (h7 : b7 < 128)
    (hx : x = num [b0, b1, b2, b3, b4, b5, b6, b7]) :
    ((x + 2242545357980376863) &&& (18446744073709551615 - (x + 361700864190383365)) &&& 9259542123273814144) =
      4 * num [b0 - up b0, b1 - up b1, b2 - up b2, b3 - up b3, b4 - up b4, b5 - up b5, b6 - up b6, b7 - up b7] := by
  have e1 : x + 2242545357980376863 = num [b0 + 31, b1 + 31, b2 + 31, b3 + 31, b4 + 31, b5 + 31, b6 + 31, b7 + 31] := by rw [hx, num8, num8]; omega
  have e2 : 18446744073709551615 - (x + 361700864190383365) = num [255 - (b0 + 5), 255 - (b1 + 5), 255 - (b2 + 5), 255 - (b3 + 5), 255 - (b4 + 5), 255 - (b5 + 5), 255 - (b6 + 5), 255 - (b7 + 5)] := by rw [hx, num8, num8]; omega
  have e3 : 9259542123273814144 = num [128, 128, 128, 128, 128, 128, 128, 128] := by decide
  rw [e1, e2, e3, num_and _ _ (by simp) (by simp; omega) (by simp; omega), num_and _ _ (by simp) ?_ (by simp)]
  · simp only [List.zipWith_cons_cons, List.zipWith_nil_left]
    rw [bit_of b0 h0, bit_of b1 h1, bit_of b2 h2, bit_of b3 h3, bit_of b4 h4, bit_of b5 h5, bit_of b6 h6, bit_of b7 h7, num8, num8]
    omega
  · have hb : ∀ a c : Nat, a < 256 → a &&& c < 256 := fun a c h => Nat.lt_of_le_of_lt Nat.and_le_left h
    simp only [List.zipWith_cons_cons, List.zipWith_nil_left, List.mem_cons, List.not_mem_nil, or_false]
    rintro b (rfl | rfl | rfl | rfl | rfl | rfl | rfl | rfl) <;> exact hb _ _ (by omega)

/-- a digit, or nought -/
def sel (p : Bool) (b : Nat) : Nat := if p then b else 0
theorem and255 (p : Bool) (b : Nat) (h : b < 256) : b &&& sel p 255 = sel p b := by
  cases p
  · simp [sel]
  · have : b &&& 255 = b % 2 ^ 8 := Nat.and_two_pow_sub_one_eq_mod b 8
    simp only [sel, if_true, this]; omega
theorem sel_not (p : Bool) : sel (!p) 255 = 255 - sel p 255 := by cases p <;> rfl
theorem sel_lt (p : Bool) (b n : Nat) (h : b < n) : sel p b < n := by cases p <;> simp [sel] <;> omega
theorem up_lt (b : Nat) (h : b < 256) : up b < 256 := Nat.lt_of_le_of_lt (up_le b) h
theorem up_or (p : Bool) (b : Nat) : up (sel p b) ||| up (sel (!p) b) = up b := by cases p <;> simp [sel, up]

theorem and8 {a0 a1 a2 a3 a4 a5 a6 a7 c0 c1 c2 c3 c4 c5 c6 c7 : Nat}
    (h0 : a0 < 256) (h1 : a1 < 256) (h2 : a2 < 256) (h3 : a3 < 256) (h4 : a4 < 256) (h5 : a5 < 256) (h6 : a6 < 256) (h7 : a7 < 256)
    (k0 : c0 < 256) (k1 : c1 < 256) (k2 : c2 < 256) (k3 : c3 < 256) (k4 : c4 < 256) (k5 : c5 < 256) (k6 : c6 < 256) (k7 : c7 < 256) :
    num [a0, a1, a2, a3, a4, a5, a6, a7] &&& num [c0, c1, c2, c3, c4, c5, c6, c7] = num [a0 &&& c0, a1 &&& c1, a2 &&& c2, a3 &&& c3, a4 &&& c4, a5 &&& c5, a6 &&& c6, a7 &&& c7] := by
  rw [num_and _ _ (by simp) (by simp; omega) (by simp; omega)]; simp only [List.zipWith_cons_cons, List.zipWith_nil_left]
theorem or8 {a0 a1 a2 a3 a4 a5 a6 a7 c0 c1 c2 c3 c4 c5 c6 c7 : Nat}
    (h0 : a0 < 256) (h1 : a1 < 256) (h2 : a2 < 256) (h3 : a3 < 256) (h4 : a4 < 256) (h5 : a5 < 256) (h6 : a6 < 256) (h7 : a7 < 256)
    (k0 : c0 < 256) (k1 : c1 < 256) (k2 : c2 < 256) (k3 : c3 < 256) (k4 : c4 < 256) (k5 : c5 < 256) (k6 : c6 < 256) (k7 : c7 < 256) :
    num [a0, a1, a2, a3, a4, a5, a6, a7] ||| num [c0, c1, c2, c3, c4, c5, c6, c7] = num [a0 ||| c0, a1 ||| c1, a2 ||| c2, a3 ||| c3, a4 ||| c4, a5 ||| c5, a6 ||| c6, a7 ||| c7] := by
  rw [num_or _ _ (by simp) (by simp; omega) (by simp; omega)]; simp only [List.zipWith_cons_cons, List.zipWith_nil_left]

/-- x is the number of eight ASCII bytes, and u that of the same in upper case -/
def Up8 (x u : Nat) : Prop := ∃ b0 b1 b2 b3 b4 b5 b6 b7 : Nat, b0 < 128 ∧ b1 < 128 ∧ b2 < 128 ∧ b3 < 128 ∧ b4 < 128 ∧ b5 < 128 ∧ b6 < 128 ∧ b7 < 128 ∧
  x = num [b0, b1, b2, b3, b4, b5, b6, b7] ∧ u = num [up b0, up b1, up b2, up b3, up b4, up b5, up b6, up b7]

/-- the masks: the low k bytes -/
theorem mask_is : ∀ k : Fin 9, 2 ^ (8 * k.val) - 1 = num [sel (decide (0 < k.val)) 255, sel (decide (1 < k.val)) 255, sel (decide (2 < k.val)) 255, sel (decide (3 < k.val)) 255, sel (decide (4 < k.val)) 255, sel (decide (5 < k.val)) 255, sel (decide (6 < k.val)) 255, sel (decide (7 < k.val)) 255] := by
  decide +kernel

theorem digits8 (x : Nat) (hx : x < 18446744073709551616) : ∃ b0 b1 b2 b3 b4 b5 b6 b7 : Nat, b0 < 256 ∧ b1 < 256 ∧ b2 < 256 ∧ b3 < 256 ∧ b4 < 256 ∧ b5 < 256 ∧ b6 < 256 ∧ b7 < 256 ∧
    x = num [b0, b1, b2, b3, b4, b5, b6, b7] := by
  refine ⟨x % 256, x / 256 % 256, x / 65536 % 256, x / 16777216 % 256, x / 4294967296 % 256, x / 1099511627776 % 256, x / 281474976710656 % 256, x / 72057594037927936 % 256, ?_, ?_, ?_, ?_, ?_, ?_, ?_, ?_, ?_⟩
  · omega
  · omega
  · omega
  · omega
  · omega
  · omega
  · omega
  · omega
  · rw [num8]; omega
theorem hi_none (b : Nat) (h : b < 256) (h' : b &&& 128 = 0) : b < 128 := by
  have : ∀ b : Fin 256, b.val &&& 128 = 0 → b.val < 128 := by decide +kernel
  exact this ⟨b, h⟩ h'
theorem ascii8 (x : Nat) (hx : x < 18446744073709551616) (h : x &&& 9259542123273814144 = 0) : ∃ u, Up8 x u := by
  obtain ⟨b0, b1, b2, b3, b4, b5, b6, b7, h0, h1, h2, h3, h4, h5, h6, h7, e⟩ := digits8 x hx
  have e3 : 9259542123273814144 = num [128, 128, 128, 128, 128, 128, 128, 128] := by decide
  rw [e, e3, and8 h0 h1 h2 h3 h4 h5 h6 h7 (by decide) (by decide) (by decide) (by decide) (by decide) (by decide) (by decide) (by decide), num8] at h
  exact ⟨_, b0, b1, b2, b3, b4, b5, b6, b7, hi_none b0 h0 (by omega), hi_none b1 h1 (by omega), hi_none b2 h2 (by omega), hi_none b3 h3 (by omega),
    hi_none b4 h4 (by omega), hi_none b5 h5 (by omega), hi_none b6 h6 (by omega), hi_none b7 h7 (by omega), e, rfl⟩

theorem up8_lt {x u : Nat} (H : Up8 x u) : x < 9259542123273814144 ∧ u ≤ x := by
  obtain ⟨b0, b1, b2, b3, b4, b5, b6, b7, h0, h1, h2, h3, h4, h5, h6, h7, rfl, rfl⟩ := H
  have := up_le b0; have := up_le b1; have := up_le b2; have := up_le b3; have := up_le b4; have := up_le b5; have := up_le b6; have := up_le b7
  rw [num8, num8]; omega

/-- upperASCII's own reckoning -/
theorem upper_is {x u : Nat} (H : Up8 x u) :
    ((x + 2242545357980376863) &&& (18446744073709551615 - (x + 361700864190383365)) &&& 9259542123273814144) / 4 = x - u := by
  obtain ⟨b0, b1, b2, b3, b4, b5, b6, b7, h0, h1, h2, h3, h4, h5, h6, h7, hx, hu⟩ := H
  rw [upper8 b0 b1 b2 b3 b4 b5 b6 b7 x h0 h1 h2 h3 h4 h5 h6 h7 hx, hx, hu]
  have := up_le b0; have := up_le b1; have := up_le b2; have := up_le b3; have := up_le b4; have := up_le b5; have := up_le b6; have := up_le b7
  rw [num8, num8, num8]; omega

/-- the cut at k bytes -/
theorem cut8 (k : Nat) (hk : k ≤ 8) {x u : Nat} (H : Up8 x u) :
    ∃ lo hi, Up8 (x &&& (2 ^ (8 * k) - 1)) lo ∧ Up8 (x &&& (18446744073709551615 - (2 ^ (8 * k) - 1))) hi ∧ lo ||| hi = u := by
  obtain ⟨b0, b1, b2, b3, b4, b5, b6, b7, h0, h1, h2, h3, h4, h5, h6, h7, hx, hu⟩ := H
  have hm := mask_is ⟨k, by omega⟩
  simp only at hm
  rw [hm]
  generalize decide (0 < k) = p0, decide (1 < k) = p1, decide (2 < k) = p2, decide (3 < k) = p3, decide (4 < k) = p4, decide (5 < k) = p5, decide (6 < k) = p6, decide (7 < k) = p7
  have hn : 18446744073709551615 - num [sel p0 255, sel p1 255, sel p2 255, sel p3 255, sel p4 255, sel p5 255, sel p6 255, sel p7 255] =
      num [sel (!p0) 255, sel (!p1) 255, sel (!p2) 255, sel (!p3) 255, sel (!p4) 255, sel (!p5) 255, sel (!p6) 255, sel (!p7) 255] := by
    have q : ∀ p, sel p 255 < 256 := fun p => sel_lt p 255 256 (by decide)
    have := q p0; have := q p1; have := q p2; have := q p3; have := q p4; have := q p5; have := q p6; have := q p7
    rw [num8, num8]; simp only [sel_not]; omega
  have q : ∀ p, sel p 255 < 256 := fun p => sel_lt p 255 256 (by decide)
  rw [hn, hx, and8 (by omega) (by omega) (by omega) (by omega) (by omega) (by omega) (by omega) (by omega) (q _) (q _) (q _) (q _) (q _) (q _) (q _) (q _),
    and8 (by omega) (by omega) (by omega) (by omega) (by omega) (by omega) (by omega) (by omega) (q _) (q _) (q _) (q _) (q _) (q _) (q _) (q _)]
  simp only [and255 _ b0 (by omega), and255 _ b1 (by omega), and255 _ b2 (by omega), and255 _ b3 (by omega), and255 _ b4 (by omega), and255 _ b5 (by omega), and255 _ b6 (by omega), and255 _ b7 (by omega)]
  refine ⟨_, _, ⟨sel p0 b0, sel p1 b1, sel p2 b2, sel p3 b3, sel p4 b4, sel p5 b5, sel p6 b6, sel p7 b7, sel_lt _ _ _ h0, sel_lt _ _ _ h1, sel_lt _ _ _ h2, sel_lt _ _ _ h3, sel_lt _ _ _ h4, sel_lt _ _ _ h5, sel_lt _ _ _ h6, sel_lt _ _ _ h7, rfl, rfl⟩,
    ⟨sel (!p0) b0, sel (!p1) b1, sel (!p2) b2, sel (!p3) b3, sel (!p4) b4, sel (!p5) b5, sel (!p6) b6, sel (!p7) b7, sel_lt _ _ _ h0, sel_lt _ _ _ h1, sel_lt _ _ _ h2, sel_lt _ _ _ h3, sel_lt _ _ _ h4, sel_lt _ _ _ h5, sel_lt _ _ _ h6, sel_lt _ _ _ h7, rfl, rfl⟩, ?_⟩
  have r : ∀ p b, b < 128 → up (sel p b) < 256 := fun p b h => up_lt _ (sel_lt p b 256 (by omega))
  rw [or8 (r _ _ h0) (r _ _ h1) (r _ _ h2) (r _ _ h3) (r _ _ h4) (r _ _ h5) (r _ _ h6) (r _ _ h7) (r _ _ h0) (r _ _ h1) (r _ _ h2) (r _ _ h3) (r _ _ h4) (r _ _ h5) (r _ _ h6) (r _ _ h7), hu]
  simp only [up_or]

/-- byte j -/
theorem byte8 (j : Nat) (hj : j < 8) {x u : Nat} (H : Up8 x u) : x / 2 ^ (8 * j) % 256 < 128 ∧ u / 2 ^ (8 * j) % 256 = up (x / 2 ^ (8 * j) % 256) := by
  obtain ⟨b0, b1, b2, b3, b4, b5, b6, b7, h0, h1, h2, h3, h4, h5, h6, h7, hx, hu⟩ := H
  have := up_le b0; have := up_le b1; have := up_le b2; have := up_le b3; have := up_le b4; have := up_le b5; have := up_le b6; have := up_le b7
  rw [num8] at hx hu
  have key : ∃ b, b < 128 ∧ x / 2 ^ (8 * j) % 256 = b ∧ u / 2 ^ (8 * j) % 256 = up b := by
    rcases j with _ | _ | _ | _ | _ | _ | _ | _ | j
    · exact ⟨b0, h0, by simp; omega, by simp; omega⟩
    · exact ⟨b1, h1, by simp; omega, by simp; omega⟩
    · exact ⟨b2, h2, by simp; omega, by simp; omega⟩
    · exact ⟨b3, h3, by simp; omega, by simp; omega⟩
    · exact ⟨b4, h4, by simp; omega, by simp; omega⟩
    · exact ⟨b5, h5, by simp; omega, by simp; omega⟩
    · exact ⟨b6, h6, by simp; omega, by simp; omega⟩
    · exact ⟨b7, h7, by simp; omega, by simp; omega⟩
    · omega
  obtain ⟨b, hb, e1, e2⟩ := key
  rw [e1, e2]; exact ⟨hb, rfl⟩
end Go.Proofs.Qxb6623359a
