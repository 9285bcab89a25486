import Derived.Test.YbulkcugyMul
namespace Go.Proofs.Ybulkcugy
open Go.RowKit
theorem ret_int {k : IntKind} {a b : Int} (h : a = b) : Ending.returned (.int k a) = .returned (.int k b) := by rw [h]
theorem val_int {k : IntKind} {a b : Int} (h : a = b) : Value.int k a = .int k b := by rw [h]
theorem or1 (a : Nat) (h : 2 * a + 1 < 18446744073709551616) : bits .or .u64 ((2 * a : Nat) : Int) 1 = ((2 * a + 1 : Nat) : Int) := by
  have e := bits_or_u64_nat (2 * a) 1 (by omega) (by omega)
  have e2 : 2 * a ||| 1 = 2 * a + 1 := (Nat.two_pow_add_eq_or_of_lt (i := 1) (b := 1) (by omega) a).symm
  rw [e2] at e
  exact e
theorem or1_odd (a : Nat) : (2 * a + 1) ||| 1 = 2 * a + 1 := by
  have e2 : 2 * a ||| 1 = 2 * a + 1 := (Nat.two_pow_add_eq_or_of_lt (i := 1) (b := 1) (by omega) a).symm
  rw [← e2, Nat.or_assoc]
  simp
theorem prime_num (x : Nat) (hx : x < 18446744073709551616) : ∃ p : Nat, bits .or .u64 (bits .or .u64 2305843009213693952 ((x : Int) / 8)) 1 = (p : Int) ∧ 2305843009213693952 < p ∧ p < 4611686018427387904 := by
  have e8 : (x : Int) / 8 = ((x / 8 : Nat) : Int) := by omega
  have h1 := bits_or_u64_nat 2305843009213693952 (x / 8) (by omega) (by omega)
  have h2 : 2305843009213693952 ||| (x / 8) = 2305843009213693952 + x / 8 := by
    have := Nat.two_pow_add_eq_or_of_lt (i := 61) (b := x / 8) (by omega) 1
    simpa using this.symm
  rw [h2] at h1
  rw [e8]
  have h1' : bits .or .u64 2305843009213693952 ((x / 8 : Nat) : Int) = ((2305843009213693952 + x / 8 : Nat) : Int) := h1
  rw [h1']
  by_cases hp : (x / 8) % 2 = 0
  · have e : 2305843009213693952 + x / 8 = 2 * (1152921504606846976 + x / 8 / 2) := by omega
    rw [e, or1 _ (by omega)]
    exact ⟨_, rfl, by omega, by omega⟩
  · have e : 2305843009213693952 + x / 8 = 2 * (1152921504606846976 + x / 8 / 2) + 1 := by omega
    have h3 := bits_or_u64_nat (2305843009213693952 + x / 8) 1 (by omega) (by omega)
    rw [e, or1_odd] at h3
    rw [e]
    exact ⟨_, h3, by omega, by omega⟩

theorem prime_any (x : Nat) (hx : x < 18446744073709551616) (w : World) :
    Calls Yba.prog 6 #[.int .u64 x] w fun e w' => ∃ p : Nat, e = .returned (.int .u64 p) ∧ 2305843009213693952 < p ∧ p < 4611686018427387904 ∧ w = w' := by
  obtain ⟨p, hp, h1, h2⟩ := prime_num x hx
  go_enter Yba.func6, Yba.ntmps6
  go_wp2
  go_ret
  exact ⟨p, rfl, h1, h2, rfl⟩

/-! ### the reciprocal: the long division's round, in plain numbers -/
theorem q_small (p q r n : Nat) (hp : 2305843009213693952 < p) (hn : n ≤ 124) (h : q * p + r = 2 ^ n) : 2 * q + 1 < 18446744073709551616 := by
  have hle : 2 ^ n ≤ 2 ^ 124 := Nat.pow_le_pow_right (by omega) hn
  have h124 : (2 : Nat) ^ 124 = 21267647932558653966460912964485513216 := by decide
  have hq : q < 9223372036854775808 := by
    refine Nat.lt_of_not_le fun hge => ?_
    have := Nat.mul_le_mul hge (show 2305843009213693953 ≤ p from hp)
    omega
  omega
theorem step_hi (p q r n : Nat) (h : q * p + r = 2 ^ n) (hr : p ≤ 2 * r) : (2 * q + 1) * p + (2 * r - p) = 2 ^ (n + 1) := by
  rw [Nat.pow_succ, ← h, Nat.add_mul, Nat.mul_assoc]
  omega
theorem step_lo (p q r n : Nat) (h : q * p + r = 2 ^ n) : (2 * q) * p + 2 * r = 2 ^ (n + 1) := by
  rw [Nat.pow_succ, ← h, Nat.mul_assoc]
  omega
theorem quot_is (p q r : Nat) (hr : r < p) (N : Nat) (h : q * p + r = N) : N / p = q := by
  rw [← h, Nat.mul_comm, Nat.mul_add_div (by omega), Nat.div_eq_of_lt hr, Nat.add_zero]

set_option maxHeartbeats 400000 in
theorem recip_any (p : Nat) (h1 : 2305843009213693952 < p) (h2 : p < 4611686018427387904) (w : World) :
    Calls Yba.prog 7 #[.int .u64 p] w fun e w' => e = .returned (.int .u64 ((42535295865117307932921825928971026432 / p : Nat) : Int)) ∧ w = w' := by
  go_enter Yba.func7, Yba.ntmps7
  go_wp2_with fail
  go_loop [3, 4, 5] (fun q r i => ∃ qn rn : Nat, ∃ j : Int, q = .int .u64 qn ∧ r = .int .u64 rn ∧ i = .int .i64 j ∧ -1 ≤ j ∧ j ≤ 125 ∧ rn < p ∧ ((j = 125 ∧ qn = 0 ∧ rn = 0) ∨ (j ≤ 124 ∧ qn * p + rn = 2 ^ (124 - j).toNat))) (fun _ _ i => (intOf i + 1).toNat)
  case atStart => exact ⟨0, 0, 125, rfl, rfl, rfl, by omega, by omega, by omega, .inl ⟨rfl, rfl, rfl⟩⟩
  case round =>
    obtain ⟨q, r, j, rfl, rfl, rfl, hj0, hj1, hr, hh⟩ := hrel
    by_cases hj : j < 0
    · have hj' : j = -1 := by omega
      rcases hh with ⟨h, _, _⟩ | ⟨_, hh⟩
      · omega
      have HF : Hid ((q : Int) = 42535295865117307932921825928971026432 / (p : Int)) := by
        have := quot_is p q r hr 42535295865117307932921825928971026432 (by rw [hh, hj']; decide)
        show (q : Int) = _
        rw [← this]; rfl
      clear hh hj'
      go_wp2
      go_ret
      exact ⟨ret_int HF.out, rfl⟩
    · rcases hh with ⟨rfl, rfl, rfl⟩ | ⟨hj2, hh⟩
      · have ho : bits .or .u64 0 1 = 1 := by decide
        go_wp2
        exact ⟨⟨0, 1, 124, rfl, rfl, rfl, by omega, by omega, by omega, .inr ⟨by omega, by simp⟩⟩, by simp [intOf]⟩
      · have hb : (j == 125) = false := by simp; omega
        have hq := q_small p q r _ h1 (by omega) hh
        have HH : Hid (q * p + r = 2 ^ (124 - j).toNat) := hh
        have ej : (124 - (j - 1)).toNat = (124 - j).toNat + 1 := by omega
        have EJ : Hid ((124 - (j - 1)).toNat = (124 - j).toNat + 1) := ej
        clear hh ej
        by_cases hge : p ≤ 2 * r
        · have ho := or1 q hq
          have ho2 : bits .or .u64 ((q : Int) * 2) 1 = ((2 * q + 1 : Nat) : Int) := by rw [← ho]; congr 1; omega
          have HO : Hid (bits .or .u64 ((q : Int) * 2) 1 = ((2 * q + 1 : Nat) : Int)) := ho2
          clear ho ho2
          go_wp2
          exact ⟨⟨2 * q + 1, 2 * r - p, j - 1, val_int HO.out, val_int (by omega), rfl, by omega, by omega, by omega, .inr ⟨by omega, by rw [EJ.out]; exact step_hi p q r _ HH.out hge⟩⟩, by simp [intOf]; omega⟩
        · go_wp2
          exact ⟨⟨2 * q, 2 * r, j - 1, val_int (by omega), val_int (by omega), rfl, by omega, by omega, by omega, .inr ⟨by omega, by rw [EJ.out]; exact step_lo p q r _ HH.out⟩⟩, by simp [intOf]; omega⟩
end Go.Proofs.Ybulkcugy
