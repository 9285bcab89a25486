import Derived.Test.YbulkcugyRecip
namespace Go.Proofs.Ybulkcugy
open Go.RowKit

theorem mul64' (x y : Nat) (hx : x < 18446744073709551616) (hy : y < 18446744073709551616) (w : World) :
    Calls Yba.prog 9 #[.int .u64 x, .int .u64 y] w fun e w' => ∃ h l : Nat, e = .returned (.tuple #[.int .u64 h, .int .u64 l]) ∧ h < 18446744073709551616 ∧ l < 18446744073709551616 ∧ Hid (h * 18446744073709551616 + l = x * y) ∧ w = w' := by
  refine (mul64 x y hx hy w).mono ?_
  rintro e w' ⟨rfl, rfl⟩
  have hb : x * y < 18446744073709551616 * 18446744073709551616 := Nat.mul_lt_mul_of_le_of_lt (Nat.le_of_lt hx) hy (by omega)
  exact ⟨_, _, rfl, by omega, by omega, (show _ = _ by omega), rfl⟩

/-! ### plain numbers -/
def K : Nat := 18446744073709551616
/-- the Shoup companion -/
def shoup (v p : Nat) : Nat := v * 18446744073709551616 / p
theorem shoup_le (v p : Nat) : shoup v p * p ≤ v * 18446744073709551616 := Nat.div_mul_le_self _ _
theorem shoup_lt (v p : Nat) (hp : 0 < p) : v * 18446744073709551616 < (shoup v p + 1) * p := by
  have := Nat.lt_mul_div_succ (v * 18446744073709551616) hp
  rw [Nat.mul_comm p] at this
  exact this
theorem shoup_small (v p : Nat) (h2 : p < 4611686018427387904) (hv : v < p) : shoup v p + 1 < 18446744073709551616 := by
  have h := shoup_le v p
  refine Nat.lt_of_not_le fun hge => ?_
  have h1 : 18446744073709551615 ≤ shoup v p := by omega
  have h3 := Nat.mul_le_mul_right p h1
  have h4 : v + 1 ≤ p := hv
  have h5 := Nat.mul_le_mul_left 18446744073709551615 h4
  omega
theorem shoup_unique (v p q : Nat) (h1 : q ≤ shoup v p) (h2 : v * 18446744073709551616 < (q + 1) * p) : q = shoup v p := by
  refine Nat.le_antisymm h1 (Nat.le_of_lt_succ ?_)
  have h3 := Nat.lt_of_le_of_lt (shoup_le v p) h2
  exact Nat.lt_of_mul_lt_mul_right h3
theorem shoup_next (v p q : Nat) (hp : 0 < p) (h2 : (q + 1) * p ≤ v * 18446744073709551616) : q + 1 ≤ shoup v p :=
  (Nat.le_div_iff_mul_le hp).2 h2
theorem start_le (v p : Nat) (hp : 0 < p) : v * (42535295865117307932921825928971026432 / p) / 2305843009213693952 ≤ shoup v p := by
  refine (Nat.le_div_iff_mul_le hp).2 ?_
  have h1 : 42535295865117307932921825928971026432 / p * p ≤ 42535295865117307932921825928971026432 := Nat.div_mul_le_self _ _
  have h2 := Nat.mul_le_mul_left v h1
  rw [← Nat.mul_assoc] at h2
  generalize v * (42535295865117307932921825928971026432 / p) = a at *
  have h3 : a / 2305843009213693952 * 2305843009213693952 ≤ a := Nat.div_mul_le_self _ _
  have h4 := Nat.mul_le_mul_right p h3
  rw [Nat.mul_right_comm] at h4
  generalize a / 2305843009213693952 * p = b at *
  omega
theorem or8 (h l : Nat) (hl : l < 8) (hh : h * 8 + l < 18446744073709551616) : bits .or .u64 ((h * 8 : Nat) : Int) (l : Int) = ((h * 8 + l : Nat) : Int) := by
  have e := bits_or_u64_nat (h * 8) l (by omega) (by omega)
  have e2 := Nat.two_pow_add_eq_or_of_lt (i := 3) (b := l) (by omega) h
  have e3 : h * 8 ||| l = h * 8 + l := by
    rw [Nat.mul_comm h 8]
    exact e2.symm
  rw [e3] at e
  exact e
theorem start_num (h l a : Nat) (hl : l < 18446744073709551616) (e : h * 18446744073709551616 + l = a) (hs : a / 2305843009213693952 < 18446744073709551616) :
    bits .or .u64 (IntKind.u64.wrap ((h : Int) * 8)) ((l : Int) / 2305843009213693952) = ((a / 2305843009213693952 : Nat) : Int) := by
  have e1 : a / 2305843009213693952 = h * 8 + l / 2305843009213693952 := by omega
  rw [e1] at hs ⊢
  have e2 : IntKind.u64.wrap ((h : Int) * 8) = ((h * 8 : Nat) : Int) := by rw [IntKind.wrap_u64]; omega
  have e3 : (l : Int) / 2305843009213693952 = ((l / 2305843009213693952 : Nat) : Int) := by omega
  rw [e2, e3]
  exact or8 _ _ (by omega) hs

set_option maxHeartbeats 400000 in
theorem twiddle_any (mb p v : Nat) (h1 : 2305843009213693952 < p) (h2 : p < 4611686018427387904) (hv : v < p) (w : World) (hmb : mb < w.heap.size)
    (c0 : w.cell? ⟨mb, 0, none⟩ = some (.int .u64 p)) (c2 : w.cell? ⟨mb, 2, none⟩ = some (.int .u64 ((42535295865117307932921825928971026432 / p : Nat) : Int))) :
    Calls Yba.prog 8 #[.pointer (some ⟨mb, 0, none⟩), .int .u64 v] w fun e w' => e = .returned (.agg #[.int .u64 v, .int .u64 (shoup v p)]) ∧ ∃ c, w' = w.alloc (.cells c 26) := by
  have hre : 42535295865117307932921825928971026432 / p < 18446744073709551616 := by
    refine (Nat.div_lt_iff_lt_mul (by omega)).2 (by omega)
  have hst := start_le v p (by omega)
  have hsm := shoup_small v p h2 hv
  generalize hre' : 42535295865117307932921825928971026432 / p = re at *
  clear hre'
  have d0 : (w.alloc (.cells #[.int .u64 0, .int .u64 0] 26)).cell? ⟨mb, 0, none⟩ = some (.int .u64 p) := (World.cell?_alloc_past _ _ _ hmb).trans c0
  have d2 : (w.alloc (.cells #[.int .u64 0, .int .u64 0] 26)).cell? ⟨mb, 2, none⟩ = some (.int .u64 re) := (World.cell?_alloc_past _ _ _ hmb).trans c2
  go_enter Yba.func8, Yba.ntmps8
  go_wp2_with fail
  refine (mul64' v re (by omega) (by omega) _).mono ?_
  rintro e w' ⟨hi, lo, rfl, hhi, hlo, he, rfl⟩
  have hnum := start_num hi lo (v * re) hlo he.out (by omega)
  generalize v * re / 2305843009213693952 = q0 at *
  go_wp2_with fail
  clear hnum
  go_loop [7, 8, 9] (fun q _ _ => ∃ qn : Nat, q = .int .u64 qn ∧ qn ≤ shoup v p) (fun q _ _ => (shoup v p - (intOf q).toNat))
  case atStart => exact ⟨q0, rfl, hst⟩
  case round =>
    obtain ⟨q, rfl, hq⟩ := hrel
    go_wp2_with fail
    rw [show ((q : Int) + 1) = ((q + 1 : Nat) : Int) from by omega]
    refine (mul64' (q + 1) p (by omega) (by omega) _).mono ?_
    rintro e w' ⟨h, l, rfl, hh, hl, he2, rfl⟩
    by_cases g1 : v < h
    · have HQ : Hid (q = shoup v p) := shoup_unique v p q hq (by rw [← he2.out]; omega)
      go_wp2_with fail
      exact bodyPost_ret (v := .agg #[.int .u64 v, .int .u64 q]) (by simp [results, Yba.results8, go_sem]) rfl ⟨by rw [HQ.out], _, rfl⟩
    · by_cases g2 : v = h
      · subst g2
        by_cases g3 : 0 < l
        · have HQ : Hid (q = shoup v p) := shoup_unique v p q hq (by rw [← he2.out]; omega)
          go_wp2_with fail
          exact bodyPost_ret (v := .agg #[.int .u64 v, .int .u64 q]) (by simp [results, Yba.results8, go_sem]) rfl ⟨by rw [HQ.out], _, rfl⟩
        · have hq2 := shoup_next v p q (by omega) (by rw [← he2.out]; omega)
          go_wp2_with fail
          exact ⟨⟨q + 1, by go_num, hq2⟩, by simp [intOf]; omega⟩
      · have hq2 := shoup_next v p q (by omega) (by rw [← he2.out]; omega)
        have hb : ((h : Int) == v) = false := by simp; omega
        go_wp2_with fail
        exact ⟨⟨q + 1, by go_num, hq2⟩, by simp [intOf]; omega⟩
end Go.Proofs.Ybulkcugy
