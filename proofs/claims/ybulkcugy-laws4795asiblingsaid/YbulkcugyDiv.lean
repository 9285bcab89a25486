import Derived.Test.YbulkcugyTwiddle
import Derived.Test.YbulkcugyShelf
import Derived.Lib.BitFns
import Derived.RegionTactic
import Derived.Deep.DeepCutAuto
import Derived.Deep.CutBlock
namespace Go.Proofs.Ybulkcugy
open Go.RowKit

theorem bitLen6 : ∀ n : Fin 64, 32 ≤ n.val → Lib.bitLen n.val = 6 := by decide +kernel
theorem bitLen62 (p : Nat) (h1 : 2305843009213693952 < p) (h2 : p < 4611686018427387904) : Lib.bitLen p = 62 := by
  rw [Lib.bitLen_shift56 p (by omega) (by omega)]
  have := bitLen6 ⟨p / 72057594037927936, by omega⟩ (by simp; omega)
  simp only at this
  rw [this]

theorem lz64_any (p : Nat) (h1 : 2305843009213693952 < p) (h2 : p < 4611686018427387904) (w : World) :
    Calls Yba.prog 20 #[.int .u64 p] w fun e w' => e = .returned (.int .i64 2) ∧ w = w' := by
  have hb := bitLen62 p h1 h2
  go_enter Yba.func20, Yba.ntmps20
  go_wp2_with fail
  refine (Yba.bits_Len64 p _ (by omega) (by omega)).mono ?_
  rintro e w' ⟨rfl, rfl⟩
  rw [Int.toNat_natCast, hb]
  go_wp2_with fail
  go_ret
  exact ⟨rfl, rfl⟩


theorem or0 (a : Nat) (h : a < 18446744073709551616) : bits .or .u64 (a : Int) 0 = (a : Int) := by
  have e := bits_or_u64_nat a 0 h (by omega)
  rw [Nat.or_zero] at e
  exact e


/-! ### one digit of the long division, in plain numbers: Y = N1 * 2^32 + N0 -/
theorem dg_start (U Y N1 N0 : Nat) (hY : Y = N1 * 4294967296 + N0) (hN : 0 < N1) : U * 4294967296 / Y ≤ U / N1 := by
  refine (Nat.le_div_iff_mul_le hN).2 ?_
  have h1 : U * 4294967296 / Y * Y ≤ U * 4294967296 := Nat.div_mul_le_self _ _
  generalize U * 4294967296 / Y = q at *
  rw [hY, Nat.mul_add, ← Nat.mul_assoc] at h1
  generalize q * N1 = A at *
  generalize q * N0 = B at *
  omega
theorem dg_small (U Y : Nat) (h : U < Y) : U * 4294967296 / Y < 4294967296 := by
  refine (Nat.div_lt_iff_lt_mul (by omega)).2 ?_
  rw [Nat.mul_comm 4294967296]
  exact Nat.mul_lt_mul_of_pos_right h (by omega)
theorem dg_gt (U Y N1 N0 q r : Nat) (hY : Y = N1 * 4294967296 + N0) (h : q * N1 + r = U) (h0 : 0 < N1) (ht : 4294967296 * r < q * N0) : U * 4294967296 / Y < q := by
  refine (Nat.div_lt_iff_lt_mul (by omega)).2 ?_
  rw [hY, Nat.mul_add, ← Nat.mul_assoc]
  generalize q * N1 = A at *
  generalize q * N0 = B at *
  omega
theorem dg_le (U Y N1 N0 q r : Nat) (hY : Y = N1 * 4294967296 + N0) (h : q * N1 + r = U) (h0 : 0 < N1) (ht : q * N0 ≤ 4294967296 * r) : q ≤ U * 4294967296 / Y := by
  refine (Nat.le_div_iff_mul_le (by omega)).2 ?_
  rw [hY, Nat.mul_add, ← Nat.mul_assoc]
  generalize q * N1 = A at *
  generalize q * N0 = B at *
  omega
theorem dg_break (U Y N1 N0 q r : Nat) (hY : Y = N1 * 4294967296 + N0) (h : q * N1 + r = U) (hN0 : N0 < 4294967296) (hU : U < Y) (ht : 4294967296 ≤ r) : q ≤ U * 4294967296 / Y := by
  have hq : q < 4294967296 := by
    refine Nat.lt_of_mul_lt_mul_right (a := N1) ?_
    rw [Nat.mul_comm 4294967296 N1]
    generalize q * N1 = A at *
    omega
  have hB : q * N0 ≤ 4294967296 * 4294967296 := Nat.mul_le_mul (Nat.le_of_lt hq) (Nat.le_of_lt hN0)
  refine (Nat.le_div_iff_mul_le (by omega)).2 ?_
  rw [hY, Nat.mul_add, ← Nat.mul_assoc]
  generalize q * N1 = A at *
  generalize q * N0 = B at *
  omega
theorem dg_down (N1 q r U : Nat) (h : q * N1 + r = U) (hq : 0 < q) : (q - 1) * N1 + (r + N1) = U := by
  obtain ⟨k, rfl⟩ : ∃ k, q = k + 1 := ⟨q - 1, by omega⟩
  rw [Nat.add_mul] at h
  simp only [Nat.add_sub_cancel]
  omega
/-- the two digits together -/
theorem dg_two (v p U Y T : Nat) (hU : U = 4 * v) (hY : Y = 4 * p) (hp : 0 < p) : U * T / Y * T + (U * T % Y) * T / Y = v * (T * T) / p := by
  have e : v * (T * T) / p = (4 * (v * (T * T))) / (4 * p) := (Nat.mul_div_mul_left _ _ (by omega)).symm
  have e2 : 4 * (v * (T * T)) = U * T * T := by rw [hU, Nat.mul_assoc 4 v T, Nat.mul_assoc 4, Nat.mul_assoc v]
  rw [e, e2, ← hY]
  have hd := Nat.div_add_mod (U * T) Y
  generalize U * T / Y = q at *
  generalize U * T % Y = r at *
  rw [← hd, Nat.add_mul, Nat.mul_assoc, Nat.mul_add_div (by omega)]
theorem wrap_diff (a b r : Nat) (h : a = b + r) (hr : r < 18446744073709551616) : IntKind.u64.wrap (IntKind.u64.wrap (a : Int) - IntKind.u64.wrap (b : Int)) = (r : Int) := by
  rw [IntKind.wrap_u64, IntKind.wrap_u64, IntKind.wrap_u64]
  omega

set_option maxRecDepth 100000 in
set_option maxHeartbeats 1000000 in
theorem div64_any (v p : Nat) (h1 : 2305843009213693952 < p) (h2 : p < 4611686018427387904) (hv : v < p) (hv0 : 0 < v) (w : World) :
    Calls Yba.prog 15 #[.int .u64 v, .int .u64 0, .int .u64 p] w fun e w' => ∃ r : Int, e = .returned (.tuple #[.int .u64 (shoup v p), .int .u64 r]) ∧ w = w' := by
  have hp0 : ((p : Int) == 0) = false := by simp; omega
  have hv0' : ((v : Int) == 0) = false := by simp; omega
  obtain ⟨U, hU⟩ : ∃ U : Nat, U = 4 * v := ⟨_, rfl⟩
  obtain ⟨Y, hY⟩ : ∃ Y : Nat, Y = 4 * p := ⟨_, rfl⟩
  obtain ⟨N1, hN1⟩ : ∃ N1 : Nat, N1 = Y / 4294967296 := ⟨_, rfl⟩
  obtain ⟨N0, hN0⟩ : ∃ N0 : Nat, N0 = Y % 4294967296 := ⟨_, rfl⟩
  have hUY : U < Y := by omega
  have hY2 : Y < 18446744073709551616 := by omega
  have hNl : 2147483648 ≤ N1 := by omega
  have hNh : N1 < 4294967296 := by omega
  have hN0h : N0 < 4294967296 := by omega
  have hYN : Hid (Y = N1 * 4294967296 + N0) := by show _ = _; omega
  have HU : Hid (U = 4 * v) := hU
  have HY : Hid (Y = 4 * p) := hY
  have r1 : (p : Int) * 4 = (Y : Int) := by omega
  have r2 : (v : Int) * 4 = (U : Int) := by omega
  have r3 : (Y : Int) / 4294967296 = (N1 : Int) := by omega
  have r4 : bits .and .u64 (Y : Int) 4294967295 = (N0 : Int) := by rw [maskN Y (by omega)]; omega
  have r5 : bits .or .u64 (U : Int) 0 = (U : Int) := or0 U (by omega)
  have r6 : bits .and .u64 0 4294967295 = 0 := by decide
  clear hU hY hN1 hN0
  -- the first guess of the first digit
  obtain ⟨q, hq⟩ : ∃ q : Nat, q = U / N1 := ⟨_, rfl⟩
  obtain ⟨m, hm⟩ : ∃ m : Nat, m = q * N1 := ⟨_, rfl⟩
  obtain ⟨r, hr⟩ : ∃ r : Nat, r = U % N1 := ⟨_, rfl⟩
  have hd : m + r = U := by rw [hm, hq, hr]; exact Nat.div_add_mod' U N1
  have hrl : r < N1 := by rw [hr]; exact Nat.mod_lt _ (by omega)
  have hql : q ≤ U := by rw [hq]; exact Nat.div_le_self _ _
  have hqd : U * 4294967296 / Y ≤ q := by rw [hq]; exact dg_start U Y N1 N0 hYN.out (by omega)
  have r7 : IntKind.u64.wrap ((U : Int) / (N1 : Int)) = (q : Int) := by rw [IntKind.wrap_u64, hq, ← Int.natCast_ediv]; omega
  have r8 : IntKind.u64.wrap ((q : Int) * (N1 : Int)) = (m : Int) := by rw [IntKind.wrap_u64, ← Int.natCast_mul, ← hm]; omega
  have r9 : IntKind.u64.wrap ((U : Int) - (m : Int)) = (r : Int) := by rw [IntKind.wrap_u64]; omega
  have HD : Hid (q * N1 + r = U) := by show _ = _; rw [← hm]; exact hd
  clear hq hm hr
  go_enter Yba.func15, Yba.ntmps15
  go_wp2_with fail
  refine (lz64_any p h1 h2 _).mono ?_
  rintro e w' ⟨rfl, rfl⟩
  go_upto_block 0 with fail
  clear r1 r2 r3 r4 r5 r6 r7 r8 r9 hd hp0 hv0'
  obtain ⟨Q1, hQ1⟩ : ∃ Q1 : Nat, Q1 = U * 4294967296 / Y := ⟨_, rfl⟩
  have HQ1 : Hid (Q1 = U * 4294967296 / Y) := hQ1
  have hQs : Q1 < 4294967296 := by rw [hQ1]; exact dg_small U Y hUY
  rw [← hQ1] at hqd
  clear hQ1
  go_cut [15, 16] (fun q' _ wx => q' = .int .u64 Q1 ∧ w = wx)
  case first =>
    go_wp2_with fail
    go_loop [15, 16] (fun a b => ∃ q r : Nat, a = .int .u64 q ∧ b = .int .u64 r ∧ Hid (q * N1 + r = U) ∧ Q1 ≤ q ∧ q ≤ U ∧ r < 4294967296) (fun a _ => (intOf a).toNat)
    case atStart => exact ⟨q, r, rfl, rfl, HD, hqd, hql, by omega⟩
    case round =>
      clear hqd hql hrl HD
      obtain ⟨q, r, rfl, rfl, HD, hqd, hql, hrl⟩ := hrel
      by_cases c1 : (4294967296 : Int) ≤ (q : Int)
      · have hd := dg_down N1 q r U HD.out (by omega)
        have HD2 : Hid ((q - 1) * N1 + (r + N1) = U) := hd
        clear hd HD
        by_cases c3 : (4294967296 : Int) ≤ (r : Int) + (N1 : Int)
        · have hb := dg_break U Y N1 N0 (q - 1) (r + N1) hYN.out HD2.out hN0h hUY (by omega)
          rw [← HQ1.out] at hb
          have HE : Hid ((q : Int) - 1 = Q1) := by show _ = _; omega
          clear hb
          go_wp2_with fail
          go_meet
          exact ⟨val_int HE.out, rfl⟩
        · go_wp2_with fail
          exact ⟨⟨q - 1, r + N1, val_int (by omega), val_int (by omega), HD2, by omega, by omega, by omega⟩, by simp [intOf]; omega⟩
      · obtain ⟨m2, hm2⟩ : ∃ m2 : Nat, m2 = q * N0 := ⟨_, rfl⟩
        have hm2l : m2 < 18446744073709551616 := by
          rw [hm2]
          exact Nat.lt_of_le_of_lt (Nat.mul_le_mul (show q ≤ 4294967295 by omega) (show N0 ≤ 4294967295 by omega)) (by omega)
        have r1 : IntKind.u64.wrap ((q : Int) * (N0 : Int)) = (m2 : Int) := by rw [IntKind.wrap_u64, ← Int.natCast_mul, ← hm2]; omega
        have HM : Hid (m2 = q * N0) := hm2
        clear hm2
        by_cases c2 : 4294967296 * (r : Int) < (m2 : Int)
        · have hgt := dg_gt U Y N1 N0 q r hYN.out HD.out (by omega) (by rw [← HM.out]; omega)
          rw [← HQ1.out] at hgt
          have hd := dg_down N1 q r U HD.out (by omega)
          have HD2 : Hid ((q - 1) * N1 + (r + N1) = U) := hd
          clear hd HD
          by_cases c3 : (4294967296 : Int) ≤ (r : Int) + (N1 : Int)
          · have hb := dg_break U Y N1 N0 (q - 1) (r + N1) hYN.out HD2.out hN0h hUY (by omega)
            rw [← HQ1.out] at hb
            have HE : Hid ((q : Int) - 1 = Q1) := by show _ = _; omega
            clear hb
            go_wp2_with fail
            go_meet
            exact ⟨val_int HE.out, rfl⟩
          · go_wp2_with fail
            exact ⟨⟨q - 1, r + N1, val_int (by omega), val_int (by omega), HD2, by omega, by omega, by omega⟩, by simp [intOf]; omega⟩
        · have hb := dg_le U Y N1 N0 q r hYN.out HD.out (by omega) (by rw [← HM.out]; omega)
          rw [← HQ1.out] at hb
          have HE : Hid ((q : Int) = Q1) := by show _ = _; omega
          clear hb
          go_wp2_with fail
          go_meet
          exact ⟨val_int HE.out, rfl⟩
  case rest =>
    obtain ⟨rfl, rfl⟩ := hcut
    clear hqd hql hrl HD
    obtain ⟨R, hR⟩ : ∃ R : Nat, R = U * 4294967296 % Y := ⟨_, rfl⟩
    have hRY : R < Y := by rw [hR]; exact Nat.mod_lt _ (by omega)
    have HR : Hid (R = U * 4294967296 % Y) := hR
    have hUQ : U * 4294967296 = Q1 * Y + R := by rw [HQ1.out, hR]; exact (Nat.div_add_mod' _ _).symm
    clear hR
    obtain ⟨C, hC⟩ : ∃ C : Nat, C = Q1 * Y := ⟨_, rfl⟩
    obtain ⟨A, hA⟩ : ∃ A : Nat, A = U * 4294967296 % 18446744073709551616 := ⟨_, rfl⟩
    obtain ⟨B, hB⟩ : ∃ B : Nat, B = C % 18446744073709551616 := ⟨_, rfl⟩
    rw [← hC] at hUQ
    have s0 : IntKind.u64.wrap ((U : Int) * 4294967296) = (A : Int) := by rw [IntKind.wrap_u64]; omega
    have s1 : IntKind.u64.wrap ((Q1 : Int) * (Y : Int)) = (B : Int) := by rw [IntKind.wrap_u64, ← Int.natCast_mul, ← hC]; omega
    have s2 : IntKind.u64.wrap ((A : Int) - (B : Int)) = (R : Int) := by rw [IntKind.wrap_u64]; omega
    have s3 : IntKind.u64.wrap (A : Int) = (A : Int) := by rw [IntKind.wrap_u64]; omega
    clear hUQ hA hB hC C
    -- the first guess of the second digit
    obtain ⟨q, hq⟩ : ∃ q : Nat, q = R / N1 := ⟨_, rfl⟩
    obtain ⟨m, hm⟩ : ∃ m : Nat, m = q * N1 := ⟨_, rfl⟩
    obtain ⟨r, hr⟩ : ∃ r : Nat, r = R % N1 := ⟨_, rfl⟩
    have hd : m + r = R := by rw [hm, hq, hr]; exact Nat.div_add_mod' R N1
    have hrl : r < N1 := by rw [hr]; exact Nat.mod_lt _ (by omega)
    have hql : q ≤ R := by rw [hq]; exact Nat.div_le_self _ _
    have hqd : R * 4294967296 / Y ≤ q := by rw [hq]; exact dg_start R Y N1 N0 hYN.out (by omega)
    have r7 : IntKind.u64.wrap ((R : Int) / (N1 : Int)) = (q : Int) := by rw [IntKind.wrap_u64, hq, ← Int.natCast_ediv]; omega
    have r8 : IntKind.u64.wrap ((q : Int) * (N1 : Int)) = (m : Int) := by rw [IntKind.wrap_u64, ← Int.natCast_mul, ← hm]; omega
    have r9 : IntKind.u64.wrap ((R : Int) - (m : Int)) = (r : Int) := by rw [IntKind.wrap_u64]; omega
    have HD : Hid (q * N1 + r = R) := by show _ = _; rw [← hm]; exact hd
    clear hq hm hr
    go_upto_block 2 with fail
    clear s0 s1 s2 s3 r7 r8 r9 hd
    obtain ⟨Q0, hQ0⟩ : ∃ Q0 : Nat, Q0 = R * 4294967296 / Y := ⟨_, rfl⟩
    have HQ0 : Hid (Q0 = R * 4294967296 / Y) := hQ0
    have hQ0s : Q0 < 4294967296 := by rw [hQ0]; exact dg_small R Y hRY
    rw [← hQ0] at hqd
    clear hQ0
    go_cut [18, 16] (fun q' _ wx => q' = .int .u64 Q0 ∧ w = wx)
    case first =>
      go_wp2_with fail
      go_loop [18, 16] (fun a b => ∃ q r : Nat, a = .int .u64 q ∧ b = .int .u64 r ∧ Hid (q * N1 + r = R) ∧ Q0 ≤ q ∧ q ≤ R ∧ r < 4294967296) (fun a _ => (intOf a).toNat)
      case atStart => exact ⟨q, r, rfl, rfl, HD, hqd, hql, by omega⟩
      case round =>
        clear hqd hql hrl HD
        obtain ⟨q, r, rfl, rfl, HD, hqd, hql, hrl⟩ := hrel
        by_cases c1 : (4294967296 : Int) ≤ (q : Int)
        · have hd := dg_down N1 q r R HD.out (by omega)
          have HD2 : Hid ((q - 1) * N1 + (r + N1) = R) := hd
          clear hd HD
          by_cases c3 : (4294967296 : Int) ≤ (r : Int) + (N1 : Int)
          · have hb := dg_break R Y N1 N0 (q - 1) (r + N1) hYN.out HD2.out hN0h hRY (by omega)
            rw [← HQ0.out] at hb
            have HE : Hid ((q : Int) - 1 = Q0) := by show _ = _; omega
            clear hb
            go_wp2_with fail
            go_meet
            exact ⟨val_int HE.out, rfl⟩
          · go_wp2_with fail
            exact ⟨⟨q - 1, r + N1, val_int (by omega), val_int (by omega), HD2, by omega, by omega, by omega⟩, by simp [intOf]; omega⟩
        · obtain ⟨m2, hm2⟩ : ∃ m2 : Nat, m2 = q * N0 := ⟨_, rfl⟩
          have hm2l : m2 < 18446744073709551616 := by
            rw [hm2]
            exact Nat.lt_of_le_of_lt (Nat.mul_le_mul (show q ≤ 4294967295 by omega) (show N0 ≤ 4294967295 by omega)) (by omega)
          have r1 : IntKind.u64.wrap ((q : Int) * (N0 : Int)) = (m2 : Int) := by rw [IntKind.wrap_u64, ← Int.natCast_mul, ← hm2]; omega
          have HM : Hid (m2 = q * N0) := hm2
          clear hm2
          by_cases c2 : 4294967296 * (r : Int) < (m2 : Int)
          · have hgt := dg_gt R Y N1 N0 q r hYN.out HD.out (by omega) (by rw [← HM.out]; omega)
            rw [← HQ0.out] at hgt
            have hd := dg_down N1 q r R HD.out (by omega)
            have HD2 : Hid ((q - 1) * N1 + (r + N1) = R) := hd
            clear hd HD
            by_cases c3 : (4294967296 : Int) ≤ (r : Int) + (N1 : Int)
            · have hb := dg_break R Y N1 N0 (q - 1) (r + N1) hYN.out HD2.out hN0h hRY (by omega)
              rw [← HQ0.out] at hb
              have HE : Hid ((q : Int) - 1 = Q0) := by show _ = _; omega
              clear hb
              go_wp2_with fail
              go_meet
              exact ⟨val_int HE.out, rfl⟩
            · go_wp2_with fail
              exact ⟨⟨q - 1, r + N1, val_int (by omega), val_int (by omega), HD2, by omega, by omega, by omega⟩, by simp [intOf]; omega⟩
          · have hb := dg_le R Y N1 N0 q r hYN.out HD.out (by omega) (by rw [← HM.out]; omega)
            rw [← HQ0.out] at hb
            have HE : Hid ((q : Int) = Q0) := by show _ = _; omega
            clear hb
            go_wp2_with fail
            go_meet
            exact ⟨val_int HE.out, rfl⟩
    case rest =>
      obtain ⟨rfl, rfl⟩ := hcut
      clear hqd hql hrl HD
      go_wp2_with fail
      go_ret2
      refine ⟨_, congrArg (fun x : Int => Ending.returned (.tuple #[.int .u64 x, .int .u64 _])) ?_, rfl⟩
      have e := dg_two v p U Y 4294967296 HU.out HY.out (by omega)
      rw [← HR.out, ← HQ1.out, ← HQ0.out, show (4294967296 * 4294967296 : Nat) = 18446744073709551616 from by decide] at e
      unfold shoup
      omega

/-- the high word is nought: the quotient is nought -/
theorem div64_nought (p : Nat) (h1 : 2305843009213693952 < p) (w : World) :
    Calls Yba.prog 15 #[.int .u64 0, .int .u64 0, .int .u64 p] w fun e w' => e = .returned (.tuple #[.int .u64 0, .int .u64 0]) ∧ w.drew = w' := by
  have hp0 : ((p : Int) == 0) = false := by simp; omega
  have hp1 : ¬ (p : Int) = 0 := by omega
  have hp2 : ¬ (p : Int) ≤ 0 := by omega
  go_enter Yba.func15, Yba.ntmps15
  go_wp2_with fail
  go_region
  go_wp2_with fail
  go_ret2
  exact ⟨rfl, rfl⟩

set_option maxHeartbeats 400000 in
theorem newTwiddle_any (v p : Nat) (h1 : 2305843009213693952 < p) (h2 : p < 4611686018427387904) (hv : v < p) (w : World) :
    Calls Yba.prog 10 #[.int .u64 v, .int .u64 p] w fun e w' => e = .returned (.agg #[.int .u64 v, .int .u64 (shoup v p)]) ∧ Below w.heap.size w w' := by
  by_cases h0 : v = 0
  · subst h0
    have e0 : shoup 0 p = 0 := by simp [shoup]
    have HE : Hid (shoup 0 p = 0) := e0
    clear e0
    go_enter Yba.func10, Yba.ntmps10
    go_wp2_with fail
    refine (div64_nought p h1 _).mono ?_
    rintro e w' ⟨rfl, rfl⟩
    go_wp2_with fail
    exact bodyPost_ret (v := .agg #[.int .u64 0, .int .u64 0]) (by simp [results, Yba.results10, go_sem]) rfl ⟨by rw [HE.out]; rfl, ((Below.refl _ _).alloc (Nat.le_refl _) _).drew⟩
  · go_enter Yba.func10, Yba.ntmps10
    go_wp2_with fail
    refine (div64_any v p h1 h2 hv (by omega) _).mono ?_
    rintro e w' ⟨r, rfl, rfl⟩
    go_wp2_with fail
    exact bodyPost_ret (v := .agg #[.int .u64 v, .int .u64 (shoup v p)]) (by simp [results, Yba.results10, go_sem]) rfl ⟨rfl, (Below.refl _ _).alloc (Nat.le_refl _) _⟩
end Go.Proofs.Ybulkcugy
