import Derived.Test.YbulkcugyShoup
import Derived.Test.YbulkcugyDiv
namespace Go.Proofs.Ybulkcugy
open Go.RowKit

theorem eq26 (v q : Int) (w : World) : (binOp .eql 26 (.agg #[.int .u64 v, .int .u64 q]) (.agg #[.int .u64 v, .int .u64 q])).run Yba.prog w = .ok (.bool true) w := by
  simp [go_sem]
set_option maxHeartbeats 400000 in
theorem law4 (x y : Nat) (hx : x < 18446744073709551616) (hy : y < 18446744073709551616) (w : World) :
    Calls Yba.prog 4 #[.int .u64 x, .int .u64 y] w fun e w' => e = .returned (.bool true) ∧ Below w.heap.size w w' := by
  go_enter Yba.func4, Yba.ntmps4
  go_wp2_with fail
  refine (prime_any x hx _).mono ?_
  rintro e w' ⟨p, rfl, h1, h2, rfl⟩
  obtain ⟨v, hv, hvp⟩ : ∃ v : Nat, (y : Int) % (p : Int) = (v : Int) ∧ v < p := ⟨y % p, by simp, Nat.mod_lt _ (by omega)⟩
  go_wp2_with fail
  refine (recip_any p h1 h2 _).mono ?_
  rintro e w' ⟨rfl, rfl⟩
  have ht := twiddle_any w.heap.size p v h1 h2 hvp
  have hlt : 42535295865117307932921825928971026432 / p < 18446744073709551616 := by
    refine (Nat.div_lt_iff_lt_mul (by omega)).2 (by omega)
  generalize 42535295865117307932921825928971026432 / p = re at *
  obtain ⟨cs, hb, z0, z2⟩ := build42 p re
  go_wp2_with (refine wpList_build2 rfl 42 0 2 (.tmp 13) (.tmp 15) rfl (.int .u64 p) (.int .u64 re) rfl rfl _ hb ?_)
  refine (ht _ (by simp) (by simp [z0]) (by simp [z2])).mono ?_
  rintro e w' ⟨rfl, c, rfl⟩
  clear ht hv hb hlt
  go_wp2_with fail
  refine (newTwiddle_any v p h1 h2 hvp _).mono ?_
  rintro e w' ⟨rfl, hbel⟩
  have hfin : Below w.heap.size w w' := ((((Below.refl _ _).alloc (Nat.le_refl _) _).alloc (by simp) _)).trans (hbel.mono (by simp; omega))
  clear hbel
  generalize shoup v p = q at *
  have he := eq26 v q
  go_wp2_with fail
  go_ret
  exact ⟨rfl, hfin⟩
end Go.Proofs.Ybulkcugy
