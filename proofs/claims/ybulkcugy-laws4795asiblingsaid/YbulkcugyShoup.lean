import Derived.Test.YbulkcugyTwiddle
namespace Go.Proofs.Ybulkcugy
open Go.RowKit

section
variable {P : Program} {ops : Array Oper} {Q : Exit → Act → World → Prop} {a : Act} {w : World} {rest : List Oper} {o : Oper}
theorem wpList_build2 (hg : o.guard = none) (t : TypeId) (i j : Nat) (x y : Operand) (ho : o.op = .build t #[(i, x), (j, y)]) (vx vy : Value) (hx : a.eval x = vx) (hy : a.eval y = vy) (z : Value) (hr : ∀ w, (Instr.build t #[(i, vx), (j, vy)]).run P w = .ok z w)
    (h : wpList P ops Q rest (a.put o.dst z) w) : wpList P ops Q (o :: rest) a w :=
  wpList_plain hg fun K hK => by
    have e : (#[(i, x), (j, y)] : Array (Nat × Operand)).map (fun p => (p.1, a.eval p.2)) = #[(i, vx), (j, vy)] := by simp [hx, hy]
    unfold Oper.wp execOp
    simp only [ho, Sem.run_bind, Sem.run_pure, e, hr, Result.andThen_ok]
    exact hK _ _ h
end

theorem build42 (p r : Int) : ∃ cs : Array Value, (∀ w, (Instr.build 42 #[(0, .int .u64 p), (2, .int .u64 r)]).run Yba.prog w = .ok (.agg cs) w) ∧ cs[0]? = some (.int .u64 p) ∧ cs[2]? = some (.int .u64 r) :=
  ⟨((((Yba.prog.info? 42).bind (·.zero)).getD (.tuple #[])).cells.setIfInBounds 0 (.int .u64 p)).setIfInBounds 2 (.int .u64 r), fun _ => by kernel_rfl, by kernel_rfl, by kernel_rfl⟩

set_option maxHeartbeats 400000 in
theorem law3 (x y : Nat) (hx : x < 18446744073709551616) (hy : y < 18446744073709551616) (w : World) :
    Calls Yba.prog 3 #[.int .u64 x, .int .u64 y] w fun e w' => e = .returned (.bool true) ∧ Below w.heap.size w w' := by
  go_enter Yba.func3, Yba.ntmps3
  go_wp2_with fail
  refine (prime_any x hx _).mono ?_
  rintro e w' ⟨p, rfl, h1, h2, rfl⟩
  obtain ⟨v, hv, hvp⟩ : ∃ v : Nat, (y : Int) % (p : Int) = (v : Int) ∧ v < p := ⟨y % p, by simp, Nat.mod_lt _ (by omega)⟩
  go_wp2_with fail
  refine (recip_any p h1 h2 _).mono ?_
  rintro e w' ⟨rfl, rfl⟩
  have ht := twiddle_any w.heap.size p v h1 h2 hvp
  have hlt : 42535295865117307932921825928971026432 / p < 18446744073709551616 := by
    refine (Nat.div_lt_iff_lt_mul (by omega)).2 (by omega)
  generalize 42535295865117307932921825928971026432 / p = re at *
  obtain ⟨cs, hb, z0, z2⟩ := build42 p re
  go_wp2_with (refine wpList_build2 rfl 42 0 2 (.tmp 22) (.tmp 23) rfl (.int .u64 p) (.int .u64 re) rfl rfl _ hb ?_)
  refine (ht _ (by simp) (by simp [z0]) (by simp [z2])).mono ?_
  rintro e w' ⟨rfl, c, rfl⟩
  have k1 := shoup_le v p
  have k2 := shoup_lt v p (by omega)
  have k3 := shoup_small v p h2 hvp
  generalize shoup v p = q at *
  have K1 : Hid (q * p ≤ v * 18446744073709551616) := k1
  have K2 : Hid (v * 18446744073709551616 < (q + 1) * p) := k2
  clear ht k1 k2 hv hb hlt
  have hq1 : ((q : Int) == 18446744073709551615) = false := by simp; omega
  have m0 : ∀ o, (((w.alloc (.cells cs 42)).alloc (.cells c 26)).alloc o).cell? ⟨w.heap.size, 0, none⟩ = some (.int .u64 p) := fun o => by
    rw [World.cell?_alloc_past _ _ _ (by simp; omega), World.cell?_alloc_past _ _ _ (by simp)]; simp [z0]
  have m2 : ∀ o, (((w.alloc (.cells cs 42)).alloc (.cells c 26)).alloc o).cell? ⟨w.heap.size, 2, none⟩ = some (.int .u64 re) := fun o => by
    rw [World.cell?_alloc_past _ _ _ (by simp; omega), World.cell?_alloc_past _ _ _ (by simp)]; simp [z2]
  go_wp2_with fail
  refine (mul64' q p (by omega) (by omega) _).mono ?_
  rintro e w' ⟨h, l, rfl, hh, hl, he, rfl⟩
  have hcase : h < v ∨ (h = v ∧ l = 0) := by
    have a1 := he.out; have a2 := K1.out; omega
  have fin : ∀ h2 l2 : Nat, l2 < 18446744073709551616 → Hid (h2 * 18446744073709551616 + l2 = (q + 1) * p) → v < h2 ∨ (h2 = v ∧ 0 < l2) := by
    intro h2 l2 hl2 e2
    have a1 := e2.out; have a2 := K2.out; omega
  rcases hcase with g | ⟨rfl, rfl⟩
  · go_wp2_with fail
    rw [show ((q : Int) + 1) = ((q + 1 : Nat) : Int) from by omega]
    refine (mul64' (q + 1) p (by omega) (by omega) _).mono ?_
    rintro e w' ⟨h2, l2, rfl, hh2, hl2, he2, rfl⟩
    rcases fin h2 l2 hl2 he2 with g2 | ⟨rfl, g2⟩
    · clear fin
      go_wp2_with fail
      go_ret
      exact ⟨rfl, (((Below.refl _ _).alloc (Nat.le_refl _) _).alloc (by simp) _).alloc (by simp; omega) _⟩
    · clear fin
      go_wp2_with fail
      go_ret
      exact ⟨rfl, (((Below.refl _ _).alloc (Nat.le_refl _) _).alloc (by simp) _).alloc (by simp; omega) _⟩
  · go_wp2_with fail
    rw [show ((q : Int) + 1) = ((q + 1 : Nat) : Int) from by omega]
    refine (mul64' (q + 1) p (by omega) (by omega) _).mono ?_
    rintro e w' ⟨h2, l2, rfl, hh2, hl2, he2, rfl⟩
    rcases fin h2 l2 hl2 he2 with g2 | ⟨rfl, g2⟩
    · clear fin
      go_wp2_with fail
      go_ret
      exact ⟨rfl, (((Below.refl _ _).alloc (Nat.le_refl _) _).alloc (by simp) _).alloc (by simp; omega) _⟩
    · clear fin
      go_wp2_with fail
      go_ret
      exact ⟨rfl, (((Below.refl _ _).alloc (Nat.le_refl _) _).alloc (by simp) _).alloc (by simp; omega) _⟩
end Go.Proofs.Ybulkcugy
