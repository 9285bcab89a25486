import Derived.Test.YbulkcuegFmtSrc
namespace Go.Proofs.YbulkcuegFmt
open Go.RowKit

theorem swp_rot (D : Nat → Int) {i j : Nat} (h : j < i) : swp D i j = rot (rot D j (j + 1) (i + 1)) j (i - 1) i := by
  funext x
  simp only [rot, swp]
  repeat' split
  all_goals first | rfl | (exfalso; omega) | (congr 1; omega)
theorem swp_self (D : Nat → Int) (i : Nat) : swp D i i = D := by
  funext x
  simp only [swp]
  repeat' split
  all_goals first | rfl | (exfalso; omega) | (congr 1; omega)
theorem swp_perm (D : Nat → Int) {a b i j : Nat} (h1 : a ≤ j) (h2 : j ≤ i) (h3 : i < b) : (seg (swp D i j) a b).Perm (seg D a b) := by
  by_cases e : j = i
  · rw [e, swp_self]
  · rw [swp_rot D (show j < i by omega)]
    exact (rot_perm _ h1 (by omega) (by omega) (by omega)).trans (rot_perm D h1 (by omega) (by omega) (by omega))

/-- grown, but for two blocks -/
structure Gr2 (W W' : World) (b1 b2 : Nat) : Prop where
  os : W'.os = W.os
  tape : W'.tape = W.tape
  output : W'.output = W.output
  size : W.heap.size ≤ W'.heap.size
  block : ∀ k, k < W.heap.size → k ≠ b1 → k ≠ b2 → W'.heap[k]? = W.heap[k]?
theorem Gr2.refl (W : World) (b1 b2 : Nat) : Gr2 W W b1 b2 := ⟨rfl, rfl, rfl, Nat.le_refl _, fun _ _ _ _ => rfl⟩
theorem Gr2.left {W W' W2 : World} {b1 b2 : Nat} (h : Gr2 W W' b1 b2) (g : W'.grownBy W2 (some b1)) : Gr2 W W2 b1 b2 :=
  ⟨g.os.trans h.os, g.tape.trans h.tape, g.output.trans h.output, Nat.le_trans h.size g.size, fun k hk h1 h2 => (g.block k (Nat.lt_of_lt_of_le hk h.size) (by simpa using h1)).trans (h.block k hk h1 h2)⟩
theorem Gr2.right {W W' W2 : World} {b1 b2 : Nat} (h : Gr2 W W' b1 b2) (g : W'.grownBy W2 (some b2)) : Gr2 W W2 b1 b2 :=
  ⟨g.os.trans h.os, g.tape.trans h.tape, g.output.trans h.output, Nat.le_trans h.size g.size, fun k hk h1 h2 => (g.block k (Nat.lt_of_lt_of_le hk h.size) (by simpa using h2)).trans (h.block k hk h1 h2)⟩
theorem Src.set {W : World} {sb : Nat} {va : Option Addr} {nv vcap : Nat} {vals : Nat → Int} {k bl i : Nat} (h : Src W sb va nv vcap vals k) (v : Value) (hne : sb ≠ bl) (hvb : ∀ b o, va = some ⟨b, o, none⟩ → b ≠ bl) : Src (W.setCell ⟨bl, i, none⟩ v) sb va nv vcap vals k :=
  ⟨(Below.heap_setCell _ _ _ _ hne).trans h.hp, fun j hj => by obtain ⟨b, o, h1, h2, h3⟩ := h.v j hj; exact ⟨b, o, h1, h2, cell_set h3 (hvb b o h1)⟩, h.rg⟩

set_option maxRecDepth 100000 in
set_option maxHeartbeats 1000000 in
theorem shuffle_any (bl o n cap N sb : Nat) (va : Option Addr) (nv vcap : Nat) (vals : Nat → Int) (k : Nat) (D : Nat → Int) (W : World) (hk : k ≤ 1000) (hnv : nv ≤ 1000) (hn : n ≤ 1000) (hN : o + n ≤ N) (R : Rw W bl N D) (S : Src W sb va nv vcap vals k) (hne : sb ≠ bl) (hvb : ∀ b o, va = some ⟨b, o, none⟩ → b ≠ bl) :
    Calls Ybaf.prog 41 #[.slice (some ⟨bl, o, none⟩) n cap, .iface 49 (.pointer (some ⟨sb, 0, none⟩))] W fun e W' => e = .returned (.tuple #[]) ∧ Gr2 W W' bl sb ∧ ∃ D' k', Rw W' bl N D' ∧ (seg D' o (o + n)).Perm (seg D o (o + n)) ∧ (∀ x, x < o ∨ o + n ≤ x → D' x = D x) ∧ Src W' sb va nv vcap vals k' ∧ k' ≤ max nv k + n := by
  by_cases h0 : n = 0
  · subst h0
    go_enter Ybaf.func41, Ybaf.ntmps41
    go_wp2_with fail
    refine wp_loop_rounds 1 ?_
    rw [rounds_succ]
    go_wp2_with fail
    go_end0
    exact ⟨rfl, Gr2.refl _ _ _, D, k, R, List.Perm.refl _, fun _ _ => rfl, S, by omega⟩
  · go_enter Ybaf.func41, Ybaf.ntmps41
    go_wp2_with fail
    go_loopw [4] (fun vi wr => ∃ i : Nat, ∃ Dk kk, i < n ∧ vi = .int .i64 i ∧ Gr2 W wr bl sb ∧ Rw wr bl N Dk ∧ Hid ((seg Dk o (o + n)).Perm (seg D o (o + n)) ∧ ∀ x, x < o ∨ o + n ≤ x → Dk x = D x) ∧ Src wr sb va nv vcap vals kk ∧ kk + i + 1 ≤ max nv k + n) (fun vi _ => (intOf vi).toNat)
    case atStart => exact ⟨n - 1, D, k, by omega, by congr 1; omega, Gr2.refl _ _ _, R, ⟨List.Perm.refl _, fun _ _ => rfl⟩, S, by omega⟩
    case round =>
      clear R S
      obtain ⟨i, Dk, kk, hi, rfl, hg, Rk, hH, Sk, hkk⟩ := hrel
      by_cases hpos : 0 < i
      · have hpos' : (0 : Int) < (i : Int) := by omega
        have hu := uniform_any sb va nv vcap vals kk (i + 1) wr (by omega) (by omega) (by omega) (by omega) Sk
        rw [show ((i + 1 : Nat) : Int) = (i : Int) + 1 by omega] at hu
        have Hg : Hid _ := hg
        have HR : Hid (Rw wr bl N Dk) := Rk
        clear hg Rk Sk
        go_wp2_with fail
        refine hu.mono ?_
        rintro e w1 ⟨r, rfl, hr, hg1, k', hk', S1'⟩
        have R1 : Rw w1 bl N Dk := HR.out.of_block (hg1.block bl HR.out.lt (by simpa using hne.symm))
        have x1 : w1.cell? ⟨bl, o + i, none⟩ = some (.int .i64 (Dk (o + i))) := R1.get (by omega)
        have x2 : w1.cell? ⟨bl, o + r, none⟩ = some (.int .i64 (Dk (o + r))) := R1.get (by omega)
        have z1 := R1.fz (o + i)
        have z2 := R1.fz (o + r)
        have hi1 : (i : Int) < (n : Int) := by omega
        have hr1 : (r : Int) < (n : Int) := by omega
        have HN : Hid (Gr2 W (((w1.setCell ⟨bl, o + i, none⟩ (.int .i64 (Dk (o + r)))).setCell ⟨bl, o + r, none⟩ (.int .i64 (Dk (o + i)))).drew) bl sb ∧ Rw (((w1.setCell ⟨bl, o + i, none⟩ (.int .i64 (Dk (o + r)))).setCell ⟨bl, o + r, none⟩ (.int .i64 (Dk (o + i)))).drew) bl N (swp Dk (o + i) (o + r)) ∧ Src (((w1.setCell ⟨bl, o + i, none⟩ (.int .i64 (Dk (o + r)))).setCell ⟨bl, o + r, none⟩ (.int .i64 (Dk (o + i)))).drew) sb va nv vcap vals k') :=
          ⟨(Hg.out.right hg1).left (grow_below (gr1 _ (gr1 _ (World.grownBy.refl _ _))) (Below.drew (Below.refl _ _))), Rw.of_block (R1.swap (by omega) (by omega)) rfl, ((S1'.set _ hne hvb).set _ hne hvb).below (Below.drew (Below.refl _ _))⟩
        have hH' : Hid ((seg (swp Dk (o + i) (o + r)) o (o + n)).Perm (seg D o (o + n)) ∧ ∀ x, x < o ∨ o + n ≤ x → swp Dk (o + i) (o + r) x = D x) := ⟨(swp_perm Dk (by omega) (by omega) (by omega)).trans hH.out.1, fun x hx => by
          unfold swp
          rw [if_neg (by omega), if_neg (by omega)]
          exact hH.out.2 x hx⟩
        clear hg1 S1' R1 hu HR Hg hH
        by_cases hri : r = i
        · subst hri
          clear x2 z2
          go_wp2_with fail
          go_region
          go_wp2_with fail
          go_roundw
          case rel => exact ⟨r - 1, _, k', by omega, by congr 1; omega, HN.out.1, HN.out.2.1, hH', HN.out.2.2, by omega⟩
          case measure => simp [intOf]; omega
        · have hri' : o + r ≠ o + i := by omega
          go_wp2_with fail
          go_region
          go_wp2_with fail
          go_roundw
          case rel => exact ⟨i - 1, _, k', by omega, by congr 1; omega, HN.out.1, HN.out.2.1, hH', HN.out.2.2, by omega⟩
          case measure => simp [intOf]; omega
      · obtain rfl : i = 0 := by omega
        go_wp2_with fail
        go_end0
        exact ⟨rfl, hg, Dk, kk, Rk, hH.out.1, hH.out.2, Sk, by omega⟩
end Go.Proofs.YbulkcuegFmt
