import Derived.Test.YbulkcuegFmtProf
import Derived.Test.YbulkcuegFmtUniq
import Derived.Test.YbulkcuegFmtGrowS
import Derived.Laws.AppendOwnNone
namespace Go.Proofs.YbulkcuegFmt
open Go.RowKit

theorem grow_any (n : Nat) (W : World) (h0 : 0 < n) (hn : n ≤ 1000) : Calls Ybaf.prog 44 #[.slice none 0 0, .int .i64 n] W fun e W' => ∃ cap, e = .returned (.slice (some ⟨W.heap.size, 0, none⟩) 0 cap) ∧ Below W.heap.size W W' ∧ W'.ownsRow W.heap.size 29 1 (.slice (some ⟨W.heap.size, 0, none⟩) 0 cap) 0 [] := by
  obtain ⟨i0, hi, hz0, hz1, hz2⟩ := info_parts info29
  have h := Any8.slices_Grow_grow Ybaf.growL i0 _ hi hz0 (by omega) none 0 0 n [] W (by omega) (by omega) (by rw [hz2]; omega) (by omega) (by simp) (fun _ => rfl) (fun a e => by cases e)
  change Calls Ybaf.prog 44 _ _ _ at h
  refine h.mono fun e W' ⟨he, hw⟩ => ?_
  have hge := grownCap_ge W (0 + n) 0 29
  have hle := grownCap_le_maxLen W (0 + n) 0 29 (by unfold maxLen; omega)
  have hh : W'.heap[W.heap.size]? = some (.cells (#[] ++ Builtin.zeroCells (Value.agg #[.string ⟨#[]⟩]).cells (0 + n - 0) ++ Builtin.zeroCells (Value.agg #[.string ⟨#[]⟩]).cells (grownCap W (0 + n) 0 29 - (0 + n))) 29 (0, 0)) := by
    rw [hw]
    exact (MapKept.heap_alloc W.drew _).1
  have hsz : (#[] ++ Builtin.zeroCells (Value.agg #[.string ⟨#[]⟩]).cells (0 + n - 0) ++ Builtin.zeroCells (Value.agg #[.string ⟨#[]⟩]).cells (grownCap W (0 + n) 0 29 - (0 + n))).size = grownCap W (0 + n) 0 29 * 1 := by
    have hge' := hge
    rw [Nat.zero_add] at hge' ⊢
    simp [Builtin.zeroCells, Value.cells]
    omega
  have hb : Below W.heap.size W W' := by
    rw [hw]
    exact (Below.drew (Below.refl _ W)).alloc (Nat.le_refl _) _
  exact ⟨_, he, hb, rfl, .inr ⟨W.heap.size, _, _, rfl, Nat.le_refl _, hh, Nat.zero_le _, hle, hsz, by simp⟩⟩

theorem Gr_of_own {W W' : World} {base e sz n : Nat} {v : Value} {xs : List Value} (h : W.ownsRow base e sz v n xs) (hg : W.grownBy W' v.ownBlock) (hb : base ≤ W.heap.size) : Below base W W' :=
  ⟨hg.os, hg.tape, hg.output, hg.size, fun k hk => hg.block k (by omega) (by
    rcases h.2 with ⟨h0, _⟩ | ⟨g, c', cu, h0, h2, _⟩
    · rw [h0]; simp [Value.ownBlock]
    · rw [h0]; simp [Value.ownBlock]; omega)⟩

set_option maxRecDepth 100000 in
set_option maxHeartbeats 1000000 in
theorem concat_any (xb yb : Nat) (rp : ByteArray) (a15 : Option Addr) (n15 k15 : Nat) (f : Nat → Value) (W : World) (hn : n15 ≤ 300) (x0 : W.cell? ⟨xb, 0, none⟩ = some (.slice (some ⟨yb, 0, none⟩) 1 1)) (x1 : W.cell? ⟨xb, 1, none⟩ = some (.slice a15 n15 k15)) (y0 : W.cell? ⟨yb, 0, none⟩ = some (.string rp)) (R : RowB W 0 (.slice a15 n15 k15) n15 f) (ho : ∀ i, i < n15 → (f i).oneCell' = true) :
    Calls Ybaf.prog 30 #[.slice (some ⟨xb, 0, none⟩) 2 2] W fun e W' => ∃ v', e = .returned v' ∧ W'.ownsRow W.heap.size 29 1 v' (1 + n15) (.string rp :: (List.range n15).map f) ∧ Below W.heap.size W W' := by
  obtain ⟨i0, hi, hz0, hz1, hz2⟩ := info_parts info29
  have hgr := grow_any (1 + n15) W (by omega) (by omega)
  have hlx := lt_of_cell x0
  have hly := lt_of_cell y0
  have HR : Hid _ := And.intro R ho
  clear R ho
  have hw1 : IntKind.i64.wrap (1 + (n15 : Int)) = 1 + (n15 : Int) := by rw [IntKind.wrap_i64]; omega
  have hp1 : ¬ (1 + (n15 : Int)) < 0 := by omega
  have hcast : ((1 + n15 : Nat) : Int) = 1 + (n15 : Int) := by omega
  rw [hcast] at hgr
  go_enter Ybaf.func30, Ybaf.ntmps30
  go_wp2_with fail
  refine wp_loop_rounds 3 ?_
  rw [rounds_succ]
  go_wp2_with fail
  rw [rounds_succ]
  go_wp2_with fail
  rw [rounds_succ]
  go_wp2_with fail
  refine hgr.mono ?_
  rintro e W1 ⟨cap, rfl, hb1, ho1⟩
  have x0' := keepb hb1 x0 hlx
  have x1' := keepb hb1 x1 hlx
  have y0' := keepb hb1 y0 hly
  have HB : Hid _ := hb1
  have hs1 := hb1.size
  clear x0 x1 y0 hb1 hgr
  go_wp2_with fail
  refine wp_loop_rounds 3 ?_
  rw [rounds_succ]
  have ha1 : ∀ j u, ([.string rp] : List Value)[j]? = some u → W1.cell? ((⟨yb, 0, none⟩ : Addr).add j) = some u := by
    intro j u hj
    rcases j with _ | j
    · simp at hj
      subst hj
      exact y0'
    · simp at hj
  have ha2 : ∀ u ∈ ([.string rp] : List Value), u.oneCell' = true := by intro u hu; simp at hu; subst hu; rfl
  go_wp2_with (at_builtin; refine wpList_append_own _ rfl (.tmp 31) (.tmp 32) 27 rfl W.heap.size 29 i0 _ 1 16 Ybaf.underlying27 hi hz0 hz1 hz2 rfl (by omega) _ 0 [] rfl ho1 ⟨yb, 0, none⟩ 1 1 [.string rp] rfl rfl ha1 ha2 (by unfold maxLen; omega) (by omega) hs1 ?nextA)
  case nextA =>
  intro v2 W2 ho2 hg2 _
  have hb2 := Gr_of_own ho1 hg2 hs1
  obtain ⟨va2, c2, rfl⟩ : ∃ va cap, v2 = .slice va (0 + 1) cap := by
    rcases ho2.2 with ⟨h0, h1⟩ | ⟨g, c', cu, h0, _⟩
    · exact ⟨none, 0, by rw [h0]; omega⟩
    · exact ⟨_, _, h0⟩
  have x1'' := (hb2.cell (p := ⟨xb, 1, none⟩) hlx).trans x1'
  have HB2 : Hid _ := HB.out.trans hb2
  have hs2 := HB2.out.size
  have HO : Hid _ := ho2
  clear ha1 ha2 hg2 ho1 hb2 x0' x1' y0'
  go_wp2_with fail
  rw [rounds_succ]
  rcases HR.out.1 with ⟨he, h0⟩ | ⟨b, cp, he, _, hbl, hc⟩
  · injection he with he1 he2 he3
    subst he1
    subst h0
    subst he3
    have ho2 := HO.out
    go_wp2_with (at_builtin; refine wpList_append_own_none rfl (.tmp 31) (.tmp 32) 27 rfl W.heap.size 29 i0 1 Ybaf.underlying27 hi _ (0 + 1) _ rfl ho2 rfl ?_)
    rw [rounds_succ]
    go_wp2_with fail
    go_ret
    exact ⟨_, rfl, HO.out, HB2.out⟩
  · injection he with he1 he2 he3
    subst he1
    subst he3
    have ho2 := HO.out
    have hbc : ∀ i, i < n15 → W2.cell? ⟨b, i, none⟩ = some (f i) := fun i hi => (HB2.out.cell (p := ⟨b, i, none⟩) hbl).trans (hc i hi)
    have ha1 : ∀ j u, ((List.range n15).map f)[j]? = some u → W2.cell? ((⟨b, 0, none⟩ : Addr).add j) = some u := by
      intro j u hj
      rw [Addr.add_mid, Nat.zero_add]
      by_cases h : j < n15
      · simp [h] at hj
        rw [← hj]; exact hbc j h
      · simp [h] at hj
    have ha2 : ∀ u ∈ (List.range n15).map f, u.oneCell' = true := by
      intro u hu
      simp at hu
      obtain ⟨i, hi, rfl⟩ := hu
      exact HR.out.2 i hi
    go_wp2_with (at_builtin; refine wpList_append_own _ rfl (.tmp 31) (.tmp 32) 27 rfl W.heap.size 29 i0 _ 1 16 Ybaf.underlying27 hi hz0 hz1 hz2 rfl (by omega) _ (0 + 1) _ rfl ho2 ⟨b, 0, none⟩ n15 _ ((List.range n15).map f) rfl (by simp) ha1 ha2 (by unfold maxLen; omega) (by omega) hs2 ?nextB)
    case nextB =>
    intro v3 W3 ho3 hg3 _
    have HF : Hid _ := And.intro ho3 (HB2.out.trans (Gr_of_own ho2 hg3 hs2))
    clear ho3 hg3 ha1 ha2 hbc
    go_wp2_with fail
    rw [rounds_succ]
    go_wp2_with fail
    go_ret
    exact ⟨_, rfl, HF.out.1, HF.out.2⟩
end Go.Proofs.YbulkcuegFmt
