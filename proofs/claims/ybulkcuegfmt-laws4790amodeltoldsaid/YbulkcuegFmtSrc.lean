import Derived.Test.YbulkcuegFmtCm
namespace Go.Proofs.YbulkcuegFmt
open Go.RowKit

/-- the source: its values and how many it has given -/
structure Src (W : World) (sb : Nat) (va : Option Addr) (nv vcap : Nat) (vals : Nat → Int) (k : Nat) : Prop where
  hp : W.heap[sb]? = some (.cells #[.slice va nv vcap, .int .i64 k] 51 (0, 0))
  v : ∀ i, i < nv → ∃ b o, va = some ⟨b, o, none⟩ ∧ b ≠ sb ∧ W.cell? ⟨b, o + i, none⟩ = some (.int .u64 (vals i))
  rg : ∀ i, i < nv → 0 ≤ vals i ∧ vals i ≤ 18446744073709551615

theorem Src.below {W W' : World} {sb : Nat} {va : Option Addr} {nv vcap : Nat} {vals : Nat → Int} {k : Nat} (h : Src W sb va nv vcap vals k) (hb : Below W.heap.size W W') : Src W' sb va nv vcap vals k :=
  ⟨(hb.block _ (lt_of_heap h.hp)).trans h.hp, fun i hi => by obtain ⟨b, o, h1, h2, h3⟩ := h.v i hi; exact ⟨b, o, h1, h2, keepb hb h3 (lt_of_cell h3)⟩, h.rg⟩
theorem Src.next {W : World} {sb : Nat} {va : Option Addr} {nv vcap : Nat} {vals : Nat → Int} {k : Nat} (h : Src W sb va nv vcap vals k) : Src (W.setCell ⟨sb, 1, none⟩ (.int .i64 ((k : Int) + 1))) sb va nv vcap vals (k + 1) := by
  refine ⟨?_, fun i hi => ?_, h.rg⟩
  · rw [heap_set (k := 1) (.int .i64 ((k : Int) + 1)) h.hp]
    simp
  · obtain ⟨b, o, h1, h2, h3⟩ := h.v i hi
    exact ⟨b, o, h1, h2, cell_set h3 h2⟩

set_option maxRecDepth 100000 in
set_option maxHeartbeats 1000000 in
theorem u64_any (sb : Nat) (va : Option Addr) (nv vcap : Nat) (vals : Nat → Int) (k : Nat) (W : World) (hk : k < 1000000) (S : Src W sb va nv vcap vals k) :
    Calls Ybaf.prog 105 #[.pointer (some ⟨sb, 0, none⟩)] W fun e W' => ∃ x : Int, e = .returned (.int .u64 x) ∧ 0 ≤ x ∧ x ≤ 18446744073709551615 ∧ (nv ≤ k → x = 0) ∧ W.grownBy W' (some sb) ∧ Src W' sb va nv vcap vals (k + 1) := by
  have c0 : W.cell? ⟨sb, 0, none⟩ = some (.slice va nv vcap) := cell_of S.hp rfl
  have c1 : W.cell? ⟨sb, 1, none⟩ = some (.int .i64 k) := cell_of S.hp rfl
  have f1 : W.frozen? ⟨sb, 1, none⟩ = false := fz_of S.hp
  by_cases h : k < nv
  · have h1 : (k : Int) < (nv : Int) := by omega
    obtain ⟨b, o, rfl, hne, hc⟩ := S.v k h
    have hr := S.rg k h
    have HS : Hid _ := S.next
    have Hr : Hid _ := hr
    clear S hr
    generalize vals k = x at hc Hr
    have hd : decide ((k : Int) < (nv : Int)) = true := by simp [h]
    go_enter Ybaf.func105, Ybaf.ntmps105
    go_wp2_with fail
    go_quiet (fail)
    go_wp2_with fail
    go_quiet (fail)
    go_wp2_with fail
    go_ret
    exact ⟨x, rfl, Hr.out.1, Hr.out.2, fun h' => by omega, gr1 _ (grow_below (World.grownBy.refl _ _) (drewN_below _ _)), ⟨HS.out.hp, HS.out.v, HS.out.rg⟩⟩
  · have h1 : ¬ (k : Int) < (nv : Int) := by omega
    have HS : Hid _ := S.next
    clear S
    have hd : decide ((k : Int) < (nv : Int)) = false := by simp; omega
    go_enter Ybaf.func105, Ybaf.ntmps105
    go_wp2_with fail
    go_quiet (fail)
    go_wp2_with fail
    go_ret
    exact ⟨0, rfl, by omega, by omega, fun _ => rfl, gr1 _ (grow_below (World.grownBy.refl _ _) (drewN_below _ _)), ⟨HS.out.hp, HS.out.v, HS.out.rg⟩⟩

set_option maxRecDepth 100000 in
set_option maxHeartbeats 1000000 in
theorem uniform_any (sb : Nat) (va : Option Addr) (nv vcap : Nat) (vals : Nat → Int) (k n : Nat) (W : World) (hk : k < 100000) (hnv : nv < 100000) (hn : 0 < n) (hn2 : n ≤ 10000) (S : Src W sb va nv vcap vals k) :
    Calls Ybaf.prog 52 #[.iface 49 (.pointer (some ⟨sb, 0, none⟩)), .int .u64 n] W fun e W' => ∃ r : Nat, e = .returned (.int .u64 r) ∧ r < n ∧ W.grownBy W' (some sb) ∧ ∃ k', k' ≤ max nv k + 1 ∧ Src W' sb va nv vcap vals k' := by
  have hn' : ((n : Int) == 0) = false := by rw [beq_eq_false_iff_ne]; omega
  obtain ⟨lim, hlim, hl0⟩ : ∃ lim : Int, 18446744073709551615 - 18446744073709551615 % (n : Int) = lim ∧ 0 < lim := ⟨_, rfl, by
    have := Int.emod_lt_of_pos 18446744073709551615 (show (0 : Int) < n by omega)
    omega⟩
  have hl1 : lim ≤ 18446744073709551615 := by
    have := Int.emod_nonneg 18446744073709551615 (show (n : Int) ≠ 0 by omega)
    omega
  have hwl : IntKind.u64.wrap lim = lim := by simp [IntKind.wrap, IntKind.signed, IntKind.bits]; omega
  have HL : Hid _ := And.intro hlim hwl
  go_enter Ybaf.func52, Ybaf.ntmps52
  go_wp2_with fail
  clear hlim
  go_loopg [] (nv - k) (fun g wr => ∃ k', nv - k' ≤ g ∧ k ≤ k' ∧ k' ≤ max nv k ∧ W.grownBy wr (some sb) ∧ Src wr sb va nv vcap vals k')
  case atStart => exact ⟨k, Nat.le_refl _, Nat.le_refl _, by omega, World.grownBy.refl _ _, S⟩
  case round =>
    clear S
    obtain ⟨k', hg, hk1, hk2, hgr, Sk⟩ := hrel
    have hc := u64_any sb va nv vcap vals k' wr (by omega) Sk
    have HG : Hid _ := hgr
    clear hgr Sk
    go_wp2_with fail
    refine hc.mono ?_
    rintro e w1 ⟨x, rfl, x0, x1, hx, hg1, S1'⟩
    have HS : Hid _ := And.intro (grow_trans HG.out hg1) S1'
    clear hg1 S1' hc
    by_cases hlt : x < lim
    · have hd : 0 ≤ x % (n : Int) ∧ x % (n : Int) < n := ⟨Int.emod_nonneg _ (by omega), Int.emod_lt_of_pos _ (by omega)⟩
      have Hd : Hid _ := hd
      clear hd
      go_wp2_with fail
      go_ret
      exact ⟨(x % (n : Int)).toNat, by rw [Int.toNat_of_nonneg Hd.out.1]; rfl, by have := Hd.out; omega, HS.out.1, k' + 1, by omega, HS.out.2⟩
    · have hkn : k' < nv := Nat.lt_of_not_le fun h => by have := hx h; omega
      go_wp2_with fail
      go_roundg (gk - 1)
      case measure => omega
      case rel => exact ⟨k' + 1, by omega, by omega, by omega, HS.out.1, HS.out.2⟩
end Go.Proofs.YbulkcuegFmt
