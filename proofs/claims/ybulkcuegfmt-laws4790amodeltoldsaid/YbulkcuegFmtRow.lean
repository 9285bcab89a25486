import Derived.Test.YbulkcuegFmtRot
import Derived.BigRegion
namespace Go.Proofs.YbulkcuegFmt
open Go.RowKit

theorem cell_of {w : World} {b k : Nat} {cs : Array Value} {t : TypeId} {v : Value} (h : w.heap[b]? = some (.cells cs t (0, 0))) (hk : cs[k]? = some v) : w.cell? ⟨b, k, none⟩ = some v := by
  simp [World.cell?, h, hk]
theorem fz_of {w : World} {b k : Nat} {cs : Array Value} {t : TypeId} (h : w.heap[b]? = some (.cells cs t (0, 0))) : w.frozen? ⟨b, k, none⟩ = false := by
  simp [World.frozen?, h]
theorem heap_set {w : World} {b k : Nat} {cs : Array Value} {t : TypeId} (v : Value) (h : w.heap[b]? = some (.cells cs t (0, 0))) : (w.setCell ⟨b, k, none⟩ v).heap[b]? = some (.cells (cs.setIfInBounds k v) t (0, 0)) := by
  simp [World.setCell, Array.getElem?_modify, h]
theorem lt_of_heap {w : World} {b : Nat} {o : Obj} (h : w.heap[b]? = some o) : b < w.heap.size := (Array.getElem?_eq_some_iff.1 h).1
theorem gr1 {w w' : World} {T k : Nat} (v : Value) (h : w.grownBy w' (some T)) : w.grownBy (w'.setCell ⟨T, k, none⟩ v) (some T) := ⟨h.os, h.tape, h.output, Nat.le_trans h.size (by simp [World.setCell]), fun b hb hne => (Below.heap_setCell _ _ _ _ (by simpa using hne)).trans (h.block b hb hne)⟩
theorem grow_below {w wr W : World} {T : Option Nat} (a : w.grownBy wr T) (b : Below wr.heap.size wr W) : w.grownBy W T :=
  ⟨b.os.trans a.os, b.tape.trans a.tape, b.output.trans a.output, Nat.le_trans a.size b.size, fun k hk hne => (b.block k (Nat.lt_of_lt_of_le hk a.size)).trans (a.block k hk hne)⟩
theorem grow_trans {w wr W : World} {T : Option Nat} (a : w.grownBy wr T) (b : wr.grownBy W T) : w.grownBy W T :=
  ⟨b.os.trans a.os, b.tape.trans a.tape, b.output.trans a.output, Nat.le_trans a.size b.size, fun k hk hne => (b.block k (Nat.lt_of_lt_of_le hk a.size) hne).trans (a.block k hk hne)⟩

/-- a row of integers, whole -/
def Rw (W : World) (bl N : Nat) (D : Nat → Int) : Prop := ∃ cs, W.heap[bl]? = some (.cells cs 3 (0, 0)) ∧ cs.size = N ∧ ∀ i, i < N → cs[i]? = some (.int .i64 (D i))

theorem Rw.lt {W : World} {bl N : Nat} {D : Nat → Int} (h : Rw W bl N D) : bl < W.heap.size := by
  obtain ⟨cs, h1, _, _⟩ := h
  exact lt_of_heap h1
theorem Rw.get {W : World} {bl N : Nat} {D : Nat → Int} (h : Rw W bl N D) {i : Nat} (hi : i < N) : W.cell? ⟨bl, i, none⟩ = some (.int .i64 (D i)) := by
  obtain ⟨cs, h1, _, h3⟩ := h
  exact cell_of h1 (h3 i hi)
theorem Rw.fz {W : World} {bl N : Nat} {D : Nat → Int} (h : Rw W bl N D) (i : Nat) : W.frozen? ⟨bl, i, none⟩ = false := by
  obtain ⟨cs, h1, _, _⟩ := h
  exact fz_of h1
theorem Rw.of_block {W W' : World} {bl N : Nat} {D : Nat → Int} (h : Rw W bl N D) (e : W'.heap[bl]? = W.heap[bl]?) : Rw W' bl N D := by
  obtain ⟨cs, h1, h2, h3⟩ := h
  exact ⟨cs, e.trans h1, h2, h3⟩
theorem Rw.below {W W' : World} {bl N : Nat} {D : Nat → Int} (h : Rw W bl N D) (hb : Below W.heap.size W W') : Rw W' bl N D := h.of_block (hb.block _ h.lt)
theorem Rw.swap {W : World} {bl N : Nat} {D : Nat → Int} (h : Rw W bl N D) {i j : Nat} (hi : i < N) (hj : j < N) : Rw ((W.setCell ⟨bl, i, none⟩ (.int .i64 (D j))).setCell ⟨bl, j, none⟩ (.int .i64 (D i))) bl N (swp D i j) := by
  obtain ⟨cs, h1, h2, h3⟩ := h
  refine ⟨_, heap_set _ (heap_set _ h1), by simpa using h2, fun x hx => ?_⟩
  unfold swp
  by_cases e1 : x = j
  · subst e1
    by_cases e2 : x = i
    · subst e2; simp [show x < cs.size by omega]
    · rw [if_neg e2, if_pos rfl]; simp [show x < cs.size by omega]
  · rw [Array.getElem?_setIfInBounds, if_neg (fun e => e1 e.symm)]
    by_cases e2 : x = i
    · subst e2; rw [if_pos rfl]; simp [show x < cs.size by omega]
    · rw [Array.getElem?_setIfInBounds, if_neg (fun e => e2 e.symm), if_neg e2, if_neg e1]; exact h3 x hx
theorem Rw.swap_below {W W' : World} {bl i j : Nat} (u v : Value) (h : W.grownBy W' (some bl)) : W.grownBy ((W'.setCell ⟨bl, i, none⟩ u).setCell ⟨bl, j, none⟩ v) (some bl) := gr1 _ (gr1 _ h)

set_option maxRecDepth 100000 in
set_option maxHeartbeats 1000000 in
theorem swapRange_any (bl o len cap N a b n : Nat) (fv : Value) (D : Nat → Int) (W : World) (hN : o + len ≤ N) (hab : a + n ≤ b) (hb : b + n ≤ len) (hlen : len ≤ 10000) (R : Rw W bl N D) :
    Calls Ybaf.prog 76 #[.slice (some ⟨bl, o, none⟩) len cap, .int .i64 a, .int .i64 b, .int .i64 n, fv] W fun e W' => e = .returned (.tuple #[]) ∧ W.grownBy W' (some bl) ∧ Rw W' bl N (swr D (o + a) (o + b) n) := by
  go_enter Ybaf.func76, Ybaf.ntmps76
  go_wp2_with fail
  go_loopw [10] (fun i wr => ∃ k : Nat, k ≤ n ∧ i = .int .i64 k ∧ W.grownBy wr (some bl) ∧ Rw wr bl N (swr D (o + a) (o + b) k)) (fun i _ => n - (intOf i).toNat)
  case atStart => exact ⟨0, Nat.zero_le _, rfl, World.grownBy.refl _ _, by rw [swr_zero]; exact R⟩
  case round =>
    obtain ⟨k, hk, rfl, hg, Rk⟩ := hrel
    by_cases hkn : k < n
    · have hkn' : (k : Int) < (n : Int) := by omega
      have x1 : wr.cell? ⟨bl, o + (a + k), none⟩ = some (.int .i64 (swr D (o + a) (o + b) k (o + (a + k)))) := Rk.get (by omega)
      have x2 : wr.cell? ⟨bl, o + (b + k), none⟩ = some (.int .i64 (swr D (o + a) (o + b) k (o + (b + k)))) := Rk.get (by omega)
      have z1 := Rk.fz (o + (a + k))
      have z2 := Rk.fz (o + (b + k))
      have hin1 : ((a : Int) + (k : Int)) < (len : Int) := by omega
      have hin2 : ((b : Int) + (k : Int)) < (len : Int) := by omega
      have hR0 := Rk.swap (i := o + (a + k)) (j := o + (b + k)) (by omega) (by omega)
      have e : swp (swr D (o + a) (o + b) k) (o + (a + k)) (o + (b + k)) = swr D (o + a) (o + b) (k + 1) := by rw [← Nat.add_assoc, ← Nat.add_assoc, swr_succ D (show o + a + k < o + b by omega)]
      rw [e] at hR0
      have hR : Hid _ := hR0
      have HG : Hid _ := hg
      clear Rk hg R hR0 e
      go_wp2_with fail
      go_region
      go_wp2_with fail
      go_roundw
      case rel => exact ⟨k + 1, by omega, by go_num, grow_below (Rw.swap_below _ _ HG.out) (Below.drew (Below.refl _ _)), Rw.of_block hR.out rfl⟩
      case measure => simp [intOf]; omega
    · have e : n = k := by omega
      subst e
      go_wp2_with fail
      go_end0
      exact ⟨rfl, hg, Rk⟩

set_option maxRecDepth 100000 in
set_option maxHeartbeats 1000000 in
theorem rotate_any (bl o len cap N a m b : Nat) (fv : Value) (D : Nat → Int) (W : World) (hN : o + len ≤ N) (ham : a < m) (hmb : m < b) (hb : b ≤ len) (hlen : len ≤ 10000) (R : Rw W bl N D) :
    Calls Ybaf.prog 66 #[.slice (some ⟨bl, o, none⟩) len cap, .int .i64 a, .int .i64 m, .int .i64 b, fv] W fun e W' => e = .returned (.tuple #[]) ∧ W.grownBy W' (some bl) ∧ Rw W' bl N (rot D (o + a) (o + m) (o + b)) := by
  go_enter Ybaf.func66, Ybaf.ntmps66
  go_wp2_with fail
  go_loopw [10, 11] (fun vi vj wr => ∃ i j : Nat, ∃ Dk, 0 < i ∧ 0 < j ∧ i ≤ m ∧ m + j ≤ len ∧ vi = .int .i64 i ∧ vj = .int .i64 j ∧ W.grownBy wr (some bl) ∧ Rw wr bl N Dk ∧ Hid (rot Dk (o + m - i) (o + m) (o + m + j) = rot D (o + a) (o + m) (o + b))) (fun vi vj _ => (intOf vi).toNat + (intOf vj).toNat)
  case atStart => exact ⟨m - a, b - m, D, by omega, by omega, by omega, by omega, by congr 1; omega, by congr 1; omega, World.grownBy.refl _ _, R, by show rot _ _ _ _ = _; congr 1 <;> omega⟩
  case round =>
    obtain ⟨i, j, Dk, hi, hj, him, hjl, rfl, rfl, hg, Rk, he⟩ := hrel
    clear R
    by_cases hij : i = j
    · subst hij
      have hq : ((i : Int) == (i : Int)) = true := by simp
      have hc := swapRange_any bl o len cap N (m - i) m i fv Dk wr hN (by omega) (by omega) hlen Rk
      rw [show ((m - i : Nat) : Int) = (m : Int) - (i : Int) by omega, show o + (m - i) = o + m - i by omega, ← rot_swr_eq Dk (show i ≤ o + m by omega), he.out] at hc
      have HG : Hid _ := hg
      clear hg Rk he
      go_wp2_with fail
      refine hc.mono ?_
      rintro e w1 ⟨rfl, hg1, R1⟩
      go_wp2_with fail
      go_end0
      exact ⟨rfl, grow_trans HG.out hg1, R1⟩
    · have hq : ((i : Int) == (j : Int)) = false := by rw [beq_eq_false_iff_ne]; omega
      by_cases hgt : j < i
      · have hgt' : (j : Int) < (i : Int) := by omega
        have hc := swapRange_any bl o len cap N (m - i) m j fv Dk wr hN (by omega) (by omega) hlen Rk
        rw [show ((m - i : Nat) : Int) = (m : Int) - (i : Int) by omega, show o + (m - i) = o + m - i by omega] at hc
        have he' : Hid (rot (swr Dk (o + m - i) (o + m) j) (o + m - (i - j)) (o + m) (o + m + j) = rot D (o + a) (o + m) (o + b)) := by
          show _ = _
          rw [← he.out, rot_swr_gt Dk (show i ≤ o + m by omega) hgt]
          congr 1
          omega
        have HG : Hid _ := hg
        clear hg Rk he
        go_wp2_with fail
        refine hc.mono ?_
        rintro e w1 ⟨rfl, hg1, R1⟩
        have HH : Hid _ := And.intro (grow_trans HG.out hg1) R1
        clear hg1 R1 hc
        go_wp2_with fail
        go_roundw
        case rel => exact ⟨i - j, j, _, by omega, hj, by omega, hjl, by congr 1; omega, rfl, HH.out.1, HH.out.2, he'⟩
        case measure => simp [intOf]; omega
      · have hgt' : ¬ (j : Int) < (i : Int) := by omega
        have hc := swapRange_any bl o len cap N (m - i) (m + j - i) i fv Dk wr hN (by omega) (by omega) hlen Rk
        rw [show ((m - i : Nat) : Int) = (m : Int) - (i : Int) by omega, show ((m + j - i : Nat) : Int) = (m : Int) + (j : Int) - (i : Int) by omega, show o + (m - i) = o + m - i by omega, show o + (m + j - i) = o + m + j - i by omega] at hc
        have he' : Hid (rot (swr Dk (o + m - i) (o + m + j - i) i) (o + m - i) (o + m) (o + m + (j - i)) = rot D (o + a) (o + m) (o + b)) := by
          show _ = _
          rw [← he.out, rot_swr_lt Dk (show i ≤ o + m by omega) (show i < j by omega)]
          congr 1
          omega
        have HG : Hid _ := hg
        clear hg Rk he
        go_wp2_with fail
        refine hc.mono ?_
        rintro e w1 ⟨rfl, hg1, R1⟩
        have HH : Hid _ := And.intro (grow_trans HG.out hg1) R1
        clear hg1 R1 hc
        go_wp2_with fail
        go_roundw
        case rel => exact ⟨i, j - i, _, hi, by omega, him, by omega, rfl, by congr 1; omega, HH.out.1, HH.out.2, he'⟩
        case measure => simp [intOf]; omega
end Go.Proofs.YbulkcuegFmt
