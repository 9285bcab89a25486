import Derived.Test.YbulkcuegMerge
import Derived.Test.YbulkcuegOrd
namespace Go.Proofs.Ybulkcueg
open Go.RowKit Go.Maps Go.Shelf

theorem Yba.info3 : (Yba.prog.info? 3).map (fun i => (i.zero, i.size, i.bytes)) = some (some (.int .i64 0), 1, 8) := by kernel_rfl
theorem Yba.info104 : (Yba.prog.info? 104).map (fun i => (i.zero, i.size, i.bytes)) = some (some (.agg #[.slice none 0 0, .int .i64 0]), 2, 32) := by kernel_rfl

theorem keepg {W w2 : World} {fb b o : Nat} {v : Value} (g : W.grownBy w2 (some fb)) (h : W.cell? ⟨b, o, none⟩ = some v) (hb : b < W.heap.size) (hne : b ≠ fb) : w2.cell? ⟨b, o, none⟩ = some v :=
  (World.cell?_of_block (w := W) (a := ⟨b, o, none⟩) (g.block b hb (by simpa using hne))).trans h

theorem row_made {w1 : World} {g n : Nat} {xs : List Value} {base e : Nat} (ho : w1.ownsRow base e 1 (.slice (some ⟨g, 0, none⟩) n n) n xs) : ∃ cf, w1.heap[g]? = some (.cells cf e (0, 0)) ∧ cf.size = n := by
  rcases ho.2 with ⟨h, _⟩ | ⟨g, c, cu, h, _, hh, _, _, hc, _⟩
  · cases h
  · simp only [Value.slice.injEq, Option.some.injEq, Addr.mk.injEq] at h
    obtain ⟨⟨rfl, _, _⟩, _, rfl⟩ := h
    exact ⟨cu, hh, by simpa using hc⟩

theorem sort_all (n : Nat) (hm : n ≤ 400) (of lv : Nat → Int) (tb sb fb cb ob fcap ccap : Nat) (W : World)
    (ht : W.cell? ⟨tb, 0, none⟩ = some (.slice (some ⟨fb, 0, none⟩) n fcap)) (hs : W.cell? ⟨sb, 0, none⟩ = some (.slice (some ⟨cb, 0, none⟩) n ccap))
    (hf : ∀ k, k < n → W.cell? ⟨fb, k, none⟩ = some (.int .i64 (of k))) (hl : ∀ k, k < n → W.cell? ⟨cb, k * 6 + 3, none⟩ = some (.int .i64 (lv k)))
    (n1 : tb ≠ ob) (n2 : sb ≠ ob) (n3 : fb ≠ ob) (n4 : cb ≠ ob) (l1 : tb < W.heap.size) (l2 : sb < W.heap.size) (l3 : fb < W.heap.size) (l4 : cb < W.heap.size)
    (co : Array Value) (ho : W.heap[ob]? = some (.cells co 3 (0, 0))) (hc : ∀ j, j < n → co[j]? = some (.int .i64 (j : Nat))) (ocap : Nat) :
    Calls Yba.prog 17 #[.slice (some ⟨ob, 0, none⟩) n ocap, .func (.func 18) #[] #[.pointer (some ⟨tb, 0, none⟩), .pointer (some ⟨sb, 0, none⟩)]] W fun e w' =>
      e = .returned (.tuple #[]) ∧ W.grownBy w' (some ob) ∧ ∀ j, j < n → w'.cell? ⟨ob, j, none⟩ = some (.int .i64 (ord n of lv j : Nat)) := by
  cases n with
  | zero =>
    have h := AnyF.slices_SortFunc_none (P := Yba.prog) (ρ := Yba.sortL_ren) { Yba.sortL with } (some ⟨ob, 0, none⟩) ocap (.func (.func 18) #[] #[.pointer (some ⟨tb, 0, none⟩), .pointer (some ⟨sb, 0, none⟩)]) W
    change Calls Yba.prog 17 _ _ _ at h
    refine h.mono fun e w' ⟨he, hw⟩ => ⟨he, ?_, fun j hj => by omega⟩
    subst hw
    exact World.grownBy.refl _ _
  | succ m => exact sort_any m hm of lv tb sb fb cb ob fcap ccap W ht hs hf hl n1 n2 n3 n4 l1 l2 l3 l4 co ho hc ocap

/-- what lies below the index -/
structure Low (w w2 : World) (cb n ccap fb tb db : Nat) (mp : Option Nat) (ks : List (Fin 9)) (of lv : Nat → Int) : Prop where
  bel : Below w.heap.size w w2
  sc : w2.cell? ⟨w.heap.size, 0, none⟩ = some (.slice (some ⟨cb, 0, none⟩) n ccap)
  tc : w2.cell? ⟨tb, 0, none⟩ = some (.slice (some ⟨fb, 0, none⟩) n n)
  ofc : ∀ j, j < n → w2.cell? ⟨fb, j, none⟩ = some (.int .i64 (of j))
  lvc : ∀ k, k < n → w2.cell? ⟨cb, k * 6 + 3, none⟩ = some (.int .i64 (lv k))
  own : ∀ mb, mp = some mb → w.heap.size ≤ mb ∧ w2.ownsMap (H := Unit) Yba.prog 34 (plainElem Yba.prog 3) mb ks.length (dat ks)
  p0 : ∀ i, i < ks.length → w2.cell? ⟨db, i * 10, none⟩ = some (.string (kd (ks.getD i 0)))
  p1 : ∀ i, i < ks.length → w2.cell? ⟨db, i * 10 + 1, none⟩ = some (.int .u16 (ka (ks.getD i 0)))
  nd : ks.Nodup
  lt : w.heap.size < w2.heap.size ∧ fb < w2.heap.size ∧ tb < w2.heap.size ∧ db < w2.heap.size ∧ w.heap.size ≤ db ∧ cb < w.heap.size

theorem Low.next {w w2 W : World} {cb n ccap fb tb db : Nat} {mp : Option Nat} {ks : List (Fin 9)} {of lv : Nat → Int} (h : Low w w2 cb n ccap fb tb db mp ks of lv) (hb : Below w2.heap.size w2 W) : Low w W cb n ccap fb tb db mp ks of lv := by
  have k : ∀ (b o : Nat) (v : Value), b < w2.heap.size → w2.cell? ⟨b, o, none⟩ = some v → W.cell? ⟨b, o, none⟩ = some v := fun b o v hlt hv => (hb.cell (p := ⟨b, o, none⟩) hlt).trans hv
  obtain ⟨l1, l2, l3, l4, l5, l6⟩ := h.lt
  have hs := hb.size
  exact ⟨h.bel.trans (hb.mono h.bel.size), k _ _ _ l1 h.sc, k _ _ _ l3 h.tc, fun j hj => k _ _ _ l2 (h.ofc j hj), fun j hj => k _ _ _ (by omega) (h.lvc j hj),
    fun mb e => ⟨(h.own mb e).1, (h.own mb e).2.kept (row := none) ⟨hb.os, hb.tape, hb.output, hb.size, fun k hk _ => hb.block k hk⟩ (by simp)⟩,
    fun i hi => k _ _ _ l4 (h.p0 i hi), fun i hi => k _ _ _ l4 (h.p1 i hi), h.nd, by omega⟩

/-! ### the best cell of a combination -/
def atOf (qf : Nat → Fin 9) (lv : Nat → Int) (q : Fin 9) : Nat → Int
  | 0 => -1
  | k + 1 => if qf k = q ∧ (atOf qf lv q k < 0 ∨ lv (atOf qf lv q k).toNat < lv k) then (k : Int) else atOf qf lv q k

theorem atOf_spec (qf : Nat → Fin 9) (lv : Nat → Int) (q : Fin 9) (n : Nat) :
    (atOf qf lv q n = -1 ∧ ∀ j, j < n → qf j ≠ q) ∨ ∃ b : Nat, atOf qf lv q n = b ∧ b < n ∧ qf b = q ∧ ∀ j, j < n → qf j = q → lv j < lv b ∨ (lv j = lv b ∧ b ≤ j) := by
  induction n with
  | zero => exact .inl ⟨rfl, fun j hj => by omega⟩
  | succ k ih =>
    show (_ ∧ _) ∨ ∃ b : Nat, _
    unfold atOf
    rcases ih with ⟨e, h⟩ | ⟨b, e, hb, hq, h⟩
    · by_cases hk : qf k = q
      · refine .inr ⟨k, by rw [if_pos ⟨hk, .inl (by omega)⟩], by omega, hk, fun j hj hjq => ?_⟩
        by_cases ej : j = k
        · subst ej; exact .inr ⟨rfl, Nat.le_refl _⟩
        · exact absurd hjq (h j (by omega))
      · refine .inl ⟨by rw [if_neg (fun hh => hk hh.1)]; exact e, fun j hj => ?_⟩
        by_cases ej : j = k
        · subst ej; exact hk
        · exact h j (by omega)
    · by_cases hk : qf k = q ∧ lv b < lv k
      · refine .inr ⟨k, by rw [if_pos ⟨hk.1, .inr (by rw [e]; exact hk.2)⟩], by omega, hk.1, fun j hj hjq => ?_⟩
        by_cases ej : j = k
        · subst ej; exact .inr ⟨rfl, Nat.le_refl _⟩
        · have h2 := hk.2
          rcases h j (by omega) hjq with h1 | ⟨h1, _⟩
          · exact .inl (by omega)
          · exact .inl (by omega)
      · refine .inr ⟨b, ?_, by omega, hq, fun j hj hjq => ?_⟩
        · rw [if_neg]
          · exact e
          · rintro ⟨h1, h2⟩
            rw [e] at h2
            rcases h2 with h2 | h2
            · omega
            · exact hk ⟨h1, h2⟩
        · by_cases ej : j = k
          · subst ej
            have : ¬ lv b < lv j := fun hh => hk ⟨hjq, hh⟩
            by_cases e2 : lv j = lv b
            · exact .inr ⟨e2, by omega⟩
            · exact .inl (by omega)
          · exact h j (by omega) hjq

theorem atOf_eq (qf : Nat → Fin 9) (lv : Nat → Int) (q : Fin 9) (n b : Nat) (hb : b < n) (hq : qf b = q) (h : ∀ j, j < n → qf j = q → lv j < lv b ∨ (lv j = lv b ∧ b ≤ j)) : atOf qf lv q n = b := by
  rcases atOf_spec qf lv q n with ⟨_, h1⟩ | ⟨b', e, hb', hq', h1⟩
  · exact absurd hq (h1 b hb)
  · rw [e]
    have a1 := h b' hb' hq'
    have a2 := h1 b hb hq
    omega

/-- the index, whole -/
structure Ix (N : Nat) (W : World) (cb n ccap ib db gb ob : Nat) (mp : Option Nat) (ks : List (Fin 9)) (bst : Nat → Int) : Prop where
  i0 : W.cell? ⟨ib, 0, none⟩ = some (.slice (some ⟨cb, 0, none⟩) n ccap)
  M : Merged W ib 1 db n mp ks
  i3 : W.cell? ⟨ib, 3, none⟩ = some (.slice (some ⟨gb, 0, none⟩) ks.length ks.length)
  ps : ∀ m, m < ks.length → W.cell? ⟨gb, m * 2 + 1, none⟩ = some (.int .i64 0)
  cl : ∀ m, m < ks.length → ∃ so len cap, 0 < len ∧ W.cell? ⟨gb, m * 2, none⟩ = some (.slice (some ⟨ob, so, none⟩) len cap) ∧ W.cell? ⟨ob, so, none⟩ = some (.int .i64 (bst m))
  lt : N ≤ ib ∧ N ≤ db ∧ N ≤ gb ∧ N ≤ ob ∧ (∀ mb, mp = some mb → N ≤ mb) ∧ ib < W.heap.size ∧ db < W.heap.size ∧ gb < W.heap.size ∧ ob < W.heap.size

theorem Ix.next {N : Nat} {W W' : World} {cb n ccap ib db gb ob : Nat} {mp : Option Nat} {ks : List (Fin 9)} {bst : Nat → Int} (h : Ix N W cb n ccap ib db gb ob mp ks bst) {d : Nat} (hg : W.grownBy W' (some d)) (hd : d < N) : Ix N W' cb n ccap ib db gb ob mp ks bst := by
  obtain ⟨l1, l2, l3, l4, l5, l6, l7, l8, l9⟩ := h.lt
  have k : ∀ (b o : Nat) (v : Value), b < W.heap.size → N ≤ b → W.cell? ⟨b, o, none⟩ = some v → W'.cell? ⟨b, o, none⟩ = some v := fun b o v hlt hv hc => keepg hg hc hlt (by omega)
  have hs := hg.size
  refine ⟨k _ _ _ l6 l1 h.i0, ⟨k _ _ _ l6 l1 h.M.c, k _ _ _ l6 l1 h.M.m, fun mb e => (h.M.own mb e).kept hg (by have := l5 mb e; simp; omega), fun i hi => k _ _ _ l7 l2 (h.M.p0 i hi), fun i hi => k _ _ _ l7 l2 (h.M.p1 i hi), h.M.nd⟩, k _ _ _ l6 l1 h.i3, fun m hm => k _ _ _ l8 l3 (h.ps m hm), fun m hm => ?_, ⟨l1, l2, l3, l4, l5, by omega, by omega, by omega, by omega⟩⟩
  obtain ⟨so, len, cap, h0, h1, h2⟩ := h.cl m hm
  exact ⟨so, len, cap, h0, k _ _ _ l8 l3 h1, k _ _ _ l9 l4 h2⟩

/-- the groups, mid-way -/
def SetAt (gc : Array Value) (n ob : Nat) (gi od : Nat → Nat) (m : Nat) : Prop :=
  ∃ so len cap, so < n ∧ 0 < len ∧ gc[m * 2]? = some (.slice (some ⟨ob, so, none⟩) len cap) ∧ gi (od so) = m ∧ ∀ j, j < so → gi (od j) < m
structure Grp (W : World) (gb n M ob : Nat) (gi od : Nat → Nat) (s : Nat) (gc : Array Value) : Prop where
  hp : W.heap[gb]? = some (.cells gc 104 (0, 0))
  sz : gc.size = M * 2
  ps : ∀ i, i < M → gc[i * 2 + 1]? = some (.int .i64 0)
  st : ∀ j, j < s → SetAt gc n ob gi od (gi (od j))
  bd : s < n → ∀ j, j < s → gi (od j) < gi (od s)

theorem Grp.next {W : World} {gb n M ob : Nat} {gi od : Nat → Nat} {s : Nat} {gc : Array Value} (h : Grp W gb n M ob gi od s gc) (e : Nat) (hs : s < e) (hen : e ≤ n) (hg : gi (od s) < M)
    (hsame : ∀ j, s ≤ j → j < e → gi (od j) = gi (od s)) (hstop : e < n → gi (od s) < gi (od e)) (cap : Nat) :
    Grp ((W.setCell ⟨gb, gi (od s) * 2, none⟩ (.slice (some ⟨ob, s, none⟩) (e - s) cap)).drew) gb n M ob gi od e (gc.setIfInBounds (gi (od s) * 2) (.slice (some ⟨ob, s, none⟩) (e - s) cap)) := by
  refine ⟨heap_set _ h.hp, by simpa using h.sz, fun i hi => ?_, fun j hj => ?_, fun hen' j hj => ?_⟩
  · rw [Array.getElem?_setIfInBounds, if_neg (by omega)]
    exact h.ps i hi
  · by_cases ej : j < s
    · obtain ⟨so, len, cp, a1, a2, a3, a4, a5⟩ := h.st j ej
      have hne := h.bd (by omega) j ej
      refine ⟨so, len, cp, a1, a2, ?_, a4, a5⟩
      rw [Array.getElem?_setIfInBounds, if_neg (by omega)]
      exact a3
    · rw [hsame j (by omega) hj]
      refine ⟨s, e - s, cap, by omega, by omega, ?_, rfl, fun j' hj' => h.bd (by omega) j' hj'⟩
      have := h.sz
      have hlt : gi (od s) * 2 < gc.size := by omega
      simp [hlt]
  · by_cases ej : j < s
    · exact Nat.lt_trans (h.bd (by omega) j ej) (hstop hen')
    · rw [hsame j (by omega) hj]
      exact hstop hen'
end Go.Proofs.Ybulkcueg
