import Derived.Test.YbulkcuegFmtMerge
import Derived.Test.YbulkcuegFmtOrd
namespace Go.Proofs.YbulkcuegFmt
open Go.RowKit Go.Maps Go.Shelf

theorem info3 : (Ybaf.prog.info? 3).map (fun i => (i.zero, i.size, i.bytes)) = some (some (.int .i64 0), 1, 8) := by kernel_rfl
theorem info166 : (Ybaf.prog.info? 166).map (fun i => (i.zero, i.size, i.bytes)) = some (some (.agg #[.slice none 0 0, .int .i64 0]), 2, 32) := by kernel_rfl

theorem row_made {w1 : World} {g n : Nat} {xs : List Value} {base e : Nat} (ho : w1.ownsRow base e 1 (.slice (some ⟨g, 0, none⟩) n n) n xs) : ∃ cf, w1.heap[g]? = some (.cells cf e (0, 0)) ∧ cf.size = n := by
  rcases ho.2 with ⟨h, _⟩ | ⟨g, c, cu, h, _, hh, _, _, hc, _⟩
  · cases h
  · simp only [Value.slice.injEq, Option.some.injEq, Addr.mk.injEq] at h
    obtain ⟨⟨rfl, _, _⟩, _, rfl⟩ := h
    exact ⟨cu, hh, by simpa using hc⟩

theorem sort_all (n : Nat) (hm : n ≤ 400) (of lv : Nat → Int) (tb sb fb cb ob fcap ccap : Nat) (W : World)
    (ht : W.cell? ⟨tb, 0, none⟩ = some (.slice (some ⟨fb, 0, none⟩) n fcap)) (hs : W.cell? ⟨sb, 0, none⟩ = some (.slice (some ⟨cb, 0, none⟩) n ccap))
    (hf : ∀ k, k < n → W.cell? ⟨fb, k, none⟩ = some (.int .i64 (of k))) (hl : ∀ k, k < n → W.cell? ⟨cb, k * 6 + 3, none⟩ = some (.int .i64 (lv k)))
    (n1 : tb ≠ ob) (n2 : sb ≠ ob) (n3 : fb ≠ ob) (n4 : cb ≠ ob) (l1 : tb < W.heap.size) (l2 : sb < W.heap.size) (l3 : fb < W.heap.size) (l4 : cb < W.heap.size)
    (co : Array Value) (ho : W.heap[ob]? = some (.cells co 3 (0, 0))) (hc : ∀ j, j < n → co[j]? = some (.int .i64 (j : Nat))) (ocap : Nat) :
    Calls Ybaf.prog 54 #[.slice (some ⟨ob, 0, none⟩) n ocap, .func (.func 55) #[] #[.pointer (some ⟨tb, 0, none⟩), .pointer (some ⟨sb, 0, none⟩)]] W fun e w' =>
      e = .returned (.tuple #[]) ∧ W.grownBy w' (some ob) ∧ ∀ j, j < n → w'.cell? ⟨ob, j, none⟩ = some (.int .i64 (ord n of lv j : Nat)) := by
  cases n with
  | zero =>
    have h := AnyF.slices_SortFunc_none (P := Ybaf.prog) (ρ := Ybaf.sortL_ren) { Ybaf.sortL with } (some ⟨ob, 0, none⟩) ocap (.func (.func 55) #[] #[.pointer (some ⟨tb, 0, none⟩), .pointer (some ⟨sb, 0, none⟩)]) W
    change Calls Ybaf.prog 54 _ _ _ at h
    refine h.mono fun e w' ⟨he, hw⟩ => ⟨he, ?_, fun j hj => by omega⟩
    subst hw
    exact World.grownBy.refl _ _
  | succ m => exact sort_any m hm of lv tb sb fb cb ob fcap ccap W ht hs hf hl n1 n2 n3 n4 l1 l2 l3 l4 co ho hc ocap

/-- what lies below the index -/
structure Low (w w2 : World) (cb n ccap fb tb db : Nat) (mp : Option Nat) (ks : List (Fin 50)) (of lv : Nat → Int) (C : Nat → Value) : Prop where
  bel : Below w.heap.size w w2
  sc : w2.cell? ⟨w.heap.size, 0, none⟩ = some (.slice (some ⟨cb, 0, none⟩) n ccap)
  tc : w2.cell? ⟨tb, 0, none⟩ = some (.slice (some ⟨fb, 0, none⟩) n n)
  ofc : ∀ j, j < n → w2.cell? ⟨fb, j, none⟩ = some (.int .i64 (of j))
  lvc : ∀ k, k < n → w2.cell? ⟨cb, k * 6 + 3, none⟩ = some (.int .i64 (lv k))
  own : ∀ mb, mp = some mb → w.heap.size ≤ mb ∧ w2.ownsMap (H := Unit) Ybaf.prog 60 (plainElem Ybaf.prog 3) mb ks.length (dat ks)
  cd : ∀ x, x < ks.length * 10 → w2.cell? ⟨db, x, none⟩ = some (C x)
  nd : ks.Nodup
  lt : w.heap.size < w2.heap.size ∧ fb < w2.heap.size ∧ tb < w2.heap.size ∧ db < w2.heap.size ∧ w.heap.size ≤ db ∧ cb < w.heap.size

theorem Low.next {w w2 W : World} {cb n ccap fb tb db : Nat} {mp : Option Nat} {ks : List (Fin 50)} {of lv : Nat → Int} {C : Nat → Value} (h : Low w w2 cb n ccap fb tb db mp ks of lv C) (hb : Below w2.heap.size w2 W) : Low w W cb n ccap fb tb db mp ks of lv C := by
  have k : ∀ (b o : Nat) (v : Value), b < w2.heap.size → w2.cell? ⟨b, o, none⟩ = some v → W.cell? ⟨b, o, none⟩ = some v := fun b o v hlt hv => (hb.cell (p := ⟨b, o, none⟩) hlt).trans hv
  obtain ⟨l1, l2, l3, l4, l5, l6⟩ := h.lt
  have hs := hb.size
  exact ⟨h.bel.trans (hb.mono h.bel.size), k _ _ _ l1 h.sc, k _ _ _ l3 h.tc, fun j hj => k _ _ _ l2 (h.ofc j hj), fun j hj => k _ _ _ (by omega) (h.lvc j hj),
    fun mb e => ⟨(h.own mb e).1, (h.own mb e).2.kept (row := none) ⟨hb.os, hb.tape, hb.output, hb.size, fun k hk _ => hb.block k hk⟩ (by simp)⟩,
    fun x hx => k _ _ _ l4 (h.cd x hx), h.nd, by omega⟩

/-- the groups, mid-way -/
def SetAt (gc : Array Value) (n ob : Nat) (gi od : Nat → Nat) (m : Nat) : Prop :=
  ∃ so len cap, so < n ∧ 0 < len ∧ gc[m * 2]? = some (.slice (some ⟨ob, so, none⟩) len cap) ∧ gi (od so) = m ∧ ∀ j, j < so → gi (od j) < m
structure Grp (W : World) (gb n M ob : Nat) (gi od : Nat → Nat) (s : Nat) (gc : Array Value) : Prop where
  hp : W.heap[gb]? = some (.cells gc 166 (0, 0))
  sz : gc.size = M * 2
  ps : ∀ i, i < M → gc[i * 2 + 1]? = some (.int .i64 0)
  st : ∀ j, j < s → SetAt gc n ob gi od (gi (od j))
  bd : s < n → ∀ j, j < s → gi (od j) < gi (od s)

theorem Grp.next {W : World} {gb n M ob : Nat} {gi od : Nat → Nat} {s : Nat} {gc : Array Value} (h : Grp W gb n M ob gi od s gc) (e : Nat) (hs : s < e) (hen : e ≤ n) (hg : gi (od s) < M)
    (hsame : ∀ j, s ≤ j → j < e → gi (od j) = gi (od s)) (hstop : e < n → gi (od s) < gi (od e)) (cap : Nat) :
    Grp ((W.setCell ⟨gb, gi (od s) * 2, none⟩ (.slice (some ⟨ob, s, none⟩) (e - s) cap)).drew) gb n M ob gi od e (gc.setIfInBounds (gi (od s) * 2) (.slice (some ⟨ob, s, none⟩) (e - s) cap)) := by
  refine ⟨heap_set _ h.hp, by simpa using h.sz, fun i hi => ?_, fun j hj => ?_, fun hen' j hj => ?_⟩
  · rw [Array.getElem?_setIfInBounds, if_neg (by omega)]
    exact h.ps i hi
  · by_cases ej : j < s
    · obtain ⟨so, len, cp, a1, a2, a3, a4, a5⟩ := h.st j ej
      have hne := h.bd (by omega) j ej
      refine ⟨so, len, cp, a1, a2, ?_, a4, a5⟩
      rw [Array.getElem?_setIfInBounds, if_neg (by omega)]
      exact a3
    · rw [hsame j (by omega) hj]
      refine ⟨s, e - s, cap, by omega, by omega, ?_, rfl, fun j' hj' => h.bd (by omega) j' hj'⟩
      have := h.sz
      have hlt : gi (od s) * 2 < gc.size := by omega
      simp [hlt]
  · by_cases ej : j < s
    · exact Nat.lt_trans (h.bd (by omega) j ej) (hstop hen')
    · rw [hsame j (by omega) hj]
      exact hstop hen'
end Go.Proofs.YbulkcuegFmt
