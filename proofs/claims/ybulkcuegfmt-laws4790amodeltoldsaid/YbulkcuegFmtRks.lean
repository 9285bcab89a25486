import Derived.Test.YbulkcuegFmtNamed
namespace Go.Proofs.YbulkcuegFmt
open Go.RowKit Go.Maps

/-- the code's right spine -/
def spine : Nat → Code → Code
  | 0, c => c
  | n + 1, .seq _ b => spine n b
  | _ + 1, c => c
def headAt (n : Nat) (c : Code) : Code := match spine n c with
  | .seq a _ => a
  | c => c

/-- the ranker's cells -/
abbrev rkC (O Ho : Nat → Int) (v : Value) (mb : Nat) : Array Value := #[.int .i64 (O 0), .int .i64 (O 1), .int .i64 (O 2), .int .i64 (O 3), .int .i64 (O 4), .int .i64 (O 5), .int .i64 (O 6), .int .i64 (O 7), .int .i64 (O 8), .int .i64 (Ho 0), .int .i64 (Ho 1), .int .i64 (Ho 2), .int .i64 (Ho 3), .int .i64 (Ho 4), .int .i64 (Ho 5), .int .i64 (Ho 6), .int .i64 (Ho 7), .int .i64 (Ho 8), v, .bool false, .bool false, .map (some mb)]
def upd (O : Nat → Int) (a : Nat) (x : Int) : Nat → Int := fun y => if y = a then x else O y

theorem rkC_o (O Ho : Nat → Int) (v : Value) (mb a : Nat) (x : Int) (ha : a < 9) : (rkC O Ho v mb).setIfInBounds a (.int .i64 x) = rkC (upd O a x) Ho v mb := by
  rcases a with _ | _ | _ | _ | _ | _ | _ | _ | _ | a
  · rfl
  · rfl
  · rfl
  · rfl
  · rfl
  · rfl
  · rfl
  · rfl
  · rfl
  · omega
theorem rkC_h (O Ho : Nat → Int) (v : Value) (mb a : Nat) (x : Int) (ha : a < 9) : (rkC O Ho v mb).setIfInBounds (9 + a) (.int .i64 x) = rkC O (upd Ho a x) v mb := by
  rcases a with _ | _ | _ | _ | _ | _ | _ | _ | _ | a
  · rfl
  · rfl
  · rfl
  · rfl
  · rfl
  · rfl
  · rfl
  · rfl
  · rfl
  · omega
theorem rkC_go (O Ho : Nat → Int) (v : Value) (mb a : Nat) (ha : a < 9) : (rkC O Ho v mb)[a]? = some (.int .i64 (O a)) := by
  rcases a with _ | _ | _ | _ | _ | _ | _ | _ | _ | a
  · rfl
  · rfl
  · rfl
  · rfl
  · rfl
  · rfl
  · rfl
  · rfl
  · rfl
  · omega
theorem rkC_gh (O Ho : Nat → Int) (v : Value) (mb a : Nat) (ha : a < 9) : (rkC O Ho v mb)[9 + a]? = some (.int .i64 (Ho a)) := by
  rcases a with _ | _ | _ | _ | _ | _ | _ | _ | _ | a
  · rfl
  · rfl
  · rfl
  · rfl
  · rfl
  · rfl
  · rfl
  · rfl
  · rfl
  · omega

/-- the ranker, as it is made -/
structure RS (w wr : World) (rb mb hb hcap : Nat) (nb : Fin 5 → Option Nat) (n : Nat) (O Ho : Nat → Int) : Prop where
  b : Below w.heap.size w wr
  r : wr.heap[rb]? = some (.cells (rkC O Ho (.slice (some ⟨hb, 0, none⟩) 1 hcap) mb) 113 (0, 0))
  h : wr.cell? ⟨hb, 0, none⟩ = some (.string (dig 1))
  m : NMap wr mb nb n
  f : ∀ d b, nb d = some b → w.heap.size ≤ b ∧ b ≠ hb ∧ wr.heap[b]? = some (.cells (nameC true) 124 (0, 0))
  lt : w.heap.size ≤ rb ∧ w.heap.size ≤ mb ∧ w.heap.size ≤ hb ∧ rb ≠ mb ∧ hb ≠ rb ∧ hb ≠ mb

theorem RS.below {w wr wr' : World} {rb mb hb hcap : Nat} {nb : Fin 5 → Option Nat} {n : Nat} {O Ho : Nat → Int} (h : RS w wr rb mb hb hcap nb n O Ho) (hb' : Below wr.heap.size wr wr') : RS w wr' rb mb hb hcap nb n O Ho :=
  ⟨h.b.trans (hb'.mono h.b.size), (hb'.block _ (lt_of_heap h.r)).trans h.r, (hb'.cell (p := ⟨hb, 0, none⟩) (lt_of_cell h.h)).trans h.h, h.m.below hb', fun d b e => ⟨(h.f d b e).1, (h.f d b e).2.1, (hb'.block _ (lt_of_heap (h.f d b e).2.2)).trans (h.f d b e).2.2⟩, h.lt⟩

theorem ne_heap {w : World} {a b : Nat} {x y : Obj} (h1 : w.heap[a]? = some x) (h2 : w.heap[b]? = some y) (hne : x ≠ y) : a ≠ b := fun e => hne (by subst e; rw [h1] at h2; exact Option.some.inj h2)

theorem RS.setR {w wr : World} {rb mb hb hcap : Nat} {nb : Fin 5 → Option Nat} {n : Nat} {O Ho O' Ho' : Nat → Int} (h : RS w wr rb mb hb hcap nb n O Ho) (k : Nat) (v : Value) (hs : (rkC O Ho (.slice (some ⟨hb, 0, none⟩) 1 hcap) mb).setIfInBounds k v = rkC O' Ho' (.slice (some ⟨hb, 0, none⟩) 1 hcap) mb) : RS w (wr.setCell ⟨rb, k, none⟩ v) rb mb hb hcap nb n O' Ho' := by
  obtain ⟨l1, l2, l3, l4, l5, l6⟩ := h.lt
  refine ⟨h.b.setCell (p := ⟨rb, k, none⟩) l1 v, by rw [heap_set v h.r, hs], cell_set h.h l5, h.m.of_block (Below.heap_setCell _ _ _ _ l4.symm), fun d b e => ⟨(h.f d b e).1, (h.f d b e).2.1, ?_⟩, h.lt⟩
  have hne : b ≠ rb := ne_heap (h.f d b e).2.2 h.r (by intro e; injection e with _ e _; exact absurd e (by decide))
  rw [Below.heap_setCell _ _ _ _ hne]
  exact (h.f d b e).2.2
theorem RS.setO {w wr : World} {rb mb hb hcap : Nat} {nb : Fin 5 → Option Nat} {n : Nat} {O Ho : Nat → Int} (h : RS w wr rb mb hb hcap nb n O Ho) (a : Nat) (ha : a < 9) (x : Int) : RS w (wr.setCell ⟨rb, a, none⟩ (.int .i64 x)) rb mb hb hcap nb n (upd O a x) Ho := h.setR a _ (rkC_o O Ho _ mb a x ha)
theorem RS.setH {w wr : World} {rb mb hb hcap : Nat} {nb : Fin 5 → Option Nat} {n : Nat} {O Ho : Nat → Int} (h : RS w wr rb mb hb hcap nb n O Ho) (a : Nat) (ha : a < 9) (x : Int) : RS w (wr.setCell ⟨rb, 9 + a, none⟩ (.int .i64 x)) rb mb hb hcap nb n O (upd Ho a x) := h.setR (9 + a) _ (rkC_h O Ho _ mb a x ha)

/-- a network that is named already is marked -/
theorem RS.mark {w wr wr' : World} {rb mb hb hcap : Nat} {nb : Fin 5 → Option Nat} {n : Nat} {O Ho : Nat → Int} (h : RS w wr rb mb hb hcap nb n O Ho) (hb' : Below wr.heap.size wr wr') {d : Fin 5} {b : Nat} (hd : nb d = some b) : RS w (wr'.setCell ⟨b, 0, none⟩ (.bool true)) rb mb hb hcap nb n O Ho := by
  have h := h.below hb'
  obtain ⟨l1, l2, l3, l4, l5, l6⟩ := h.lt
  obtain ⟨g1, g2, g3⟩ := h.f d b hd
  have n1 : b ≠ rb := ne_heap g3 h.r (by intro e; injection e with _ e _; exact absurd e (by decide))
  have n2 : b ≠ mb := by
    obtain ⟨D, ⟨es, cl, hh, _⟩, _⟩ := h.m
    exact ne_heap g3 hh (by intro e; cases e)
  refine ⟨h.b.setCell (p := ⟨b, 0, none⟩) g1 _, by rw [Below.heap_setCell _ _ _ _ n1.symm]; exact h.r, cell_set h.h (Ne.symm g2), h.m.of_block (Below.heap_setCell _ _ _ _ n2.symm), fun d' b' e => ⟨(h.f d' b' e).1, (h.f d' b' e).2.1, ?_⟩, h.lt⟩
  by_cases eb : b' = b
  · subst eb
    rw [heap_set _ g3]
    rfl
  · rw [Below.heap_setCell _ _ _ _ eb]
    exact (h.f d' b' e).2.2

/-- a network is named, and marked -/
theorem RS.name {w wr wr' : World} {rb mb hb hcap : Nat} {nb : Fin 5 → Option Nat} {n : Nat} {O Ho : Nat → Int} (h : RS w wr rb mb hb hcap nb n O Ho) {d : Fin 5} {b : Nat} (hbl : wr.heap.size ≤ b) (hg : wr.grownBy wr' (some mb)) (hm : NMap wr' mb (fun x => if x = d then some b else nb x) (n + 1)) (hc : wr'.heap[b]? = some (.cells (nameC false) 124 (0, 0))) :
    RS w (wr'.setCell ⟨b, 0, none⟩ (.bool true)) rb mb hb hcap (fun x => if x = d then some b else nb x) (n + 1) O Ho := by
  obtain ⟨l1, l2, l3, l4, l5, l6⟩ := h.lt
  have hs := h.b.size
  have r1 := lt_of_heap h.r
  have r2 := lt_of_cell h.h
  have r3 := h.m.lt
  have keep : ∀ k, k < wr.heap.size → k ≠ mb → (wr'.setCell ⟨b, 0, none⟩ (.bool true)).heap[k]? = wr.heap[k]? := fun k hk hne => (Below.heap_setCell _ _ _ _ (by show k ≠ b; omega)).trans (hg.block k hk (by simpa using hne))
  refine ⟨⟨hg.os.trans h.b.os, hg.tape.trans h.b.tape, hg.output.trans h.b.output, by have := hg.size; simp [World.setCell]; omega, fun k hk => (keep k (by omega) (by omega)).trans (h.b.block k hk)⟩, by rw [keep _ r1 l4]; exact h.r, ?_, hm.of_block (Below.heap_setCell _ _ _ _ (by show mb ≠ b; omega)), fun d' b' e => ?_, h.lt⟩
  · rw [World.cell?_of_block (w := wr) (a := ⟨hb, 0, none⟩) (keep _ r2 l6)]
    exact h.h
  · by_cases ed : d' = d
    · simp only [ed, if_true, Option.some.injEq] at e
      subst e
      refine ⟨by omega, by omega, ?_⟩
      rw [heap_set _ hc]
      rfl
    · simp only [ed, if_false] at e
      obtain ⟨g1, g2, g3⟩ := h.f d' b' e
      have hl := lt_of_heap g3
      have n2 : b' ≠ mb := by
        obtain ⟨D, ⟨es, cl, hh, _⟩, _⟩ := h.m
        exact ne_heap g3 hh (by intro e; cases e)
      exact ⟨g1, g2, by rw [keep b' hl n2]; exact g3⟩

/-! ### the orders -/
def ordK (dl : List Int) (k : Nat) (a : Nat) : Int := if (a : Int) ∈ dl.take k then ((dl.idxOf (a : Int) : Nat) : Int) + 1 else 0
def hoK (dl hl : List Int) (k : Nat) (a : Nat) : Int := if (a : Int) ∈ hl.take k then ((hl.idxOf (a : Int) : Nat) : Int) + 1 else if (a : Int) ∈ dl then (hl.length : Int) + ((dl.idxOf (a : Int) : Nat) : Int) + 1 else 0
def hdK (dl : List Int) (m : Nat) (k : Nat) (a : Nat) : Int := if (a : Int) ∈ dl.take k then (m : Int) + ((dl.idxOf (a : Int) : Nat) : Int) + 1 else 0

theorem take_snoc {dl : List Int} {k : Nat} (hk : k < dl.length) (x : Int) : x ∈ dl.take (k + 1) ↔ x ∈ dl.take k ∨ x = dl.getD k 0 := by
  rw [List.take_add_one, List.mem_append, List.getElem?_eq_getElem hk, Option.toList_some, List.mem_singleton, show dl.getD k 0 = dl[k] by simp [List.getD, hk]]
theorem idx_at {dl : List Int} (hn : dl.Nodup) {k : Nat} (hk : k < dl.length) : dl.idxOf (dl.getD k 0) = k := by
  have hm : dl.getD k 0 ∈ dl := by simp [List.getD, hk]
  have hl := List.idxOf_lt_length_of_mem hm
  have e1 : dl[dl.idxOf (dl.getD k 0)]'hl = dl.getD k 0 := List.getElem_idxOf hl
  have e2 : dl[k]'hk = dl.getD k 0 := by simp [List.getD, hk]
  exact (List.getElem_inj hn).1 (e1.trans e2.symm)
theorem ordK_step {dl : List Int} (hn : dl.Nodup) {k a : Nat} (hk : k < dl.length) (ha : dl.getD k 0 = (a : Int)) : upd (ordK dl k) a ((k : Int) + 1) = ordK dl (k + 1) := by
  funext y
  unfold upd ordK
  have hi := idx_at hn hk
  rw [ha] at hi
  by_cases e : y = a
  · subst e
    rw [if_pos rfl, if_pos ((take_snoc hk _).2 (.inr ha.symm)), hi]
  · rw [if_neg e]
    have : ((y : Int) ∈ dl.take (k + 1)) ↔ ((y : Int) ∈ dl.take k) := by
      rw [take_snoc hk, ha]
      constructor
      · rintro (h | h)
        · exact h
        · omega
      · exact .inl
    simp only [this]
theorem hdK_step {dl : List Int} (hn : dl.Nodup) (m : Nat) {k a : Nat} (hk : k < dl.length) (ha : dl.getD k 0 = (a : Int)) : upd (hdK dl m k) a ((m : Int) + (k : Int) + 1) = hdK dl m (k + 1) := by
  funext y
  unfold upd hdK
  have hi := idx_at hn hk
  rw [ha] at hi
  by_cases e : y = a
  · subst e
    rw [if_pos rfl, if_pos ((take_snoc hk _).2 (.inr ha.symm)), hi]
  · rw [if_neg e]
    have : ((y : Int) ∈ dl.take (k + 1)) ↔ ((y : Int) ∈ dl.take k) := by
      rw [take_snoc hk, ha]
      constructor
      · rintro (h | h)
        · exact h
        · omega
      · exact .inl
    simp only [this]
theorem hoK_start (dl hl : List Int) : hdK dl hl.length dl.length = hoK dl hl 0 := by
  funext y
  unfold hdK hoK
  simp
theorem hoK_step (dl : List Int) {hl : List Int} (hn : hl.Nodup) {k a : Nat} (hk : k < hl.length) (ha : hl.getD k 0 = (a : Int)) : upd (hoK dl hl k) a ((k : Int) + 1) = hoK dl hl (k + 1) := by
  funext y
  unfold upd hoK
  have hi := idx_at hn hk
  rw [ha] at hi
  by_cases e : y = a
  · subst e
    rw [if_pos rfl, if_pos ((take_snoc hk _).2 (.inr ha.symm)), hi]
  · rw [if_neg e]
    have : ((y : Int) ∈ hl.take (k + 1)) ↔ ((y : Int) ∈ hl.take k) := by
      rw [take_snoc hk, ha]
      constructor
      · rintro (h | h)
        · exact h
        · omega
      · exact .inl
    simp only [this]
end Go.Proofs.YbulkcuegFmt
