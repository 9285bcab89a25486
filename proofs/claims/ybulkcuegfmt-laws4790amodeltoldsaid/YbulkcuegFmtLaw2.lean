import Derived.Test.YbulkcuegFmtLaw1
namespace Go.Proofs.YbulkcuegFmt
open Go.RowKit Go.Maps

/-- the place in a list, or -1 -/
def ixOf (l : List Int) (x : Int) : Int := if x ∈ l then ((l.idxOf x : Nat) : Int) else -1
theorem ix_fst {l : List Int} {x r : Int} (h : IsFst (fun j => x == l.getD j 0) l.length r) : r = ixOf l x := by
  unfold ixOf
  rcases h with ⟨h1, h2⟩ | ⟨k, h1, h2, h3, h4⟩
  · rw [if_neg, h1]
    intro hm
    obtain ⟨j, hj, e⟩ := List.mem_iff_getElem.1 hm
    have := h2 j hj
    simp [List.getD, hj, e] at this
  · have e : l[k] = x := by
      have := h3
      simp [List.getD, h2] at this
      exact this.symm
    have hm : x ∈ l := by rw [← e]; exact List.getElem_mem h2
    rw [if_pos hm, h1]
    congr 1
    have hlt := List.idxOf_lt_length_of_mem hm
    have he : l[l.idxOf x]'hlt = x := List.getElem_idxOf hlt
    rcases Nat.lt_trichotomy k (l.idxOf x) with h | h | h
    · exact absurd e (by
        intro e'
        have := List.not_of_lt_findIdx (p := fun y => y == x) (xs := l) (i := k) h
        simp [e'] at this)
    · exact h
    · have := h4 _ h
      simp [List.getD, hlt, he] at this
theorem idxRow {W : World} {v : Value} {l : List Int} (R : RowV W v l.length (fun i => .int .u16 (l.getD i 0))) (hl : l.length ≤ 300) (x : Int) : Calls Ybaf.prog 9 #[v, .int .u16 x] W fun e W' => e = .returned (.int .i64 (ixOf l x)) ∧ W = W' := by
  rcases R with ⟨rfl, h0⟩ | ⟨b, o, cap, rfl, _, h4⟩
  · have h := indexAct_any none 0 0 0 0 (fun i => l.getD i 0) x W (by omega) (fun h => absurd h (by omega)) (fun i hi => absurd hi (by omega))
    refine h.mono ?_
    rintro e W' ⟨r, rfl, hr, rfl⟩
    rw [← h0] at hr
    rw [ix_fst hr]
    exact ⟨rfl, rfl⟩
  · refine (indexAct_any (some ⟨b, o, none⟩) b o l.length cap (fun i => l.getD i 0) x W (by omega) (fun _ => rfl) h4).mono ?_
    rintro e W' ⟨r, rfl, hr, rfl⟩
    rw [ix_fst hr]
    exact ⟨rfl, rfl⟩
theorem fN_some (n6 : Nat) (fl : Nat → Fin 5) (d : Fin 5) : (fN n6 fl d).isSome = true ↔ ∃ i, i < n6 ∧ fl i = d := by
  unfold fN
  by_cases h : ∃ i, i < n6 ∧ fl i = d
  · rw [if_pos h]; exact ⟨fun _ => h, fun _ => rfl⟩
  · rw [if_neg h]; exact ⟨fun e => (by cases e), fun e => absurd e h⟩
theorem hasRow {W : World} {v : Value} {n6 : Nat} {fl : Nat → Fin 5} (R : RowV W v n6 (fun i => .string (dig (fl i).val))) (hl : n6 ≤ 300) (q : Fin 50) : Calls Ybaf.prog 10 #[v, .agg #[.string (kd q)]] W fun e W' => e = .returned (.bool (fN n6 fl (nt q)).isSome) ∧ Below W.heap.size W W' := by
  have key : ∀ t : Bool, (t = true ↔ ∃ j, j < n6 ∧ fl j = nt q) → t = (fN n6 fl (nt q)).isSome := fun t ht => by
    rw [← fN_some] at ht
    cases t <;> cases h : (fN n6 fl (nt q)).isSome <;> simp_all
  rw [kd_nt]
  rcases R with ⟨rfl, h0⟩ | ⟨b, o, cap, rfl, _, h4⟩
  · have h := containsPlmn_any none 0 0 0 0 fl (nt q) W (by omega) (fun h => absurd h (by omega)) (fun i hi => absurd hi (by omega))
    refine h.mono ?_
    rintro e W' ⟨t, rfl, ht, hb⟩
    rw [← h0] at ht
    rw [key t ht]
    exact ⟨rfl, hb⟩
  · refine (containsPlmn_any (some ⟨b, o, none⟩) b o n6 cap fl (nt q) W (by omega) (fun _ => rfl) h4).mono ?_
    rintro e W' ⟨t, rfl, ht, hb⟩
    rw [key t ht]
    exact ⟨rfl, hb⟩

/-! ### what the fifth loop finds -/
section
variable (dl hl : List Int) (nb : Fin 5 → Option Nat)
theorem el_zero {q : Fin 50} (h : nt q = 0) : elig dl nb q = false ∧ ¬ aside dl nb q := by
  refine ⟨by simp [elig, h], fun h' => h'.1 h⟩
theorem el_big {q : Fin 50} (h : ¬ ka q < 9) : elig dl nb q = false ∧ ¬ aside dl nb q := by
  refine ⟨by simp [elig, sup, h], fun h' => ?_⟩
  have := h'.2.1
  simp [sup, h] at this
theorem el_dev {q : Fin 50} (h : ka q ∉ dl) : elig dl nb q = false ∧ ¬ aside dl nb q := by
  refine ⟨by simp [elig, sup, h], fun h' => ?_⟩
  have := h'.2.1
  simp [sup, h] at this
theorem el_forb {q : Fin 50} (h0 : nt q ≠ 0) (h1 : ka q < 9) (h2 : ka q ∈ dl) (h3 : nt q ≠ 1) (h4 : (nb (nt q)).isSome = true) : elig dl nb q = false ∧ aside dl nb q := by
  refine ⟨?_, h0, by simp [sup, h1, h2], h3, h4⟩
  have : (nb (nt q)).isNone = false := by cases h : nb (nt q) <;> simp_all
  simp [elig, h3, this]
theorem el_free {q : Fin 50} (h0 : nt q ≠ 0) (h1 : ka q < 9) (h2 : ka q ∈ dl) (h4 : nt q = 1 ∨ (nb (nt q)).isSome = false) : elig dl nb q = true ∧ ¬ aside dl nb q := by
  refine ⟨?_, fun h' => ?_⟩
  · have : nt q = 1 ∨ (nb (nt q)).isNone = true := by
      rcases h4 with h | h
      · exact .inl h
      · refine .inr ?_
        cases h' : nb (nt q) <;> simp_all
    simp only [elig, sup, decide_eq_true h0, decide_eq_true h1, decide_eq_true h2, Bool.true_and]
    rcases this with h | h
    · simp [h]
    · rw [h, Bool.or_true]
  · rcases h4 with h | h
    · exact h'.2.2.1 h
    · rw [h'.2.2.2] at h
      cases h
theorem wit_in {q : Fin 50} (h1 : nt q = 1) (h : ka q ∈ hl) : witOf dl hl q = ((hl.idxOf (ka q) : Nat) : Int) + 1 := by
  obtain ⟨a, ha, _⟩ := ka_nat q
  unfold witOf hoK
  rw [if_pos h1, List.take_length, ha, Int.toNat_natCast]
  rw [ha] at h
  rw [if_pos h]
theorem wit_out {q : Fin 50} (h1 : nt q = 1) (h : ka q ∉ hl) (h2 : ka q ∈ dl) : witOf dl hl q = (hl.length : Int) + ((dl.idxOf (ka q) : Nat) : Int) + 1 := by
  obtain ⟨a, ha, _⟩ := ka_nat q
  unfold witOf hoK
  rw [if_pos h1, List.take_length, ha, Int.toNat_natCast]
  rw [ha] at h h2
  rw [if_neg h, if_pos h2]
theorem wit_far {q : Fin 50} (h1 : nt q ≠ 1) : witOf dl hl q = 0 := by
  unfold witOf
  rw [if_neg h1]
end
theorem ix_in {l : List Int} {x : Int} (h : x ∈ l) : ixOf l x = ((l.idxOf x : Nat) : Int) := if_pos h
theorem ix_out {l : List Int} {x : Int} (h : x ∉ l) : ixOf l x = -1 := if_neg h
/-- the count of the eligible, step by step -/
def elT (ks : List (Fin 50)) (el : Fin 50 → Bool) (k : Nat) : Nat := ((ks.take k).filter el).length
theorem elT_zero (ks : List (Fin 50)) (el : Fin 50 → Bool) : elT ks el 0 = 0 := by simp [elT]
theorem elT_all (ks : List (Fin 50)) (el : Fin 50 → Bool) : elT ks el ks.length = (ks.filter el).length := by simp [elT]
theorem elT_yes {ks : List (Fin 50)} {el : Fin 50 → Bool} {k : Nat} (hk : k < ks.length) (h : el (ks.getD k 0) = true) : elT ks el (k + 1) = elT ks el k + 1 := by
  unfold elT
  rw [take_filter_snoc _ hk, if_pos h, List.length_append]
  rfl
theorem elT_no {ks : List (Fin 50)} {el : Fin 50 → Bool} {k : Nat} (hk : k < ks.length) (h : el (ks.getD k 0) = false) : elT ks el (k + 1) = elT ks el k := by
  unfold elT
  rw [take_filter_snoc _ hk, if_neg (by rw [h]; decide), List.append_nil]
theorem elT_le (ks : List (Fin 50)) (el : Fin 50 → Bool) (k : Nat) : elT ks el k ≤ k := by
  unfold elT
  refine Nat.le_trans (List.length_filter_le _ _) ?_
  simp
  omega
theorem set_same {W1 W : World} {b k : Nat} {v : Value} (e : W1.heap[b]? = W.heap[b]?) : (W1.setCell ⟨b, k, none⟩ v).heap[b]? = (W.setCell ⟨b, k, none⟩ v).heap[b]? := by
  simp [World.setCell, Array.getElem?_modify, e]
/-- the fifth loop, mid-way -/
structure L5 (W0 W : World) (ks : List (Fin 50)) (el : Fin 50 → Bool) (cl ho : Fin 50 → Int) (sa : Fin 50 → Prop) (eb sb hb k : Nat) (sf : Bool) : Prop where
  b : Below W0.heap.size W0 W
  e : ∃ D, Bw W eb ks.length D ∧ (∀ j, j < k → D j = el (ks.getD j 0)) ∧ ∀ j, k ≤ j → D j = false
  s : ∃ D, Rw W sb ks.length D ∧ (∀ j, j < k → el (ks.getD j 0) = true → D j = cl (ks.getD j 0)) ∧ ∀ j, k ≤ j → D j = 0
  h : ∃ D, Rw W hb ks.length D ∧ (∀ j, j < k → el (ks.getD j 0) = true → D j = ho (ks.getD j 0)) ∧ ∀ j, k ≤ j → D j = 0
  f : sf = true ↔ ∃ j, j < k ∧ sa (ks.getD j 0)
  lt : W0.heap.size ≤ eb ∧ W0.heap.size ≤ sb ∧ W0.heap.size ≤ hb ∧ eb ≠ sb ∧ eb ≠ hb ∧ sb ≠ hb

section
variable {W0 W W' : World} {ks : List (Fin 50)} {el : Fin 50 → Bool} {cl ho : Fin 50 → Int} {sa : Fin 50 → Prop} {eb sb hb k : Nat} {sf : Bool}
theorem L5.next (h : L5 W0 W ks el cl ho sa eb sb hb k sf) (g : Below W.heap.size W W') : L5 W0 W' ks el cl ho sa eb sb hb k sf := by
  obtain ⟨D1, e1, e2⟩ := h.e
  obtain ⟨D2, s1, s2⟩ := h.s
  obtain ⟨D3, h1, h2⟩ := h.h
  exact ⟨h.b.trans (g.mono h.b.size), ⟨D1, e1.of_block (g.block _ e1.lt), e2⟩, ⟨D2, s1.below g, s2⟩, ⟨D3, h1.below g, h2⟩, h.f, h.lt⟩
/-- a round that leaves the combination out -/
theorem L5.skip (h : L5 W0 W ks el cl ho sa eb sb hb k sf) (he : el (ks.getD k 0) = false) (ha : ¬ sa (ks.getD k 0)) : L5 W0 W ks el cl ho sa eb sb hb (k + 1) sf := by
  obtain ⟨D1, e1, e2, e3⟩ := h.e
  obtain ⟨D2, s1, s2, s3⟩ := h.s
  obtain ⟨D3, h1, h2, h3⟩ := h.h
  refine ⟨h.b, ⟨D1, e1, fun j hj => ?_, fun j hj => e3 j (by omega)⟩, ⟨D2, s1, fun j hj hq => ?_, fun j hj => s3 j (by omega)⟩, ⟨D3, h1, fun j hj hq => ?_, fun j hj => h3 j (by omega)⟩, ?_, h.lt⟩
  · by_cases e : j = k
    · subst e; rw [e3 j (by omega), he]
    · exact e2 j (by omega)
  · by_cases e : j = k
    · subst e; rw [he] at hq; cases hq
    · exact s2 j (by omega) hq
  · by_cases e : j = k
    · subst e; rw [he] at hq; cases hq
    · exact h2 j (by omega) hq
  · rw [h.f]
    constructor
    · rintro ⟨j, hj, hh⟩; exact ⟨j, by omega, hh⟩
    · rintro ⟨j, hj, hh⟩
      by_cases e : j = k
      · subst e; exact absurd hh ha
      · exact ⟨j, by omega, hh⟩
theorem L5.forb (h : L5 W0 W ks el cl ho sa eb sb hb k sf) (he : el (ks.getD k 0) = false) (ha : sa (ks.getD k 0)) : L5 W0 W ks el cl ho sa eb sb hb (k + 1) true := by
  obtain ⟨D1, e1, e2, e3⟩ := h.e
  obtain ⟨D2, s1, s2, s3⟩ := h.s
  obtain ⟨D3, h1, h2, h3⟩ := h.h
  refine ⟨h.b, ⟨D1, e1, fun j hj => ?_, fun j hj => e3 j (by omega)⟩, ⟨D2, s1, fun j hj hq => ?_, fun j hj => s3 j (by omega)⟩, ⟨D3, h1, fun j hj hq => ?_, fun j hj => h3 j (by omega)⟩, ⟨fun _ => ⟨k, by omega, ha⟩, fun _ => rfl⟩, h.lt⟩
  · by_cases e : j = k
    · subst e; rw [e3 j (by omega), he]
    · exact e2 j (by omega)
  · by_cases e : j = k
    · subst e; rw [he] at hq; cases hq
    · exact s2 j (by omega) hq
  · by_cases e : j = k
    · subst e; rw [he] at hq; cases hq
    · exact h2 j (by omega) hq
/-- a round that takes the combination -/
theorem L5.take (h : L5 W0 W ks el cl ho sa eb sb hb k sf) (he : el (ks.getD k 0) = true) (ha : ¬ sa (ks.getD k 0)) (w1 : Below W0.heap.size W0 W')
    (oe : W'.heap[eb]? = (W.setCell ⟨eb, k, none⟩ (.bool true)).heap[eb]?) (os : W'.heap[sb]? = (W.setCell ⟨sb, k, none⟩ (.int .i64 (cl (ks.getD k 0)))).heap[sb]?) (oh : W'.heap[hb]? = (W.setCell ⟨hb, k, none⟩ (.int .i64 (ho (ks.getD k 0)))).heap[hb]? ∨ (ho (ks.getD k 0) = 0 ∧ W'.heap[hb]? = W.heap[hb]?)) :
    L5 W0 W' ks el cl ho sa eb sb hb (k + 1) sf := by
  obtain ⟨D1, e1, e2, e3⟩ := h.e
  obtain ⟨D2, s1, s2, s3⟩ := h.s
  obtain ⟨D3, h1, h2, h3⟩ := h.h
  have hh : Rw W' hb ks.length (upd D3 k (ho (ks.getD k 0))) := by
    rcases oh with oh | ⟨h0, oh⟩
    · exact (h1.set k _).of_block oh
    · obtain ⟨cs, c1, c2, c3⟩ := h1
      refine ⟨cs, oh.trans c1, c2, fun i hi => ?_⟩
      rw [c3 i hi]
      unfold upd
      by_cases e : i = k
      · rw [if_pos e, h0, e, h3 k (by omega)]
      · rw [if_neg e]
  refine ⟨w1, ⟨_, (e1.set k true).of_block oe, fun j hj => ?_, fun j hj => ?_⟩, ⟨_, (s1.set k _).of_block os, fun j hj hq => ?_, fun j hj => ?_⟩, ⟨_, hh, fun j hj hq => ?_, fun j hj => ?_⟩, ?_, h.lt⟩
  · by_cases e : j = k
    · subst e; simp only [if_true]; rw [he]
    · simp only [e, if_false]; exact e2 j (by omega)
  · simp only [show ¬ j = k by omega, if_false]; exact e3 j (by omega)
  · unfold upd
    by_cases e : j = k
    · subst e; rw [if_pos rfl]
    · rw [if_neg e]; exact s2 j (by omega) hq
  · unfold upd; rw [if_neg (by omega)]; exact s3 j (by omega)
  · unfold upd
    by_cases e : j = k
    · subst e; rw [if_pos rfl]
    · rw [if_neg e]; exact h2 j (by omega) hq
  · unfold upd; rw [if_neg (by omega)]; exact h3 j (by omega)
  · rw [h.f]
    constructor
    · rintro ⟨j, hj, hj'⟩; exact ⟨j, by omega, hj'⟩
    · rintro ⟨j, hj, hj'⟩
      by_cases e : j = k
      · subst e; exact absurd hj' ha
      · exact ⟨j, by omega, hj'⟩
theorem L5.take3 (h : L5 W0 W ks el cl ho sa eb sb hb k sf) (he : el (ks.getD k 0) = true) (ha : ¬ sa (ks.getD k 0)) {c x : Int} (hc : cl (ks.getD k 0) = c) (hx : ho (ks.getD k 0) = x) :
    L5 W0 (((W.setCell ⟨eb, k, none⟩ (.bool true)).setCell ⟨sb, k, none⟩ (.int .i64 c)).setCell ⟨hb, k, none⟩ (.int .i64 x)) ks el cl ho sa eb sb hb (k + 1) sf := by
  obtain ⟨l1, l2, l3, l4, l5, l6⟩ := h.lt
  subst hc hx
  refine h.take he ha (((h.b.setCell (p := ⟨eb, k, none⟩) l1 _).setCell (p := ⟨sb, k, none⟩) l2 _).setCell (p := ⟨hb, k, none⟩) l3 _) ?_ ?_ (.inl ?_)
  · exact (Below.heap_setCell _ _ _ _ l5).trans (Below.heap_setCell _ _ _ _ l4)
  · exact (Below.heap_setCell _ _ _ _ l6).trans (set_same (Below.heap_setCell _ _ _ _ (Ne.symm l4)))
  · exact set_same ((Below.heap_setCell _ _ _ _ (Ne.symm l6)).trans (Below.heap_setCell _ _ _ _ (Ne.symm l5)))
theorem L5.take2 (h : L5 W0 W ks el cl ho sa eb sb hb k sf) (he : el (ks.getD k 0) = true) (ha : ¬ sa (ks.getD k 0)) {c : Int} (hc : cl (ks.getD k 0) = c) (hx : ho (ks.getD k 0) = 0) :
    L5 W0 ((W.setCell ⟨eb, k, none⟩ (.bool true)).setCell ⟨sb, k, none⟩ (.int .i64 c)) ks el cl ho sa eb sb hb (k + 1) sf := by
  obtain ⟨l1, l2, l3, l4, l5, l6⟩ := h.lt
  subst hc
  refine h.take he ha ((h.b.setCell (p := ⟨eb, k, none⟩) l1 _).setCell (p := ⟨sb, k, none⟩) l2 _) ?_ ?_ (.inr ⟨hx, ?_⟩)
  · exact Below.heap_setCell _ _ _ _ l4
  · exact set_same (Below.heap_setCell _ _ _ _ (Ne.symm l4))
  · exact (Below.heap_setCell _ _ _ _ (Ne.symm l6)).trans (Below.heap_setCell _ _ _ _ (Ne.symm l5))
/-- what the round may read and write -/
theorem L5.at (h : L5 W0 W ks el cl ho sa eb sb hb k sf) (hk : k < ks.length) : (W.cell? ⟨eb, k, none⟩ = some (.bool false) ∧ W.cell? ⟨sb, k, none⟩ = some (.int .i64 0) ∧ W.cell? ⟨hb, k, none⟩ = some (.int .i64 0)) ∧ W.frozen? ⟨eb, k, none⟩ = false ∧ W.frozen? ⟨sb, k, none⟩ = false ∧ W.frozen? ⟨hb, k, none⟩ = false := by
  obtain ⟨D1, e1, e2, e3⟩ := h.e
  obtain ⟨D2, s1, s2, s3⟩ := h.s
  obtain ⟨D3, h1, h2, h3⟩ := h.h
  exact ⟨⟨by rw [e1.get hk, e3 k (by omega)], by rw [s1.get hk, s3 k (by omega)], by rw [h1.get hk, h3 k (by omega)]⟩, e1.fz k, s1.fz k, h1.fz k⟩
theorem cells_ne {W : World} {b c : Nat} {cs cs' : Array Value} {t t' : TypeId} (h1 : W.heap[b]? = some (.cells cs t (0, 0))) (h2 : W.heap[c]? = some (.cells cs' t' (0, 0))) (ht : t ≠ t') : b ≠ c := fun e => by
  subst e
  rw [h1] at h2
  injection h2 with h2
  injection h2 with _ h2 _
  exact ht h2
theorem L5.off (h : L5 W0 W ks el cl ho sa eb sb hb k sf) {b : Nat} {cs : Array Value} {t : TypeId} (hb' : W.heap[b]? = some (.cells cs t (0, 0))) (h4 : t ≠ 4) (h3 : t ≠ 3) : b ≠ eb ∧ b ≠ sb ∧ b ≠ hb := by
  obtain ⟨D1, ⟨c1, e1, _⟩, _⟩ := h.e
  obtain ⟨D2, ⟨c2, s1, _⟩, _⟩ := h.s
  obtain ⟨D3, ⟨c3, h1, _⟩, _⟩ := h.h
  exact ⟨cells_ne hb' e1 h4, cells_ne hb' s1 h3, cells_ne hb' h1 h3⟩
theorem L5.start {w1 w2 w3 : World} (g1 : W0.grownBy w1 none) (g2 : w1.grownBy w2 none) (g3 : w2.grownBy w3 none) (u1 : Bw w1 W0.heap.size ks.length (fun _ => false)) (u2 : Rw w2 w1.heap.size ks.length (fun _ => 0)) (u3 : Rw w3 w2.heap.size ks.length (fun _ => 0)) :
    L5 W0 w3 ks el cl ho sa W0.heap.size w1.heap.size w2.heap.size 0 false := by
  have b1 : Below W0.heap.size W0 w1 := ⟨g1.os, g1.tape, g1.output, g1.size, fun k hk => g1.block k hk (by simp)⟩
  have b2 : Below w1.heap.size w1 w2 := ⟨g2.os, g2.tape, g2.output, g2.size, fun k hk => g2.block k hk (by simp)⟩
  have b3 : Below w2.heap.size w2 w3 := ⟨g3.os, g3.tape, g3.output, g3.size, fun k hk => g3.block k hk (by simp)⟩
  have l1 := u1.lt
  have l2 := u2.lt
  have h1 := g1.size
  have h2 := g2.size
  exact ⟨b1.trans ((b2.trans (b3.mono b2.size)).mono b1.size), ⟨_, (u1.of_block (b2.block _ l1)).of_block (b3.block _ (by omega)), fun j hj => absurd hj (by omega), fun _ _ => rfl⟩, ⟨_, u2.below b3, fun j hj => absurd hj (by omega), fun _ _ => rfl⟩, ⟨_, u3, fun j hj => absurd hj (by omega), fun _ _ => rfl⟩, ⟨fun h => (by cases h), fun ⟨j, hj, _⟩ => absurd hj (by omega)⟩, by omega, by omega, by omega, by omega, by omega, by omega⟩
end
/-- what the law has when its own model begins -/
structure L0 (W : World) (ks L : List (Fin 50)) (rr : Fin 50 → Int) (lo : Fin 50 → Int) (hi : Fin 50 → Bool) (ca : Option Addr) (cb : Nat) (mca : Option Addr) (mb : Nat) (mla : Option Addr) (lb : Nat) (xa : Option Addr) (xb : Nat) (dl : List Int) (dv : Value) (hl : List Int) (hv : Value) (n6 : Nat) (fl : Nat → Fin 5) (fv : Value) (n15 : Nat) (ql : Nat → Fin 5) (qv : Value) (ob zb : Nat) (rule : Int) : Prop where
  c : ∀ i, i < L.length → ∀ c, c < 6 → W.cell? ⟨cb, i * 6 + c, none⟩ = (rkd (rr (L.getD i 0)) (L.getD i 0))[c]?
  ca : 0 < L.length → ca = some ⟨cb, 0, none⟩
  m : ∀ j, j < ks.length → W.cell? ⟨mb, j * 2, none⟩ = some (.string (kd (ks.getD j 0))) ∧ W.cell? ⟨mb, j * 2 + 1, none⟩ = some (.int .u16 (ka (ks.getD j 0)))
  mca : 0 < ks.length → mca = some ⟨mb, 0, none⟩
  l : ∀ j, j < ks.length → W.cell? ⟨lb, j, none⟩ = some (.int .i64 (lo (ks.getD j 0)))
  mla : 0 < ks.length → mla = some ⟨lb, 0, none⟩
  x : ∀ j, j < ks.length → W.cell? ⟨xb, j, none⟩ = some (.bool (hi (ks.getD j 0)))
  xa : 0 < ks.length → xa = some ⟨xb, 0, none⟩
  d : RowV W dv dl.length (fun i => .int .u16 (dl.getD i 0))
  h : RowV W hv hl.length (fun i => .int .u16 (hl.getD i 0))
  f : RowV W fv n6 (fun i => .string (dig (fl i).val))
  q : RowV W qv n15 (fun i => .string (dig (ql i).val))
  o : W.cell? ⟨ob, 0, none⟩ = some (.string (dig 1))
  z : W.heap[zb]? = some (.cells #[.int .u8 rule, .int .u8 0, .int .i64 0] 64 (0, 0))
section
variable {W W' : World} {ks L : List (Fin 50)} {rr : Fin 50 → Int} {lo : Fin 50 → Int} {hi : Fin 50 → Bool} {ca : Option Addr} {cb : Nat} {mca : Option Addr} {mb : Nat} {mla : Option Addr} {lb : Nat} {xa : Option Addr} {xb : Nat} {dl : List Int} {dv : Value} {hl : List Int} {hv : Value} {n6 : Nat} {fl : Nat → Fin 5} {fv : Value} {n15 : Nat} {ql : Nat → Fin 5} {qv : Value} {ob zb : Nat} {rule : Int}
theorem L0.next (h : L0 W ks L rr lo hi ca cb mca mb mla lb xa xb dl dv hl hv n6 fl fv n15 ql qv ob zb rule) (g : Below W.heap.size W W') : L0 W' ks L rr lo hi ca cb mca mb mla lb xa xb dl dv hl hv n6 fl fv n15 ql qv ob zb rule := by
  have kc : ∀ b o v, W.cell? ⟨b, o, none⟩ = some v → W'.cell? ⟨b, o, none⟩ = some v := fun b o v hv => (World.cell?_of_block (w := W) (a := ⟨b, o, none⟩) (g.block b (lt_of_cell hv))).trans hv
  refine ⟨fun i hi c hc => ?_, h.ca, fun j hj => ⟨kc _ _ _ (h.m j hj).1, kc _ _ _ (h.m j hj).2⟩, h.mca, fun j hj => kc _ _ _ (h.l j hj), h.mla, fun j hj => kc _ _ _ (h.x j hj), h.xa, h.d.below g, h.h.below g, h.f.below g, h.q.below g, kc _ _ _ h.o, (g.block _ (lt_of_heap h.z)).trans h.z⟩
  have hh := h.c i hi c hc
  have h9 : c < (rkd (rr (L.getD i 0)) (L.getD i 0)).length := hc
  rw [List.getElem?_eq_getElem h9] at hh ⊢
  exact kc _ _ _ hh
theorem L0.ls (h : L0 W ks L rr lo hi ca cb mca mb mla lb xa xb dl dv hl hv n6 fl fv n15 ql qv ob zb rule) {W0 : World} {el : Fin 50 → Bool} {cl ho : Fin 50 → Int} {sa : Fin 50 → Prop} {eb sb hb : Nat} {sf : Bool} (g : L5 W0 W ks el cl ho sa eb sb hb ks.length sf) : LS W ks L rr el cl ho lo ca cb mca mb mla lb eb sb hb := by
  obtain ⟨D1, e1, e2, e3⟩ := g.e
  obtain ⟨D2, s1, s2, s3⟩ := g.s
  obtain ⟨D3, h1, h2, h3⟩ := g.h
  exact ⟨h.c, h.ca, h.m, h.mca, h.l, h.mla, fun j hj => by rw [e1.get hj, e2 j hj], fun j hj he => by rw [s1.get hj, s2 j hj he], fun j hj he => by rw [h1.get hj, h2 j hj he]⟩
end
end Go.Proofs.YbulkcuegFmt
