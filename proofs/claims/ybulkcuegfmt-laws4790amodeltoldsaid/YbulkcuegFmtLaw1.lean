import Derived.Test.YbulkcuegFmtLaw0
namespace Go.Proofs.YbulkcuegFmt
open Go.RowKit Go.Maps

/-- how many of the eligible ones lie in a network -/
def cnt (ks : List (Fin 50)) (el : Fin 50 → Bool) (p : Fin 5) : Nat := (ks.filter fun q => el q && decide (nt q = p)).length
/-- what selection has handed back, without the memory -/
structure SelQ (ks Q L : List (Fin 50)) (rr rl : Fin 50 → Int) (rpd : Fin 5) (ql : Nat → Fin 5) (n15 : Nat) (mn : Bool) (el : Fin 50 → Bool) (cl ho lo : Fin 50 → Int) : Prop where
  perm : Q.Perm (ks.filter el)
  nd : Q.Nodup
  rule : ∀ q ∈ Q, rl q = ruleOf (cl q)
  pair : Q.Pairwise (Rel cl ho lo)
  sel : (∃ i, i < 1 + n15 ∧ (∀ j, j < i → ∀ q ∈ Q, nt q ≠ Pl rpd ql j) ∧ (∃ q, q ∈ Q ∧ nt q = Pl rpd ql i) ∧ L = selL Q (Pl rpd ql i) (if mn then 1 else 0) ∧ rr = fun q => if nt q = Pl rpd ql i then (if i = 0 then 6 else 7) else rl q) ∨ ((∀ j, j < 1 + n15 → ∀ q ∈ Q, nt q ≠ Pl rpd ql j) ∧ L = (if mn then [] else Q) ∧ rr = rl)

section
variable {ks Q L : List (Fin 50)} {rr rl : Fin 50 → Int} {rpd : Fin 5} {ql : Nat → Fin 5} {n15 : Nat} {mn : Bool} {el : Fin 50 → Bool} {cl ho lo : Fin 50 → Int}
theorem SelQ.cnt (h : SelQ ks Q L rr rl rpd ql n15 mn el cl ho lo) (p : Fin 5) : cnt ks el p = (Q.filter fun q => decide (nt q = p)).length := by
  unfold YbulkcuegFmt.cnt
  have h1 := (h.perm.filter fun q => decide (nt q = p)).length_eq
  rw [h1, List.filter_filter]
  congr 1
  refine List.filter_congr fun q _ => ?_
  rw [Bool.and_comm]
theorem SelQ.mem (h : SelQ ks Q L rr rl rpd ql n15 mn el cl ho lo) : ∀ q ∈ Q, q ∈ ks ∧ el q = true := fun q hq => by
  have := h.perm.mem_iff.1 hq
  rw [List.mem_filter] at this
  exact this
theorem SelQ.zero (h : SelQ ks Q L rr rl rpd ql n15 mn el cl ho lo) {p : Fin 5} (h0 : YbulkcuegFmt.cnt ks el p = 0) : ∀ q ∈ Q, nt q ≠ p := fun q hq e => by
  rw [h.cnt] at h0
  have := List.length_eq_zero_iff.1 h0
  have hm : q ∈ (Q.filter fun q => decide (nt q = p)) := List.mem_filter.2 ⟨hq, by simp [e]⟩
  rw [this] at hm
  simp at hm
theorem SelQ.pos (h : SelQ ks Q L rr rl rpd ql n15 mn el cl ho lo) {p : Fin 5} (h0 : 0 < YbulkcuegFmt.cnt ks el p) : ∃ q, q ∈ Q ∧ nt q = p := by
  rw [h.cnt] at h0
  obtain ⟨q, hq⟩ := List.exists_mem_of_length_pos h0
  rw [List.mem_filter] at hq
  exact ⟨q, hq.1, by simpa using hq.2⟩
theorem selL_len (Q : List (Fin 50)) (p : Fin 5) : (selL Q p 0).length = Q.length := by
  unfold selL
  rw [if_neg (by decide), List.length_append]
  induction Q with
  | nil => rfl
  | cons q Q ih =>
    by_cases e : nt q = p <;> simp [e] at ih ⊢ <;> omega
/-- behind the sixth loop, where it has found one -/
theorem SelQ.found (h : SelQ ks Q L rr rl rpd ql n15 mn el cl ho lo) {i : Nat} (hi : i < 1 + n15) (hno : ∀ j, j < i → YbulkcuegFmt.cnt ks el (Pl rpd ql j) = 0) (hp : 0 < YbulkcuegFmt.cnt ks el (Pl rpd ql i)) :
    Chk ks L rr (YbulkcuegFmt.cnt ks el (Pl rpd ql i)) (Pl rpd ql i) (if i = 0 then 6 else 7) el cl ho lo ∧ (mn = true → L.length = YbulkcuegFmt.cnt ks el (Pl rpd ql i)) ∧ (mn = false → L.length = (ks.filter el).length) := by
  have hz : ∀ j, j < i → ∀ q ∈ Q, nt q ≠ Pl rpd ql j := fun j hj => h.zero (hno j hj)
  obtain ⟨q0, hq0, hn0⟩ := h.pos hp
  rcases h.sel with ⟨i', hi', hz', ⟨q1, hq1, hn1⟩, rfl, rfl⟩ | ⟨hz', _⟩
  · have e : i' = i := by
      rcases Nat.lt_trichotomy i' i with hlt | he | hgt
      · exact absurd hn1 (hz i' hlt q1 hq1)
      · exact he
      · exact absurd hn0 (hz' i hgt q0 hq0)
    subst e
    refine ⟨?_, fun hm => ?_, fun hm => ?_⟩
    · rw [h.cnt]
      exact chk_split h.mem h.nd h.rule h.pair _
    · rw [h.cnt, hm]
      unfold selL
      simp
    · rw [hm, ← h.perm.length_eq]
      exact selL_len _ _
  · exact absurd hn0 (hz' i hi q0 hq0)
/-- behind the sixth loop, where it has found none -/
theorem SelQ.none (h : SelQ ks Q L rr rl rpd ql n15 mn el cl ho lo) (hno : ∀ j, j < 1 + n15 → YbulkcuegFmt.cnt ks el (Pl rpd ql j) = 0) (fP : Fin 5) (fR : Int) :
    Chk ks L rr 0 fP fR el cl ho lo ∧ (mn = true → L.length = 0) ∧ (mn = false → L.length = (ks.filter el).length) := by
  rcases h.sel with ⟨i', hi', _, ⟨q1, hq1, hn1⟩, _⟩ | ⟨_, rfl, rfl⟩
  · exact absurd hn1 (h.zero (hno i' hi') q1 hq1)
  · cases mn
    · refine ⟨?_, fun hm => by simp at hm, fun _ => ?_⟩
      · exact chk_whole h.mem h.nd h.rule h.pair
      · exact h.perm.length_eq
    · exact ⟨chk_nil, fun _ => rfl, fun hm => by simp at hm⟩
end
/-- the count, step by step -/
def cntT (ks : List (Fin 50)) (el : Fin 50 → Bool) (p : Fin 5) (k : Nat) : Nat := ((ks.take k).filter fun q => el q && decide (nt q = p)).length
theorem cntT_zero (ks : List (Fin 50)) (el : Fin 50 → Bool) (p : Fin 5) : cntT ks el p 0 = 0 := by simp [cntT]
theorem cntT_all (ks : List (Fin 50)) (el : Fin 50 → Bool) (p : Fin 5) : cntT ks el p ks.length = cnt ks el p := by simp [cntT, cnt]
theorem cntT_yes {ks : List (Fin 50)} {el : Fin 50 → Bool} {p : Fin 5} {k : Nat} (hk : k < ks.length) (h : (el (ks.getD k 0) && decide (nt (ks.getD k 0) = p)) = true) : cntT ks el p (k + 1) = cntT ks el p k + 1 := by
  unfold cntT
  rw [take_filter_snoc _ hk, if_pos h, List.length_append]
  rfl
theorem cntT_no {ks : List (Fin 50)} {el : Fin 50 → Bool} {p : Fin 5} {k : Nat} (hk : k < ks.length) (h : (el (ks.getD k 0) && decide (nt (ks.getD k 0) = p)) = false) : cntT ks el p (k + 1) = cntT ks el p k := by
  unfold cntT
  rw [take_filter_snoc _ hk, if_neg (by rw [h]; decide), List.append_nil]
theorem cntT_le (ks : List (Fin 50)) (el : Fin 50 → Bool) (p : Fin 5) (k : Nat) : cntT ks el p k ≤ k := by
  unfold cntT
  refine Nat.le_trans (List.length_filter_le _ _) ?_
  simp
  omega
end Go.Proofs.YbulkcuegFmt
