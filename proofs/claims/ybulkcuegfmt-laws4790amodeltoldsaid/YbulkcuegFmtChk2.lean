import Derived.Test.YbulkcuegFmtChk
namespace Go.Proofs.YbulkcuegFmt
open Go.RowKit Go.Maps

theorem idxOf_eq {l : List Int} {a b : Int} (ha : a ∈ l) (h : l.idxOf a = l.idxOf b) : a = b := by
  have la := List.idxOf_lt_length_of_mem ha
  have lb : l.idxOf b < l.length := by omega
  have e1 : l[l.idxOf a]'la = a := List.getElem_idxOf la
  have e2 : l[l.idxOf b]'lb = b := List.getElem_idxOf lb
  rw [← e1, ← e2]
  simp only [h]
theorem hoK_inj {dl hl : List Int} {a b : Nat} (ha : (a : Int) ∈ dl) (hb : (b : Int) ∈ dl) (h : hoK dl hl hl.length a = hoK dl hl hl.length b) : a = b := by
  unfold hoK at h
  rw [List.take_length] at h
  by_cases h1 : (a : Int) ∈ hl
  · rw [if_pos h1] at h
    have l1 := List.idxOf_lt_length_of_mem h1
    by_cases h2 : (b : Int) ∈ hl
    · rw [if_pos h2] at h
      exact Int.ofNat_inj.1 (idxOf_eq h1 (by omega))
    · rw [if_neg h2, if_pos hb] at h
      omega
  · rw [if_neg h1, if_pos ha] at h
    by_cases h2 : (b : Int) ∈ hl
    · rw [if_pos h2] at h
      have l1 := List.idxOf_lt_length_of_mem h2
      omega
    · rw [if_neg h2, if_pos hb] at h
      exact Int.ofNat_inj.1 (idxOf_eq ha (by omega))

theorem idxs_perm (hi : Fin 50 → Bool) (E : List (Fin 50)) (k : Nat) : (idxs hi E 0 k ++ (idxs hi E 1 k ++ idxs hi E 2 k)).Perm (List.range k) := by
  induction k with
  | zero => exact List.Perm.refl _
  | succ k ih =>
    rw [List.perm_iff_count] at ih ⊢
    intro a
    have := ih a
    rw [idxs_succ, idxs_succ, idxs_succ, List.range_succ]
    simp only [List.count_append] at this
    rcases cls_three hi (E.getD k 0) with h | h | h
    · rw [h, if_pos rfl, if_neg (by decide), if_neg (by decide)]
      simp only [List.count_append, List.append_nil]
      omega
    · rw [h, if_neg (by decide), if_pos rfl, if_neg (by decide)]
      simp only [List.count_append, List.append_nil]
      omega
    · rw [h, if_neg (by decide), if_neg (by decide), if_pos rfl]
      simp only [List.count_append, List.append_nil]
      omega
theorem ord_seg {hi : Fin 50 → Bool} {E : List (Fin 50)} {dl hl : List Int} {lo : Fin 50 → Int} {D : Nat → Int} (O : OrdOk hi E dl hl lo D) : (seg D 0 E.length).Perm ((List.range E.length).map fun i : Nat => (i : Int)) := by
  have hs := idxs_sum hi E E.length
  rw [seg_split D (show 0 ≤ (idxs hi E 0 E.length).length by omega) (show (idxs hi E 0 E.length).length ≤ E.length by omega), seg_split D (show (idxs hi E 0 E.length).length ≤ (idxs hi E 0 E.length).length + (idxs hi E 1 E.length).length by omega) (show (idxs hi E 0 E.length).length + (idxs hi E 1 E.length).length ≤ E.length by omega)]
  refine (O.q0.append (O.q1.append O.q2)).trans ?_
  rw [← List.map_append, ← List.map_append]
  exact (idxs_perm hi E E.length).map _
theorem Q_perm {hi : Fin 50 → Bool} {E : List (Fin 50)} {dl hl : List Int} {lo : Fin 50 → Int} {D : Nat → Int} (O : OrdOk hi E dl hl lo D) : (Qof E D).Perm E := by
  have h1 : Qof E D = (seg D 0 E.length).map fun z => E.getD z.toNat 0 := by
    unfold Qof seg
    rw [List.map_map, Nat.sub_zero]
    refine List.map_congr_left fun k _ => ?_
    simp
  have h2 : ((List.range E.length).map fun i : Nat => (i : Int)).map (fun z => E.getD z.toNat 0) = E := by
    rw [List.map_map]
    refine List.ext_getElem (by simp) fun i h1 h2 => ?_
    simp [List.getElem?_eq_getElem h2]
  rw [h1]
  refine ((ord_seg O).map _).trans ?_
  rw [h2]
theorem Q_cls {hi : Fin 50 → Bool} {E : List (Fin 50)} {dl hl : List Int} {lo : Fin 50 → Int} {D : Nat → Int} (O : OrdOk hi E dl hl lo D) {k : Nat} (hk : k < E.length) : clsOf hi (E.getD (D k).toNat 0) = if k < (idxs hi E 0 E.length).length then 0 else if k < (idxs hi E 0 E.length).length + (idxs hi E 1 E.length).length then 1 else 2 := by
  by_cases h0 : k < (idxs hi E 0 E.length).length
  · obtain ⟨i, h1, _, h3⟩ := mem_part (O.q0.mem_iff.1 (seg_mem.2 ⟨k, by omega, h0, rfl⟩))
    rw [if_pos h0, h1]; exact h3
  · by_cases h1 : k < (idxs hi E 0 E.length).length + (idxs hi E 1 E.length).length
    · obtain ⟨i, h2, _, h3⟩ := mem_part (O.q1.mem_iff.1 (seg_mem.2 ⟨k, by omega, h1, rfl⟩))
      rw [if_neg h0, if_pos h1, h2]; exact h3
    · obtain ⟨i, h2, _, h3⟩ := mem_part (O.q2.mem_iff.1 (seg_mem.2 ⟨k, by omega, hk, rfl⟩))
      rw [if_neg h0, if_neg h1, h2]; exact h3
theorem Q_pair {hi : Fin 50 → Bool} {E : List (Fin 50)} {dl hl : List Int} {lo : Fin 50 → Int} {D : Nat → Int} (O : OrdOk hi E dl hl lo D) (hE : E.Nodup) (hs : ∀ q ∈ E, sup dl q = true) : (Qof E D).Pairwise (Rel (clsOf hi) (witOf dl hl) lo) := by
  have hp := Q_perm O
  have hnd : (Qof E D).Nodup := hp.nodup_iff.2 hE
  rw [List.pairwise_iff_getElem]
  intro i j hi' hj hij
  have li : i < E.length := by rw [Qof_len] at hi'; exact hi'
  have lj : j < E.length := by rw [Qof_len] at hj; exact hj
  rw [← getD_get hi', ← getD_get hj]
  have mi := hp.mem_iff.1 (getD_mem hi')
  have mj := hp.mem_iff.1 (getD_mem hj)
  have hne : (Qof E D).getD i 0 ≠ (Qof E D).getD j 0 := fun e => absurd (getD_inj hnd hi' hj e) (by omega)
  rw [Qof_get li] at mi hne ⊢
  rw [Qof_get lj] at mj hne ⊢
  have ci := Q_cls O li
  have cj := Q_cls O lj
  refine ⟨by rw [ci, cj]; split <;> split <;> (try split) <;> (try split) <;> omega, fun he => ⟨fun hc => ?_, fun hc => ?_⟩⟩
  · have hj0 : j < (idxs hi E 0 E.length).length := by
      rw [cj] at hc
      split at hc
      · assumption
      · split at hc <;> cases hc
    have hle := O.w0 i j (by omega) hj0
    refine Classical.byContradiction fun hlt => hne ?_
    have hw : witOf dl hl (E.getD (D i).toNat 0) = witOf dl hl (E.getD (D j).toNat 0) := by omega
    have n1 : nt (E.getD (D i).toNat 0) = 1 := by
      have h : clsOf hi (E.getD (D i).toNat 0) = 0 := he.trans hc
      unfold clsOf at h
      split at h
      · assumption
      · split at h <;> cases h
    have n2 : nt (E.getD (D j).toNat 0) = 1 := by
      unfold clsOf at hc
      split at hc
      · assumption
      · split at hc <;> cases hc
    have s1 := hs _ mi
    have s2 := hs _ mj
    generalize E.getD (D i).toNat 0 = a at *
    generalize E.getD (D j).toNat 0 = b at *
    obtain ⟨x, hx, _⟩ := ka_nat a
    obtain ⟨y, hy, _⟩ := ka_nat b
    unfold witOf at hw
    rw [if_pos n1, if_pos n2, hx, hy] at hw
    simp [sup, hx] at s1
    simp [sup, hy] at s2
    have := hoK_inj s1.2 s2.2 (by simpa using hw)
    exact key_eq (n1.trans n2.symm) (by rw [hx, hy, this])
  · have hi2 : (idxs hi E 0 E.length).length + (idxs hi E 1 E.length).length ≤ i := by
      have h : clsOf hi (E.getD (D i).toNat 0) = 2 := he.trans hc
      rw [ci] at h
      split at h
      · cases h
      · split at h
        · cases h
        · omega
    exact O.w2 i j hi2 (by omega) lj
end Go.Proofs.YbulkcuegFmt
