import Derived.Test.YbulkcuegFmtSelect
namespace Go.Proofs.YbulkcuegFmt
open Go.RowKit Go.Maps

/-- what the law looks at between two candidates that follow one another -/
def Rel (cl ho lo : Fin 50 → Int) (a b : Fin 50) : Prop := cl a ≤ cl b ∧ (cl a = cl b → (cl b = 0 → ho a < ho b) ∧ (cl b = 2 → lo b ≤ lo a))
/-- what the law looks at -/
structure Chk (ks L : List (Fin 50)) (rr : Fin 50 → Int) (nF : Nat) (fP : Fin 5) (fR : Int) (el : Fin 50 → Bool) (cl ho lo : Fin 50 → Int) : Prop where
  mem : ∀ q ∈ L, q ∈ ks ∧ el q = true
  nd : L.Nodup
  fst : ∀ k, k < L.length → k < nF → nt (L.getD k 0) = fP ∧ rr (L.getD k 0) = fR
  rst : ∀ k, k < L.length → ¬ k < nF → (0 < nF → nt (L.getD k 0) ≠ fP) ∧ rr (L.getD k 0) = ruleOf (cl (L.getD k 0))
  ord : ∀ k, 0 < k → k < L.length → k ≠ nF → Rel cl ho lo (L.getD (k - 1) 0) (L.getD k 0)

theorem getD_get {L : List (Fin 50)} {k : Nat} (h : k < L.length) : L.getD k 0 = L[k] := by simp [List.getD, h]
theorem pair_at {L : List (Fin 50)} {R : Fin 50 → Fin 50 → Prop} (h : L.Pairwise R) {i j : Nat} (hij : i < j) (hj : j < L.length) : R (L.getD i 0) (L.getD j 0) := by
  rw [getD_get (show i < L.length by omega), getD_get hj]
  exact List.pairwise_iff_getElem.1 h i j (by omega) hj hij

theorem getD_left {F G : List (Fin 50)} {k : Nat} (h : k < F.length) : (F ++ G).getD k 0 = F.getD k 0 := by simp [List.getD, List.getElem?_append_left h]
theorem getD_right {F G : List (Fin 50)} {k : Nat} (h : ¬ k < F.length) : (F ++ G).getD k 0 = G.getD (k - F.length) 0 := by simp [List.getD, List.getElem?_append_right (by omega : F.length ≤ k)]

/-- the two parts of a list that is in order -/
theorem chk_split {ks Q : List (Fin 50)} {rl : Fin 50 → Int} {p : Fin 5} {r : Int} {el : Fin 50 → Bool} {cl ho lo : Fin 50 → Int} (hm : ∀ q ∈ Q, q ∈ ks ∧ el q = true) (hnd : Q.Nodup) (hr : ∀ q ∈ Q, rl q = ruleOf (cl q)) (hp : Q.Pairwise (Rel cl ho lo)) (md : Int) :
    Chk ks (selL Q p md) (fun q => if nt q = p then r else rl q) (Q.filter fun q => decide (nt q = p)).length p r el cl ho lo := by
  have hF : ∀ q, q ∈ (Q.filter fun q => decide (nt q = p)) → q ∈ Q ∧ nt q = p := fun q h => by rw [List.mem_filter] at h; exact ⟨h.1, by simpa using h.2⟩
  have hG : ∀ q, q ∈ (Q.filter fun q => !decide (nt q = p)) → q ∈ Q ∧ ¬ nt q = p := fun q h => by rw [List.mem_filter] at h; exact ⟨h.1, by simpa using h.2⟩
  unfold selL
  have pF : (Q.filter fun q => decide (nt q = p)).Pairwise (Rel cl ho lo) := List.Pairwise.filter _ hp
  have pG : (Q.filter fun q => !decide (nt q = p)).Pairwise (Rel cl ho lo) := List.Pairwise.filter _ hp
  have dF : (Q.filter fun q => decide (nt q = p)).Nodup := List.Pairwise.filter _ hnd
  have dG : (Q.filter fun q => !decide (nt q = p)).Nodup := List.Pairwise.filter _ hnd
  generalize (Q.filter fun q => decide (nt q = p)) = F at *
  generalize (Q.filter fun q => !decide (nt q = p)) = G at *
  by_cases h1 : md = 1
  · rw [if_pos h1]
    refine ⟨fun q h => hm q (hF q h).1, dF, fun k hk _ => ?_, fun k hk h => absurd hk h, fun k h0 hk _ => pair_at pF (by omega) hk⟩
    have := (hF _ (getD_mem hk)).2
    exact ⟨this, by simp only [this, if_true]⟩
  · rw [if_neg h1]
    refine ⟨fun q h => ?_, ?_, fun k hk hf => ?_, fun k hk hf => ?_, fun k h0 hk hne => ?_⟩
    · rcases List.mem_append.1 h with h | h
      · exact hm q (hF q h).1
      · exact hm q (hG q h).1
    · refine List.nodup_append.2 ⟨dF, dG, fun a ha b hb e => ?_⟩
      subst e
      exact (hG a hb).2 (hF a ha).2
    · rw [getD_left hf]
      have := (hF _ (getD_mem hf)).2
      exact ⟨this, by simp only [this, if_true]⟩
    · rw [getD_right hf]
      have hk' : k - F.length < G.length := by simp at hk; omega
      have h2 := hG _ (getD_mem hk')
      exact ⟨fun _ => h2.2, by simp only [h2.2, if_false]; exact hr _ h2.1⟩
    · by_cases hf : k < F.length
      · rw [getD_left hf, getD_left (show k - 1 < F.length by omega)]
        exact pair_at pF (by omega) hf
      · rw [getD_right hf, getD_right (show ¬ k - 1 < F.length by omega)]
        exact pair_at pG (by omega) (by simp at hk; omega)
theorem chk_whole {ks Q : List (Fin 50)} {rl : Fin 50 → Int} {fP : Fin 5} {fR : Int} {el : Fin 50 → Bool} {cl ho lo : Fin 50 → Int} (hm : ∀ q ∈ Q, q ∈ ks ∧ el q = true) (hnd : Q.Nodup) (hr : ∀ q ∈ Q, rl q = ruleOf (cl q)) (hp : Q.Pairwise (Rel cl ho lo)) : Chk ks Q rl 0 fP fR el cl ho lo :=
  ⟨hm, hnd, fun k _ h => absurd h (by omega), fun k hk _ => ⟨fun h => absurd h (by omega), hr _ (getD_mem hk)⟩, fun k h0 hk _ => pair_at hp (by omega) hk⟩
theorem chk_nil {ks : List (Fin 50)} {rl : Fin 50 → Int} {fP : Fin 5} {fR : Int} {el : Fin 50 → Bool} {cl ho lo : Fin 50 → Int} : Chk ks [] rl 0 fP fR el cl ho lo :=
  ⟨fun q h => by simp at h, List.nodup_nil, fun k hk => by simp at hk, fun k hk => by simp at hk, fun k _ hk => by simp at hk⟩
end Go.Proofs.YbulkcuegFmt
