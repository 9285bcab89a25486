import Derived.Test.YbulkcuegFmtRank1
namespace Go.Proofs.YbulkcuegFmt
open Go.RowKit Go.Maps

/-- the forbidden networks, as a map -/
def fN (n6 : Nat) (fl : Nat → Fin 5) : Fin 5 → Option Nat := fun d => if ∃ i, i < n6 ∧ fl i = d then some 0 else none
theorem fN_none {n6 : Nat} {fl : Nat → Fin 5} {nb : Fin 5 → Option Nat} (h : ∀ d, nb d ≠ none ↔ ∃ i, i < n6 ∧ fl i = d) (d : Fin 5) : (nb d).isNone = (fN n6 fl d).isNone ∧ (nb d).isSome = (fN n6 fl d).isSome := by
  unfold fN
  by_cases hd : ∃ i, i < n6 ∧ fl i = d
  · rw [if_pos hd]
    have := (h d).2 hd
    cases e : nb d with
    | none => exact absurd e this
    | some b => simp
  · rw [if_neg hd]
    cases e : nb d with
    | none => simp
    | some b => exact absurd ((h d).1 (by rw [e]; simp)) hd
theorem elig_congr {n6 : Nat} {fl : Nat → Fin 5} {nb : Fin 5 → Option Nat} (h : ∀ d, nb d ≠ none ↔ ∃ i, i < n6 ∧ fl i = d) (dl : List Int) : elig dl nb = elig dl (fN n6 fl) := by
  funext q
  unfold elig
  rw [(fN_none h (nt q)).1]
theorem aside_congr {n6 : Nat} {fl : Nat → Fin 5} {nb : Fin 5 → Option Nat} (h : ∀ d, nb d ≠ none ↔ ∃ i, i < n6 ∧ fl i = d) (dl : List Int) : aside dl nb = aside dl (fN n6 fl) := by
  funext q
  unfold aside
  rw [(fN_none h (nt q)).2]

/-- what is read of the device behind its ranking -/
def DevR (W : World) (dv : Nat) (md : Int) (rp : ByteArray) (n15 : Nat) (el : Nat → Fin 5) : Prop :=
  ∃ a15 k15, W.cell? ⟨dv, 9, none⟩ = some (.int .u8 md) ∧ W.cell? ⟨dv, 14, none⟩ = some (.string rp) ∧ W.cell? ⟨dv, 15, none⟩ = some (.slice a15 n15 k15) ∧ RowB W 0 (.slice a15 n15 k15) n15 (fun i => .string (dig (el i).val))

theorem cnd_of_owns {W : World} {base m : Nat} {v : Value} {ks : List (Fin 50)} {gH : Fin 50 → Bool} {gL : Fin 50 → Int} (hm : ks.length = m) (h : W.ownsRow base 129 10 v m ((List.range (m * 10)).map (candV ks gH gL))) (hne : v ≠ .slice none 0 0) :
    ∃ g c, v = .slice (some ⟨g, 0, none⟩) m c ∧ base ≤ g ∧ Cnd W g c ks (fun q => news q (gH q) (gL q)) := by
  subst hm
  rcases h.2 with ⟨h0, _⟩ | ⟨g, c, cu, h0, hb, hh, hnc, _, hcs, ht⟩
  · exact absurd h0 hne
  · refine ⟨g, c, h0, hb, cu, hh, hcs, hnc, fun i hi j hj => ?_⟩
    have e1 : (cu.toList.take (ks.length * 10))[i * 10 + j]? = ((List.range (ks.length * 10)).map (candV ks gH gL))[i * 10 + j]? := by rw [ht]
    rw [List.getElem?_take, if_pos (by omega)] at e1
    have hx : i * 10 + j < ks.length * 10 := by omega
    simp only [List.getElem?_map, List.getElem?_range hx, Option.map_some, Array.getElem?_toList] at e1
    rw [e1]
    unfold candV
    rw [show (i * 10 + j) / 10 = i by omega, show (i * 10 + j) % 10 = j by omega]
    generalize ks.getD i 0 = q
    have h9 : j < (news q (gH q) (gL q)).length := hj
    rw [List.getD, List.getElem?_eq_getElem h9]
    rfl
theorem candNews {W : World} {db m : Nat} {f : Nat → Value} (h : ∀ x, x < m * 10 → W.cell? ⟨db, x, none⟩ = some (f x)) : ∀ j u, ((List.range (m * 10)).map f)[j]? = some u → W.cell? ⟨db, 0 + j, none⟩ = some u := fun j u hu => by
  rw [Nat.zero_add]
  by_cases hj : j < m * 10
  · simp [hj] at hu
    rw [← hu]; exact h j hj
  · simp [hj] at hu
theorem candOne (ks : List (Fin 50)) (gH : Fin 50 → Bool) (gL : Fin 50 → Int) {m : Nat} : ∀ u ∈ (List.range (m * 10)).map (candV ks gH gL), u.oneCell' = true := fun u hu => by
  obtain ⟨x, _, rfl⟩ := List.mem_map.1 hu
  unfold candV
  generalize ks.getD (x / 10) 0 = q
  have hx : x % 10 < 10 := by omega
  generalize x % 10 = j at hx
  rcases j with _ | _ | _ | _ | _ | _ | _ | _ | _ | _ | j
  · rfl
  · rfl
  · rfl
  · rfl
  · rfl
  · rfl
  · rfl
  · rfl
  · rfl
  · rfl
  · omega
end Go.Proofs.YbulkcuegFmt
