import Derived.Test.YbulkcuegFmtDevRank2
import Derived.Test.YbulkcuegFmtConcat
import Derived.Maps.AppendAt
namespace Go.Proofs.YbulkcuegFmt
open Go.RowKit Go.Maps

/-- two rows that share no block -/
def Apart (v1 v2 : Value) : Prop := ∀ g, v1.ownBlock = some g → v2.ownBlock ≠ some g
theorem Apart.symm {v1 v2 : Value} (h : Apart v1 v2) : Apart v2 v1 := fun g h1 h2 => h g h2 h1
theorem own_lt {W : World} {base e sz n : Nat} {v : Value} {xs : List Value} (h : W.ownsRow base e sz v n xs) {g : Nat} (hg : v.ownBlock = some g) : g < W.heap.size := by
  rcases h.2 with ⟨h0, _⟩ | ⟨g', c', cu, h0, _, hh, _⟩
  · rw [h0] at hg; simp [Value.ownBlock] at hg
  · rw [h0] at hg
    simp [Value.ownBlock] at hg
    subst hg
    exact lt_of_heap hh
theorem own_other {W W' : World} {base e sz n : Nat} {v v1 : Value} {xs : List Value} (h : W.ownsRow base e sz v n xs) (hg : W.grownBy W' v1.ownBlock) (ha : Apart v v1) : W'.ownsRow base e sz v n xs := by
  refine ⟨h.1, ?_⟩
  rcases h.2 with h0 | ⟨g, c, cu, h1, h2, hh, h3⟩
  · exact .inl h0
  · exact .inr ⟨g, c, cu, h1, h2, (hg.block g (lt_of_heap hh) (fun e => ha g (by rw [h1]; rfl) e.symm)).trans hh, h3⟩
theorem apart_step {W : World} {base e sz n : Nat} {v v1 v1' : Value} {xs : List Value} (h : W.ownsRow base e sz v n xs) (ha : Apart v v1) (hat : v1'.ownBlock = v1.ownBlock ∨ v1'.ownBlock = some W.heap.size) : Apart v v1' := fun g hg e => by
  have hl := own_lt h hg
  rcases hat with h1 | h1
  · exact ha g hg (h1.symm.trans e)
  · rw [h1] at e
    injection e with e
    omega
theorem apart_nil (v : Value) : Apart (.slice none 0 0) v := fun g h => by simp [Value.ownBlock] at h

/-- the cells of ranked combinations -/
def rkF (rl : Fin 50 → Int) (L : List (Fin 50)) : List Value := L.flatMap fun q => rkd (rl q) q
theorem rkF_snoc (rl : Fin 50 → Int) (L : List (Fin 50)) (q : Fin 50) : rkF rl (L ++ [q]) = rkF rl L ++ rkd (rl q) q := by simp [rkF]
theorem rkF_len (rl : Fin 50 → Int) (L : List (Fin 50)) : (rkF rl L).length = L.length * 6 := by
  induction L with
  | nil => rfl
  | cons q L ih =>
    unfold rkF at *
    rw [List.flatMap_cons, List.length_append, ih, List.length_cons]
    simp
    omega
theorem rkF_get (rl : Fin 50 → Int) (L : List (Fin 50)) (i c : Nat) (hi : i < L.length) (hc : c < 6) : (rkF rl L)[i * 6 + c]? = (rkd (rl (L.getD i 0)) (L.getD i 0))[c]? := by
  induction L generalizing i with
  | nil => simp at hi
  | cons q L ih =>
    unfold rkF
    rw [List.flatMap_cons]
    cases i with
    | zero =>
      rw [List.getElem?_append_left (by simp; omega), Nat.zero_mul, Nat.zero_add]
      rfl
    | succ i =>
      rw [List.getElem?_append_right (by simp; omega)]
      have := ih i (by simp at hi; omega)
      rw [show (i + 1) * 6 + c - (rkd (rl q) q).length = i * 6 + c by simp; omega]
      exact this
theorem rkF_one (rl : Fin 50 → Int) (L : List (Fin 50)) : ∀ u ∈ rkF rl L, u.oneCell' = true := fun u hu => by
  unfold rkF at hu
  obtain ⟨q, _, h⟩ := List.mem_flatMap.1 hu
  simp at h
  rcases h with rfl | rfl | rfl | rfl | rfl | rfl <;> rfl
abbrev RkOwn (W : World) (base : Nat) (v : Value) (L : List (Fin 50)) (rl : Fin 50 → Int) : Prop := W.ownsRow base 66 6 v L.length (rkF rl L)
/-- a slice of ranked combinations, as it is read -/
def RkSl (W : World) (v : Value) (L : List (Fin 50)) (rl : Fin 50 → Int) : Prop :=
  ∃ va cap b, v = .slice va L.length cap ∧ (0 < L.length → va = some ⟨b, 0, none⟩) ∧ (va = none → cap = 0) ∧ (∀ a, va = some a → a = ⟨b, 0, none⟩) ∧ ∀ i, i < L.length → ∀ c, c < 6 → W.cell? ⟨b, i * 6 + c, none⟩ = (rkd (rl (L.getD i 0)) (L.getD i 0))[c]?
theorem RkOwn.sl {W : World} {base : Nat} {v : Value} {L : List (Fin 50)} {rl : Fin 50 → Int} (h : RkOwn W base v L rl) : RkSl W v L rl := by
  rcases h.2 with ⟨h0, h1⟩ | ⟨g, c, cu, h0, _, hh, hnc, _, hcs, ht⟩
  · exact ⟨none, 0, 0, by rw [h0, h1], fun h => (by omega), fun _ => rfl, fun a e => (by cases e), fun i hi => (by omega)⟩
  · refine ⟨_, c, g, h0, fun _ => rfl, fun e => (by cases e), fun a e => (Option.some.inj e).symm, fun i hi c' hc' => ?_⟩
    have e1 : (cu.toList.take (L.length * 6))[i * 6 + c']? = (rkF rl L)[i * 6 + c']? := by rw [ht]
    rw [List.getElem?_take, if_pos (by omega), rkF_get rl L i c' hi hc'] at e1
    rw [← e1]
    simp [World.cell?, hh]

theorem eqk2 (q : Fin 50) (p : Fin 5) (w : World) : (binOp .eql 29 (.agg #[.string (kd q)]) (.agg #[.string (dig p.val)])).run Ybaf.prog w = .ok (.bool (decide (nt q = p))) w := eq29 (nt q) p w
/-- the networks that are looked for, in order -/
def Pl (rpd : Fin 5) (el : Nat → Fin 5) (i : Nat) : Fin 5 := if i = 0 then rpd else el (i - 1)
/-- registeredFirst's outcome -/
def RegP (w w' : World) (Q : List (Fin 50)) (rl : Fin 50 → Int) (rpd : Fin 5) (el : Nat → Fin 5) (n15 : Nat) (vr v1 v2 : Value) : Prop :=
  Below w.heap.size w w' ∧ ((∃ i, i < 1 + n15 ∧ (∀ j, j < i → ∀ q ∈ Q, nt q ≠ Pl rpd el j) ∧ (∃ q, q ∈ Q ∧ nt q = Pl rpd el i) ∧ RkOwn w' w.heap.size v1 (Q.filter fun q => decide (nt q = Pl rpd el i)) (fun _ => if i = 0 then 6 else 7) ∧ RkOwn w' w.heap.size v2 (Q.filter fun q => !decide (nt q = Pl rpd el i)) rl) ∨
    ((∀ j, j < 1 + n15 → ∀ q ∈ Q, nt q ≠ Pl rpd el j) ∧ v1 = .slice none 0 0 ∧ v2 = vr))
end Go.Proofs.YbulkcuegFmt
