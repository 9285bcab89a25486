import Derived.Test.YbulkcuegFmtReg
namespace Go.Proofs.YbulkcuegFmt
open Go.RowKit Go.Maps

/-- the ranking, a list -/
def Qof (E : List (Fin 50)) (D : Nat → Int) : List (Fin 50) := (List.range E.length).map fun k => E.getD (D k).toNat 0
theorem Qof_len (E : List (Fin 50)) (D : Nat → Int) : (Qof E D).length = E.length := by simp [Qof]
theorem Qof_get {E : List (Fin 50)} {D : Nat → Int} {k : Nat} (hk : k < E.length) : (Qof E D).getD k 0 = E.getD (D k).toNat 0 := by
  unfold Qof
  rw [List.getD_eq_getElem?_getD, List.getElem?_map, List.getElem?_range hk]
  rfl
theorem rk6_rkd (rl : Nat → Int) (qs : Nat → Fin 50) (i c : Nat) (hc : c < 6) : some (rk6 rl qs i c) = (rkd (rl i) (qs i))[c]? := by
  rcases c with _ | _ | _ | _ | _ | _ | c
  · rfl
  · rfl
  · rfl
  · rfl
  · rfl
  · rfl
  · omega
/-- the rows that selection hands back -/
def selL (Q : List (Fin 50)) (p : Fin 5) (md : Int) : List (Fin 50) := if md = 1 then Q.filter (fun q => decide (nt q = p)) else Q.filter (fun q => decide (nt q = p)) ++ Q.filter (fun q => !decide (nt q = p))
def SelP (w' : World) (Q : List (Fin 50)) (rl : Fin 50 → Int) (rpd : Fin 5) (el : Nat → Fin 5) (n15 : Nat) (md : Int) (S : Prop) (vc : Value) (rule : Int) : Prop :=
  ((∃ i, i < 1 + n15 ∧ (∀ j, j < i → ∀ q ∈ Q, nt q ≠ Pl rpd el j) ∧ (∃ q, q ∈ Q ∧ nt q = Pl rpd el i) ∧ RkSl w' vc (selL Q (Pl rpd el i) md) (fun q => if nt q = Pl rpd el i then (if i = 0 then 6 else 7) else rl q)) ∨
    ((∀ j, j < 1 + n15 → ∀ q ∈ Q, nt q ≠ Pl rpd el j) ∧ RkSl w' vc (if md = 1 then [] else Q) rl)) ∧
  ((md = 1 ∧ rule = 15) ∨ (md ≠ 1 ∧ ((S ∧ rule = 14) ∨ (¬ S ∧ rule = 13))))
theorem rkF_congr {rl rl' : Fin 50 → Int} {L : List (Fin 50)} (h : ∀ q ∈ L, rl q = rl' q) : rkF rl L = rkF rl' L := by
  induction L with
  | nil => rfl
  | cons q L ih =>
    unfold rkF at *
    rw [List.flatMap_cons, List.flatMap_cons, h q (by simp), ih (fun x hx => h x (by simp [hx]))]
theorem rkF_app (rl : Fin 50 → Int) (F G : List (Fin 50)) : rkF rl (F ++ G) = rkF rl F ++ rkF rl G := by simp [rkF]
theorem RkOwn.congr {W : World} {base : Nat} {v : Value} {L : List (Fin 50)} {rl rl' : Fin 50 → Int} (h : RkOwn W base v L rl) (e : ∀ q ∈ L, rl q = rl' q) : RkOwn W base v L rl' := by
  show World.ownsRow _ _ _ _ _ _ _
  rw [← rkF_congr e]
  exact h
end Go.Proofs.YbulkcuegFmt
